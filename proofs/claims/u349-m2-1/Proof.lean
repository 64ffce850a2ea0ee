import JvmDerived
import JvmDerived.Pilot.@@N@@Statement
import JvmDerived.Pilot.@@N@@Code
set_option linter.unusedVariables false
set_option linter.unusedSimpArgs false
@@BLOCK:HandJ.lean.txt@@
@@BLOCK:SymMore.lean.txt@@
namespace Jvm.Pilot.@@N@@
open Jvm Jvm.ClassFile Sem Op Lib Jvm.Free Jvm.Stand Jvm.LawKit Jvm.RoadKit Bundle Jvm.Pilot.@@N@@.Jvm.D
/-! ## the common layer: a run that comes to an end of which Q speaks, step by step backwards -/
def Go (p : Program) (e : Env) (below : List Frame) (Q : Outcome → State → Prop) (S : State) : Prop :=
  ∃ s₂ o, Steps p.tables e below S s₂ ∧ s₂.status = .running ∧ Ended s₂ below o ∧ Q o s₂
theorem Go.back {p : Program} {e : Env} {below : List Frame} {Q : Outcome → State → Prop} {A B : State} (k : ∀ t, Steps p.tables e below B t → Steps p.tables e below A t) (h : Go p e below Q B) : Go p e below Q A := by
  obtain ⟨t, o, h1, h2⟩ := h
  exact ⟨t, o, k _ h1, h2⟩
theorem Go.cast {p : Program} {e : Env} {below : List Frame} {Q : Outcome → State → Prop} {A B : State} (k : A = B) (h : Go p e below Q B) : Go p e below Q A := k ▸ h
abbrev jv (x : Int64) : Slot := .val (.long x)
abbrev dv (x : UInt64) : Slot := .val (.double x)
abbrev un : Slot := .unset
abbrev sc : Slot := .second
/-- what a body knows of itself -/
def Cx (p : Program) (s : State) (m : MethodId) (meth : Method) (c : Code) (Z : State) (a0 : Array Value) (own : String) (bytes : ByteArray) (maxL : Nat) (ret : Option FieldType) (nm : String) : Prop :=
  p.tables.exec = Jvm.exec ∧ Z.Warmed39 s.vm ∧ (∀ d ∈ tables_1, d.before a0 Z = true) ∧ s.vm.findClass own = some m.cls ∧ c.code = bytes ∧ c.maxLocals = maxL ∧ meth.sig.returnType = ret ∧ meth.locks = false ∧ meth.name = nm
/-- where the run stands: heap h; every write so far lies at or above n0; k cells and n slots made at the most -/
def St (Z : State) (p : Program) (l : Launch) (e : Env) (R : Room) (s : State) (m : MethodId) (args : Array Value) (below : List Frame) (meth : Method) (c : Code) (n0 : Nat) (T : State) (h : Heap) (k n : Nat) : Prop :=
  ∃ locs, Stand p l e R s m args below meth c T locs k n ∧ Fr n0 locs ∧ Old Z n0 s.heap ∧ T.heap = h
def FinQ (s : State) (k n n0 : Nat) (Q : Option Value → Heap → Prop) (o : Outcome) (t : State) : Prop := ∃ v L, o = .returned v ∧ (Fr n0 L ∧ Q v t.heap) ∧ FrameEnd s o t L k n
/-- a body's contract -/
def Con (l : Launch) (Z : State) (y : MethodName) (bytes : ByteArray) (maxL : Nat) (ret : Option FieldType) (rm : Room) (as' : Array Value) (h : Heap) (n0 : Nat) (Q : Option Value → Heap → Prop) : Prop :=
  ∀ ws, MetFree l y (head1 (Jvm.Cond.code y bytes maxL ret :: ws) rm) (fun a U => a = as' ∧ Z.Warmed39 U.vm ∧ U.heap = h) (fun _ _ _ _ _ => True) (fun _ U o U' => ∃ v L, o = .returned v ∧ (Fr n0 L ∧ Q v U'.heap) ∧ FrameEnd U o U' L rm.cells rm.slots)
theorem con_of {l : Launch} {Z : State} {a0 : Array Value} {y : MethodName} {bytes : ByteArray} {maxL : Nat} {ret : Option FieldType} {rm : Room} {as' : Array Value} {h : Heap} {n0 : Nat} {Q : Option Value → Heap → Prop}
    (hw : ∀ d ∈ tables_1, d.before a0 Z = true) (hpl : plainFor y = true) (hn0 : Old Z n0 h)
    (body : ∀ p e s m below meth c T, Cx p s m meth c Z a0 y.cls bytes maxL ret y.name → St Z p l e rm s m as' below meth c n0 T h 0 0 → Go p e below (FinQ s rm.cells rm.slots n0 Q) (T.setTop (entryFrame m as' maxL))) :
    Con l Z y bytes maxL ret rm as' h n0 Q := by
  intro ws
  refine MetFree.of_bodySF hpl hisR ?_
  intro p e s m args below meth c s₁ Bd hml0 hP hK
  obtain ⟨rfl, hZ, hh⟩ := hP
  have e0 : s₁.heap = h := by rw [← hh, Bd.state]; rfl
  exact body p e s m below meth c s₁ ⟨Bd.exec, hZ, hw, findClass_of_methodNamed Bd.named, Bd.bytes, hml0, Bd.returns, Bd.notSynchronized, (name_of_methodNamed Bd.named Bd.method).1⟩ ⟨[], Stand.of_body Bd, Fr.nil n0, by rw [hh]; exact hn0, e0⟩
section Steps1
variable {p : Program} {l : Launch} {e : Env} {R : Room} {s : State} {m : MethodId} {args : Array Value} {below : List Frame} {meth : Method} {c : Code} {Z : State} {a0 : Array Value} {own : String} {bytes : ByteArray} {maxL : Nat} {ret : Option FieldType} {nm : String} {n0 : Nat} {T : State} {h : Heap} {k n : Nat} {Q : Outcome → State → Prop} {pc pc' pc2 : Nat} {Ls Ls' : Array Slot} {st : List Value}
theorem Cx.w (C : Cx p s m meth c Z a0 own bytes maxL ret nm) (i : Nat) {d : Jvm.Cond} (hd : tables_1[i]? = some d) : d.before a0 Z = true := C.2.2.1 _ (List.mem_of_getElem? hd)
theorem Cx.ws (C : Cx p s m meth c Z a0 own bytes maxL ret nm) : ∀ d ∈ tables_1, d.before a0 Z = true := C.2.2.1
theorem Cx.cd (C : Cx p s m meth c Z a0 own bytes maxL ret nm) {r : Except ClassFile.DecodeError (ClassFile.Instr × Nat)} (h2 : decode bytes pc = r) : decode c.code pc = r := hb C.2.2.2.2.1 h2
theorem Cx.ow (C : Cx p s m meth c Z a0 own bytes maxL ret nm) : s.vm.findClass own = some m.cls := C.2.2.2.1
theorem Cx.hZ (C : Cx p s m meth c Z a0 own bytes maxL ret nm) : Z.Warmed39 s.vm := C.2.1
theorem Cx.ml (C : Cx p s m meth c Z a0 own bytes maxL ret nm) : c.maxLocals = maxL := C.2.2.2.2.2.1
theorem Cx.rt (C : Cx p s m meth c Z a0 own bytes maxL ret nm) : meth.sig.returnType = ret := C.2.2.2.2.2.2.1
theorem Cx.lk (C : Cx p s m meth c Z a0 own bytes maxL ret nm) : meth.locks = false := C.2.2.2.2.2.2.2.1
theorem Cx.nmE (C : Cx p s m meth c Z a0 own bytes maxL ret nm) : meth.name = nm := C.2.2.2.2.2.2.2.2
theorem St.sz (X : St Z p l e R s m args below meth c n0 T h k n) : n0 ≤ h.size := by obtain ⟨_, Y, _, q, rfl⟩ := X; exact Nat.le_trans (Nat.le_trans (Nat.le_of_eq q.1.symm) q.2.1) Y.same.2.1
theorem St.old (X : St Z p l e R s m args below meth c n0 T h k n) : Old Z n0 h := by
  obtain ⟨locs, Y, N, o, rfl⟩ := X
  refine ⟨o.1, Nat.le_trans o.2.1 Y.same.2.1, fun a ce hc => ?_⟩
  obtain ⟨c', e1, e2, e3, e4⟩ := Y.same.2.2.2.2.2 a ce (o.2.2 a ce hc)
  have lt := (Array.getElem?_eq_some_iff.mp hc).1
  have hs : c'.slots = ce.slots := Array.ext_getElem? fun i => e4 i fun q => by have := N _ q; have := o.1; simp at *; omega
  rw [hs] at e2
  exact (show c' = ce from e2) ▸ e1
theorem St.more (X : St Z p l e R s m args below meth c n0 T h k n) {k' n' : Nat} (hk : k ≤ k') (hn : n ≤ n') : St Z p l e R s m args below meth c n0 T h k' n' := by
  obtain ⟨locs, Y, r⟩ := X
  exact ⟨locs, Y.more hk hn, r⟩

theorem go_iload (C : Cx p s m meth c Z a0 own bytes maxL ret nm) (X : St Z p l e R s m args below meth c n0 T h k n) {i : Nat} {v : Int32} (pc' : Nat) (hp : pc + 2 = pc') (hd : decode bytes pc = .ok (.iload i, 2)) (hl : Ls[i]? = some (.val (.int v))) (hr : Go p e below Q (T.setTop (mkF m pc' Ls (.int v :: st)))) : Go p e below Q (T.setTop (mkF m pc Ls st)) := by
  subst hp
  obtain ⟨locs, Y, -, -, -⟩ := X
  exact Go.back (fun t kt => Jvm.Free.XS.iload Y.here C.1 rfl (C.cd hd) hl kt) hr
theorem go_iloadN (C : Cx p s m meth c Z a0 own bytes maxL ret nm) (X : St Z p l e R s m args below meth c n0 T h k n) {i : Fin 4} {v : Int32} (pc' : Nat) (hp : pc + 1 = pc') (hd : decode bytes pc = .ok (.iload_n i, 1)) (hl : Ls[i.val]? = some (.val (.int v))) (hr : Go p e below Q (T.setTop (mkF m pc' Ls (.int v :: st)))) : Go p e below Q (T.setTop (mkF m pc Ls st)) := by
  subst hp
  obtain ⟨locs, Y, -, -, -⟩ := X
  exact Go.back (fun t kt => Jvm.Free.XS.iloadN Y.here C.1 rfl (C.cd hd) hl kt) hr
theorem go_istore (C : Cx p s m meth c Z a0 own bytes maxL ret nm) (X : St Z p l e R s m args below meth c n0 T h k n) {i : Nat} {v : Int32} (pc' : Nat) (hp : pc + 2 = pc') (hd : decode bytes pc = .ok (.istore i, 2)) (Ls' : Array Slot) (hl : storeLocals Ls i (.int v) = some Ls') (hr : Go p e below Q (T.setTop (mkF m pc' Ls' st))) : Go p e below Q (T.setTop (mkF m pc Ls (.int v :: st))) := by
  subst hp
  obtain ⟨locs, Y, -, -, -⟩ := X
  exact Go.back (fun t kt => Jvm.Free.XS.istore Y.here C.1 rfl (C.cd hd) rfl hl kt) hr
theorem go_istoreN (C : Cx p s m meth c Z a0 own bytes maxL ret nm) (X : St Z p l e R s m args below meth c n0 T h k n) {i : Fin 4} {v : Int32} (pc' : Nat) (hp : pc + 1 = pc') (hd : decode bytes pc = .ok (.istore_n i, 1)) (Ls' : Array Slot) (hl : storeLocals Ls i.val (.int v) = some Ls') (hr : Go p e below Q (T.setTop (mkF m pc' Ls' st))) : Go p e below Q (T.setTop (mkF m pc Ls (.int v :: st))) := by
  subst hp
  obtain ⟨locs, Y, -, -, -⟩ := X
  exact Go.back (fun t kt => Jvm.Free.XS.istoreN Y.here C.1 rfl (C.cd hd) rfl hl kt) hr
theorem go_lload (C : Cx p s m meth c Z a0 own bytes maxL ret nm) (X : St Z p l e R s m args below meth c n0 T h k n) {i : Nat} {v : Int64} (pc' : Nat) (hp : pc + 2 = pc') (hd : decode bytes pc = .ok (.lload i, 2)) (hl : Ls[i]? = some (.val (.long v))) (hr : Go p e below Q (T.setTop (mkF m pc' Ls (.long v :: st)))) : Go p e below Q (T.setTop (mkF m pc Ls st)) := by
  subst hp
  obtain ⟨locs, Y, -, -, -⟩ := X
  exact Go.back (fun t kt => Jvm.Free.XS.lload Y.here C.1 rfl (C.cd hd) hl kt) hr
theorem go_lloadN (C : Cx p s m meth c Z a0 own bytes maxL ret nm) (X : St Z p l e R s m args below meth c n0 T h k n) {i : Fin 4} {v : Int64} (pc' : Nat) (hp : pc + 1 = pc') (hd : decode bytes pc = .ok (.lload_n i, 1)) (hl : Ls[i.val]? = some (.val (.long v))) (hr : Go p e below Q (T.setTop (mkF m pc' Ls (.long v :: st)))) : Go p e below Q (T.setTop (mkF m pc Ls st)) := by
  subst hp
  obtain ⟨locs, Y, -, -, -⟩ := X
  exact Go.back (fun t kt => Jvm.Free.XS.lloadN Y.here C.1 rfl (C.cd hd) hl kt) hr
theorem go_lstore (C : Cx p s m meth c Z a0 own bytes maxL ret nm) (X : St Z p l e R s m args below meth c n0 T h k n) {i : Nat} {v : Int64} (pc' : Nat) (hp : pc + 2 = pc') (hd : decode bytes pc = .ok (.lstore i, 2)) (Ls' : Array Slot) (hl : storeLocals Ls i (.long v) = some Ls') (hr : Go p e below Q (T.setTop (mkF m pc' Ls' st))) : Go p e below Q (T.setTop (mkF m pc Ls (.long v :: st))) := by
  subst hp
  obtain ⟨locs, Y, -, -, -⟩ := X
  exact Go.back (fun t kt => Jvm.Free.XS.lstore Y.here C.1 rfl (C.cd hd) rfl hl kt) hr
theorem go_lstoreN (C : Cx p s m meth c Z a0 own bytes maxL ret nm) (X : St Z p l e R s m args below meth c n0 T h k n) {i : Fin 4} {v : Int64} (pc' : Nat) (hp : pc + 1 = pc') (hd : decode bytes pc = .ok (.lstore_n i, 1)) (Ls' : Array Slot) (hl : storeLocals Ls i.val (.long v) = some Ls') (hr : Go p e below Q (T.setTop (mkF m pc' Ls' st))) : Go p e below Q (T.setTop (mkF m pc Ls (.long v :: st))) := by
  subst hp
  obtain ⟨locs, Y, -, -, -⟩ := X
  exact Go.back (fun t kt => Jvm.Free.XS.lstoreN Y.here C.1 rfl (C.cd hd) rfl hl kt) hr
theorem go_aload (C : Cx p s m meth c Z a0 own bytes maxL ret nm) (X : St Z p l e R s m args below meth c n0 T h k n) {i : Nat} {v : Value} (pc' : Nat) (hp : pc + 2 = pc') (hd : decode bytes pc = .ok (.aload i, 2)) (hl : Ls[i]? = some (.val v)) (hv : v.isRef = true) (hr : Go p e below Q (T.setTop (mkF m pc' Ls (v :: st)))) : Go p e below Q (T.setTop (mkF m pc Ls st)) := by
  subst hp
  obtain ⟨locs, Y, -, -, -⟩ := X
  exact Go.back (fun t kt => Jvm.Free.XS.aload Y.here C.1 rfl (C.cd hd) hl hv kt) hr
theorem go_aloadN (C : Cx p s m meth c Z a0 own bytes maxL ret nm) (X : St Z p l e R s m args below meth c n0 T h k n) {i : Fin 4} {v : Value} (pc' : Nat) (hp : pc + 1 = pc') (hd : decode bytes pc = .ok (.aload_n i, 1)) (hl : Ls[i.val]? = some (.val v)) (hv : v.isRef = true) (hr : Go p e below Q (T.setTop (mkF m pc' Ls (v :: st)))) : Go p e below Q (T.setTop (mkF m pc Ls st)) := by
  subst hp
  obtain ⟨locs, Y, -, -, -⟩ := X
  exact Go.back (fun t kt => Jvm.Free.XS.aloadN Y.here C.1 rfl (C.cd hd) hl hv kt) hr
theorem go_astore (C : Cx p s m meth c Z a0 own bytes maxL ret nm) (X : St Z p l e R s m args below meth c n0 T h k n) {i : Nat} {v : Value} (pc' : Nat) (hp : pc + 2 = pc') (hd : decode bytes pc = .ok (.astore i, 2)) (hv : v.isRef = true) (Ls' : Array Slot) (hl : storeLocals Ls i v = some Ls') (hr : Go p e below Q (T.setTop (mkF m pc' Ls' st))) : Go p e below Q (T.setTop (mkF m pc Ls (v :: st))) := by
  subst hp
  obtain ⟨locs, Y, -, -, -⟩ := X
  exact Go.back (fun t kt => Jvm.Free.XS.astore Y.here C.1 rfl (C.cd hd) rfl hv hl kt) hr
theorem go_astoreN (C : Cx p s m meth c Z a0 own bytes maxL ret nm) (X : St Z p l e R s m args below meth c n0 T h k n) {i : Fin 4} {v : Value} (pc' : Nat) (hp : pc + 1 = pc') (hd : decode bytes pc = .ok (.astore_n i, 1)) (hv : v.isRef = true) (Ls' : Array Slot) (hl : storeLocals Ls i.val v = some Ls') (hr : Go p e below Q (T.setTop (mkF m pc' Ls' st))) : Go p e below Q (T.setTop (mkF m pc Ls (v :: st))) := by
  subst hp
  obtain ⟨locs, Y, -, -, -⟩ := X
  exact Go.back (fun t kt => Jvm.Free.XS.astoreN Y.here C.1 rfl (C.cd hd) rfl hv hl kt) hr
theorem go_iconst (C : Cx p s m meth c Z a0 own bytes maxL ret nm) (X : St Z p l e R s m args below meth c n0 T h k n) {i : Int} {z : Int32} (pc' : Nat) (hp : pc + 1 = pc') (hd : decode bytes pc = .ok (.iconst i, 1)) (hz : Int32.ofInt i = z) (hr : Go p e below Q (T.setTop (mkF m pc' Ls (.int z :: st)))) : Go p e below Q (T.setTop (mkF m pc Ls st)) := by
  subst hp
  obtain ⟨locs, Y, -, -, -⟩ := X
  exact Go.back (fun t kt => by subst hz; exact Jvm.Free.XS.iconst Y.here C.1 rfl (C.cd hd) kt) hr
theorem go_bipush (C : Cx p s m meth c Z a0 own bytes maxL ret nm) (X : St Z p l e R s m args below meth c n0 T h k n) {i : Int} {z : Int32} (pc' : Nat) (hp : pc + 2 = pc') (hd : decode bytes pc = .ok (.bipush i, 2)) (hz : (Int8.ofInt i).toInt32 = z) (hr : Go p e below Q (T.setTop (mkF m pc' Ls (.int z :: st)))) : Go p e below Q (T.setTop (mkF m pc Ls st)) := by
  subst hp
  obtain ⟨locs, Y, -, -, -⟩ := X
  exact Go.back (fun t kt => by subst hz; exact Jvm.Free.XS.bipush Y.here C.1 rfl (C.cd hd) kt) hr
theorem go_sipush (C : Cx p s m meth c Z a0 own bytes maxL ret nm) (X : St Z p l e R s m args below meth c n0 T h k n) {i : Int} {z : Int32} (pc' : Nat) (hp : pc + 3 = pc') (hd : decode bytes pc = .ok (.sipush i, 3)) (hz : (Int16.ofInt i).toInt32 = z) (hr : Go p e below Q (T.setTop (mkF m pc' Ls (.int z :: st)))) : Go p e below Q (T.setTop (mkF m pc Ls st)) := by
  subst hp
  obtain ⟨locs, Y, -, -, -⟩ := X
  exact Go.back (fun t kt => by subst hz; exact Jvm.Free.XS.sipush Y.here C.1 rfl (C.cd hd) kt) hr
theorem go_lconst (C : Cx p s m meth c Z a0 own bytes maxL ret nm) (X : St Z p l e R s m args below meth c n0 T h k n) {i : Fin 2} {z : Int64} (pc' : Nat) (hp : pc + 1 = pc') (hd : decode bytes pc = .ok (.lconst i, 1)) (hz : Int64.ofNat i = z) (hr : Go p e below Q (T.setTop (mkF m pc' Ls (.long z :: st)))) : Go p e below Q (T.setTop (mkF m pc Ls st)) := by
  subst hp
  obtain ⟨locs, Y, -, -, -⟩ := X
  exact Go.back (fun t kt => by subst hz; exact Jvm.Free.XS.lconst Y.here C.1 rfl (C.cd hd) kt) hr
theorem go_aconstNull (C : Cx p s m meth c Z a0 own bytes maxL ret nm) (X : St Z p l e R s m args below meth c n0 T h k n)  (pc' : Nat) (hp : pc + 1 = pc') (hd : decode bytes pc = .ok (.aconst_null, 1)) (hr : Go p e below Q (T.setTop (mkF m pc' Ls (.null :: st)))) : Go p e below Q (T.setTop (mkF m pc Ls st)) := by
  subst hp
  obtain ⟨locs, Y, -, -, -⟩ := X
  exact Go.back (fun t kt => Jvm.Free.XS.aconstNull Y.here C.1 rfl (C.cd hd) kt) hr
theorem go_iaddL (C : Cx p s m meth c Z a0 own bytes maxL ret nm) (X : St Z p l e R s m args below meth c n0 T h k n) {x y z : Int32} (pc' : Nat) (hp : pc + 1 = pc') (hd : decode bytes pc = .ok (.iadd, 1)) (hz : x + y = z) (hr : Go p e below Q (T.setTop (mkF m pc' Ls (.int z :: st)))) : Go p e below Q (T.setTop (mkF m pc Ls (.int y :: .int x :: st))) := by
  subst hp
  obtain ⟨locs, Y, -, -, -⟩ := X
  exact Go.back (fun t kt => by subst hz; exact Jvm.Free.XS.iadd Y.here C.1 rfl (C.cd hd) rfl kt) hr
theorem go_iadd (C : Cx p s m meth c Z a0 own bytes maxL ret nm) (X : St Z p l e R s m args below meth c n0 T h k n) {x y : Int32} (pc' : Nat) (hp : pc + 1 = pc') (hd : decode bytes pc = .ok (.iadd, 1)) (hr : Go p e below Q (T.setTop (mkF m pc' Ls (.int (x + y) :: st)))) : Go p e below Q (T.setTop (mkF m pc Ls (.int y :: .int x :: st))) := by
  subst hp
  obtain ⟨locs, Y, -, -, -⟩ := X
  exact Go.back (fun t kt => Jvm.Free.XS.iadd Y.here C.1 rfl (C.cd hd) rfl kt) hr
theorem go_isubL (C : Cx p s m meth c Z a0 own bytes maxL ret nm) (X : St Z p l e R s m args below meth c n0 T h k n) {x y z : Int32} (pc' : Nat) (hp : pc + 1 = pc') (hd : decode bytes pc = .ok (.isub, 1)) (hz : x - y = z) (hr : Go p e below Q (T.setTop (mkF m pc' Ls (.int z :: st)))) : Go p e below Q (T.setTop (mkF m pc Ls (.int y :: .int x :: st))) := by
  subst hp
  obtain ⟨locs, Y, -, -, -⟩ := X
  exact Go.back (fun t kt => by subst hz; exact Jvm.Free.XS.isub Y.here C.1 rfl (C.cd hd) rfl kt) hr
theorem go_isub (C : Cx p s m meth c Z a0 own bytes maxL ret nm) (X : St Z p l e R s m args below meth c n0 T h k n) {x y : Int32} (pc' : Nat) (hp : pc + 1 = pc') (hd : decode bytes pc = .ok (.isub, 1)) (hr : Go p e below Q (T.setTop (mkF m pc' Ls (.int (x - y) :: st)))) : Go p e below Q (T.setTop (mkF m pc Ls (.int y :: .int x :: st))) := by
  subst hp
  obtain ⟨locs, Y, -, -, -⟩ := X
  exact Go.back (fun t kt => Jvm.Free.XS.isub Y.here C.1 rfl (C.cd hd) rfl kt) hr
theorem go_imulL (C : Cx p s m meth c Z a0 own bytes maxL ret nm) (X : St Z p l e R s m args below meth c n0 T h k n) {x y z : Int32} (pc' : Nat) (hp : pc + 1 = pc') (hd : decode bytes pc = .ok (.imul, 1)) (hz : x * y = z) (hr : Go p e below Q (T.setTop (mkF m pc' Ls (.int z :: st)))) : Go p e below Q (T.setTop (mkF m pc Ls (.int y :: .int x :: st))) := by
  subst hp
  obtain ⟨locs, Y, -, -, -⟩ := X
  exact Go.back (fun t kt => by subst hz; exact Jvm.Free.XS.imul Y.here C.1 rfl (C.cd hd) rfl kt) hr
theorem go_imul (C : Cx p s m meth c Z a0 own bytes maxL ret nm) (X : St Z p l e R s m args below meth c n0 T h k n) {x y : Int32} (pc' : Nat) (hp : pc + 1 = pc') (hd : decode bytes pc = .ok (.imul, 1)) (hr : Go p e below Q (T.setTop (mkF m pc' Ls (.int (x * y) :: st)))) : Go p e below Q (T.setTop (mkF m pc Ls (.int y :: .int x :: st))) := by
  subst hp
  obtain ⟨locs, Y, -, -, -⟩ := X
  exact Go.back (fun t kt => Jvm.Free.XS.imul Y.here C.1 rfl (C.cd hd) rfl kt) hr
theorem go_iandL (C : Cx p s m meth c Z a0 own bytes maxL ret nm) (X : St Z p l e R s m args below meth c n0 T h k n) {x y z : Int32} (pc' : Nat) (hp : pc + 1 = pc') (hd : decode bytes pc = .ok (.iand, 1)) (hz : x &&& y = z) (hr : Go p e below Q (T.setTop (mkF m pc' Ls (.int z :: st)))) : Go p e below Q (T.setTop (mkF m pc Ls (.int y :: .int x :: st))) := by
  subst hp
  obtain ⟨locs, Y, -, -, -⟩ := X
  exact Go.back (fun t kt => by subst hz; exact Jvm.Free.XS.iand Y.here C.1 rfl (C.cd hd) rfl kt) hr
theorem go_iand (C : Cx p s m meth c Z a0 own bytes maxL ret nm) (X : St Z p l e R s m args below meth c n0 T h k n) {x y : Int32} (pc' : Nat) (hp : pc + 1 = pc') (hd : decode bytes pc = .ok (.iand, 1)) (hr : Go p e below Q (T.setTop (mkF m pc' Ls (.int (x &&& y) :: st)))) : Go p e below Q (T.setTop (mkF m pc Ls (.int y :: .int x :: st))) := by
  subst hp
  obtain ⟨locs, Y, -, -, -⟩ := X
  exact Go.back (fun t kt => Jvm.Free.XS.iand Y.here C.1 rfl (C.cd hd) rfl kt) hr
theorem go_iorL (C : Cx p s m meth c Z a0 own bytes maxL ret nm) (X : St Z p l e R s m args below meth c n0 T h k n) {x y z : Int32} (pc' : Nat) (hp : pc + 1 = pc') (hd : decode bytes pc = .ok (.ior, 1)) (hz : x ||| y = z) (hr : Go p e below Q (T.setTop (mkF m pc' Ls (.int z :: st)))) : Go p e below Q (T.setTop (mkF m pc Ls (.int y :: .int x :: st))) := by
  subst hp
  obtain ⟨locs, Y, -, -, -⟩ := X
  exact Go.back (fun t kt => by subst hz; exact Jvm.Free.XS.ior Y.here C.1 rfl (C.cd hd) rfl kt) hr
theorem go_ior (C : Cx p s m meth c Z a0 own bytes maxL ret nm) (X : St Z p l e R s m args below meth c n0 T h k n) {x y : Int32} (pc' : Nat) (hp : pc + 1 = pc') (hd : decode bytes pc = .ok (.ior, 1)) (hr : Go p e below Q (T.setTop (mkF m pc' Ls (.int (x ||| y) :: st)))) : Go p e below Q (T.setTop (mkF m pc Ls (.int y :: .int x :: st))) := by
  subst hp
  obtain ⟨locs, Y, -, -, -⟩ := X
  exact Go.back (fun t kt => Jvm.Free.XS.ior Y.here C.1 rfl (C.cd hd) rfl kt) hr
theorem go_ixorL (C : Cx p s m meth c Z a0 own bytes maxL ret nm) (X : St Z p l e R s m args below meth c n0 T h k n) {x y z : Int32} (pc' : Nat) (hp : pc + 1 = pc') (hd : decode bytes pc = .ok (.ixor, 1)) (hz : x ^^^ y = z) (hr : Go p e below Q (T.setTop (mkF m pc' Ls (.int z :: st)))) : Go p e below Q (T.setTop (mkF m pc Ls (.int y :: .int x :: st))) := by
  subst hp
  obtain ⟨locs, Y, -, -, -⟩ := X
  exact Go.back (fun t kt => by subst hz; exact Jvm.Free.XS.ixor Y.here C.1 rfl (C.cd hd) rfl kt) hr
theorem go_ixor (C : Cx p s m meth c Z a0 own bytes maxL ret nm) (X : St Z p l e R s m args below meth c n0 T h k n) {x y : Int32} (pc' : Nat) (hp : pc + 1 = pc') (hd : decode bytes pc = .ok (.ixor, 1)) (hr : Go p e below Q (T.setTop (mkF m pc' Ls (.int (x ^^^ y) :: st)))) : Go p e below Q (T.setTop (mkF m pc Ls (.int y :: .int x :: st))) := by
  subst hp
  obtain ⟨locs, Y, -, -, -⟩ := X
  exact Go.back (fun t kt => Jvm.Free.XS.ixor Y.here C.1 rfl (C.cd hd) rfl kt) hr
theorem go_idiv (C : Cx p s m meth c Z a0 own bytes maxL ret nm) (X : St Z p l e R s m args below meth c n0 T h k n) {x y : Int32} (pc' : Nat) (hp : pc + 1 = pc') (hd : decode bytes pc = .ok (.idiv, 1)) (hy : y ≠ 0) (hr : Go p e below Q (T.setTop (mkF m pc' Ls (.int (x / y) :: st)))) : Go p e below Q (T.setTop (mkF m pc Ls (.int y :: .int x :: st))) := by
  subst hp
  obtain ⟨locs, Y, -, -, -⟩ := X
  exact Go.back (fun t kt => Jvm.Free.XS.idiv Y.here C.1 rfl (C.cd hd) rfl hy kt) hr
theorem go_ineg (C : Cx p s m meth c Z a0 own bytes maxL ret nm) (X : St Z p l e R s m args below meth c n0 T h k n) {x : Int32} (pc' : Nat) (hp : pc + 1 = pc') (hd : decode bytes pc = .ok (.ineg, 1)) (hr : Go p e below Q (T.setTop (mkF m pc' Ls (.int (-x) :: st)))) : Go p e below Q (T.setTop (mkF m pc Ls (.int x :: st))) := by
  subst hp
  obtain ⟨locs, Y, -, -, -⟩ := X
  exact Go.back (fun t kt => Jvm.Free.XS.ineg Y.here C.1 rfl (C.cd hd) rfl kt) hr
theorem go_laddL (C : Cx p s m meth c Z a0 own bytes maxL ret nm) (X : St Z p l e R s m args below meth c n0 T h k n) {x y z : Int64} (pc' : Nat) (hp : pc + 1 = pc') (hd : decode bytes pc = .ok (.ladd, 1)) (hz : x + y = z) (hr : Go p e below Q (T.setTop (mkF m pc' Ls (.long z :: st)))) : Go p e below Q (T.setTop (mkF m pc Ls (.long y :: .long x :: st))) := by
  subst hp
  obtain ⟨locs, Y, -, -, -⟩ := X
  exact Go.back (fun t kt => by subst hz; exact Jvm.Free.XS.ladd Y.here C.1 rfl (C.cd hd) rfl kt) hr
theorem go_ladd (C : Cx p s m meth c Z a0 own bytes maxL ret nm) (X : St Z p l e R s m args below meth c n0 T h k n) {x y : Int64} (pc' : Nat) (hp : pc + 1 = pc') (hd : decode bytes pc = .ok (.ladd, 1)) (hr : Go p e below Q (T.setTop (mkF m pc' Ls (.long (x + y) :: st)))) : Go p e below Q (T.setTop (mkF m pc Ls (.long y :: .long x :: st))) := by
  subst hp
  obtain ⟨locs, Y, -, -, -⟩ := X
  exact Go.back (fun t kt => Jvm.Free.XS.ladd Y.here C.1 rfl (C.cd hd) rfl kt) hr
theorem go_lsubL (C : Cx p s m meth c Z a0 own bytes maxL ret nm) (X : St Z p l e R s m args below meth c n0 T h k n) {x y z : Int64} (pc' : Nat) (hp : pc + 1 = pc') (hd : decode bytes pc = .ok (.lsub, 1)) (hz : x - y = z) (hr : Go p e below Q (T.setTop (mkF m pc' Ls (.long z :: st)))) : Go p e below Q (T.setTop (mkF m pc Ls (.long y :: .long x :: st))) := by
  subst hp
  obtain ⟨locs, Y, -, -, -⟩ := X
  exact Go.back (fun t kt => by subst hz; exact Jvm.Free.XS.lsub Y.here C.1 rfl (C.cd hd) rfl kt) hr
theorem go_lsub (C : Cx p s m meth c Z a0 own bytes maxL ret nm) (X : St Z p l e R s m args below meth c n0 T h k n) {x y : Int64} (pc' : Nat) (hp : pc + 1 = pc') (hd : decode bytes pc = .ok (.lsub, 1)) (hr : Go p e below Q (T.setTop (mkF m pc' Ls (.long (x - y) :: st)))) : Go p e below Q (T.setTop (mkF m pc Ls (.long y :: .long x :: st))) := by
  subst hp
  obtain ⟨locs, Y, -, -, -⟩ := X
  exact Go.back (fun t kt => Jvm.Free.XS.lsub Y.here C.1 rfl (C.cd hd) rfl kt) hr
theorem go_lmulL (C : Cx p s m meth c Z a0 own bytes maxL ret nm) (X : St Z p l e R s m args below meth c n0 T h k n) {x y z : Int64} (pc' : Nat) (hp : pc + 1 = pc') (hd : decode bytes pc = .ok (.lmul, 1)) (hz : x * y = z) (hr : Go p e below Q (T.setTop (mkF m pc' Ls (.long z :: st)))) : Go p e below Q (T.setTop (mkF m pc Ls (.long y :: .long x :: st))) := by
  subst hp
  obtain ⟨locs, Y, -, -, -⟩ := X
  exact Go.back (fun t kt => by subst hz; exact Jvm.Free.XS.lmul Y.here C.1 rfl (C.cd hd) rfl kt) hr
theorem go_lmul (C : Cx p s m meth c Z a0 own bytes maxL ret nm) (X : St Z p l e R s m args below meth c n0 T h k n) {x y : Int64} (pc' : Nat) (hp : pc + 1 = pc') (hd : decode bytes pc = .ok (.lmul, 1)) (hr : Go p e below Q (T.setTop (mkF m pc' Ls (.long (x * y) :: st)))) : Go p e below Q (T.setTop (mkF m pc Ls (.long y :: .long x :: st))) := by
  subst hp
  obtain ⟨locs, Y, -, -, -⟩ := X
  exact Go.back (fun t kt => Jvm.Free.XS.lmul Y.here C.1 rfl (C.cd hd) rfl kt) hr
theorem go_landL (C : Cx p s m meth c Z a0 own bytes maxL ret nm) (X : St Z p l e R s m args below meth c n0 T h k n) {x y z : Int64} (pc' : Nat) (hp : pc + 1 = pc') (hd : decode bytes pc = .ok (.land, 1)) (hz : x &&& y = z) (hr : Go p e below Q (T.setTop (mkF m pc' Ls (.long z :: st)))) : Go p e below Q (T.setTop (mkF m pc Ls (.long y :: .long x :: st))) := by
  subst hp
  obtain ⟨locs, Y, -, -, -⟩ := X
  exact Go.back (fun t kt => by subst hz; exact Jvm.Free.XS.land Y.here C.1 rfl (C.cd hd) rfl kt) hr
theorem go_land (C : Cx p s m meth c Z a0 own bytes maxL ret nm) (X : St Z p l e R s m args below meth c n0 T h k n) {x y : Int64} (pc' : Nat) (hp : pc + 1 = pc') (hd : decode bytes pc = .ok (.land, 1)) (hr : Go p e below Q (T.setTop (mkF m pc' Ls (.long (x &&& y) :: st)))) : Go p e below Q (T.setTop (mkF m pc Ls (.long y :: .long x :: st))) := by
  subst hp
  obtain ⟨locs, Y, -, -, -⟩ := X
  exact Go.back (fun t kt => Jvm.Free.XS.land Y.here C.1 rfl (C.cd hd) rfl kt) hr
theorem go_lorL (C : Cx p s m meth c Z a0 own bytes maxL ret nm) (X : St Z p l e R s m args below meth c n0 T h k n) {x y z : Int64} (pc' : Nat) (hp : pc + 1 = pc') (hd : decode bytes pc = .ok (.lor, 1)) (hz : x ||| y = z) (hr : Go p e below Q (T.setTop (mkF m pc' Ls (.long z :: st)))) : Go p e below Q (T.setTop (mkF m pc Ls (.long y :: .long x :: st))) := by
  subst hp
  obtain ⟨locs, Y, -, -, -⟩ := X
  exact Go.back (fun t kt => by subst hz; exact Jvm.Free.XS.lor Y.here C.1 rfl (C.cd hd) rfl kt) hr
theorem go_lor (C : Cx p s m meth c Z a0 own bytes maxL ret nm) (X : St Z p l e R s m args below meth c n0 T h k n) {x y : Int64} (pc' : Nat) (hp : pc + 1 = pc') (hd : decode bytes pc = .ok (.lor, 1)) (hr : Go p e below Q (T.setTop (mkF m pc' Ls (.long (x ||| y) :: st)))) : Go p e below Q (T.setTop (mkF m pc Ls (.long y :: .long x :: st))) := by
  subst hp
  obtain ⟨locs, Y, -, -, -⟩ := X
  exact Go.back (fun t kt => Jvm.Free.XS.lor Y.here C.1 rfl (C.cd hd) rfl kt) hr
theorem go_lxorL (C : Cx p s m meth c Z a0 own bytes maxL ret nm) (X : St Z p l e R s m args below meth c n0 T h k n) {x y z : Int64} (pc' : Nat) (hp : pc + 1 = pc') (hd : decode bytes pc = .ok (.lxor, 1)) (hz : x ^^^ y = z) (hr : Go p e below Q (T.setTop (mkF m pc' Ls (.long z :: st)))) : Go p e below Q (T.setTop (mkF m pc Ls (.long y :: .long x :: st))) := by
  subst hp
  obtain ⟨locs, Y, -, -, -⟩ := X
  exact Go.back (fun t kt => by subst hz; exact Jvm.Free.XS.lxor Y.here C.1 rfl (C.cd hd) rfl kt) hr
theorem go_lxor (C : Cx p s m meth c Z a0 own bytes maxL ret nm) (X : St Z p l e R s m args below meth c n0 T h k n) {x y : Int64} (pc' : Nat) (hp : pc + 1 = pc') (hd : decode bytes pc = .ok (.lxor, 1)) (hr : Go p e below Q (T.setTop (mkF m pc' Ls (.long (x ^^^ y) :: st)))) : Go p e below Q (T.setTop (mkF m pc Ls (.long y :: .long x :: st))) := by
  subst hp
  obtain ⟨locs, Y, -, -, -⟩ := X
  exact Go.back (fun t kt => Jvm.Free.XS.lxor Y.here C.1 rfl (C.cd hd) rfl kt) hr
theorem go_ldiv (C : Cx p s m meth c Z a0 own bytes maxL ret nm) (X : St Z p l e R s m args below meth c n0 T h k n) {x y : Int64} (pc' : Nat) (hp : pc + 1 = pc') (hd : decode bytes pc = .ok (.ldiv, 1)) (hy : y ≠ 0) (hr : Go p e below Q (T.setTop (mkF m pc' Ls (.long (x / y) :: st)))) : Go p e below Q (T.setTop (mkF m pc Ls (.long y :: .long x :: st))) := by
  subst hp
  obtain ⟨locs, Y, -, -, -⟩ := X
  exact Go.back (fun t kt => Jvm.Free.XS.ldiv Y.here C.1 rfl (C.cd hd) rfl hy kt) hr
theorem go_lneg (C : Cx p s m meth c Z a0 own bytes maxL ret nm) (X : St Z p l e R s m args below meth c n0 T h k n) {x : Int64} (pc' : Nat) (hp : pc + 1 = pc') (hd : decode bytes pc = .ok (.lneg, 1)) (hr : Go p e below Q (T.setTop (mkF m pc' Ls (.long (-x) :: st)))) : Go p e below Q (T.setTop (mkF m pc Ls (.long x :: st))) := by
  subst hp
  obtain ⟨locs, Y, -, -, -⟩ := X
  exact Go.back (fun t kt => Jvm.Free.XS.lneg Y.here C.1 rfl (C.cd hd) rfl kt) hr
theorem go_irem (C : Cx p s m meth c Z a0 own bytes maxL ret nm) (X : St Z p l e R s m args below meth c n0 T h k n) {x y : Int32} (pc' : Nat) (hp : pc + 1 = pc') (hd : decode bytes pc = .ok (.irem, 1)) (hy : y ≠ 0) (hr : Go p e below Q (T.setTop (mkF m pc' Ls (.int (x % y) :: st)))) : Go p e below Q (T.setTop (mkF m pc Ls (.int y :: .int x :: st))) := by
  subst hp
  obtain ⟨locs, Y, -, -, -⟩ := X
  exact Go.back (fun t kt => iremM Y C.1 rfl (C.cd hd) rfl hy kt) hr
theorem go_lrem (C : Cx p s m meth c Z a0 own bytes maxL ret nm) (X : St Z p l e R s m args below meth c n0 T h k n) {x y : Int64} (pc' : Nat) (hp : pc + 1 = pc') (hd : decode bytes pc = .ok (.lrem, 1)) (hy : y ≠ 0) (hr : Go p e below Q (T.setTop (mkF m pc' Ls (.long (x % y) :: st)))) : Go p e below Q (T.setTop (mkF m pc Ls (.long y :: .long x :: st))) := by
  subst hp
  obtain ⟨locs, Y, -, -, -⟩ := X
  exact Go.back (fun t kt => by rw [← lrem_mod] at kt; exact Jvm.Free.XS.lrem Y.here C.1 rfl (C.cd hd) rfl hy kt) hr
theorem go_i2l (C : Cx p s m meth c Z a0 own bytes maxL ret nm) (X : St Z p l e R s m args below meth c n0 T h k n) {x : Int32} (pc' : Nat) (hp : pc + 1 = pc') (hd : decode bytes pc = .ok (.i2l, 1)) (hr : Go p e below Q (T.setTop (mkF m pc' Ls (.long (x.toInt64) :: st)))) : Go p e below Q (T.setTop (mkF m pc Ls (.int x :: st))) := by
  subst hp
  obtain ⟨locs, Y, -, -, -⟩ := X
  exact Go.back (fun t kt => Jvm.Free.XS.i2l Y.here C.1 rfl (C.cd hd) rfl kt) hr
theorem go_l2i (C : Cx p s m meth c Z a0 own bytes maxL ret nm) (X : St Z p l e R s m args below meth c n0 T h k n) {x : Int64} (pc' : Nat) (hp : pc + 1 = pc') (hd : decode bytes pc = .ok (.l2i, 1)) (hr : Go p e below Q (T.setTop (mkF m pc' Ls (.int (x.toInt32) :: st)))) : Go p e below Q (T.setTop (mkF m pc Ls (.long x :: st))) := by
  subst hp
  obtain ⟨locs, Y, -, -, -⟩ := X
  exact Go.back (fun t kt => Jvm.Free.XS.l2i Y.here C.1 rfl (C.cd hd) rfl kt) hr
theorem go_i2b (C : Cx p s m meth c Z a0 own bytes maxL ret nm) (X : St Z p l e R s m args below meth c n0 T h k n) {x : Int32} (pc' : Nat) (hp : pc + 1 = pc') (hd : decode bytes pc = .ok (.i2b, 1)) (hr : Go p e below Q (T.setTop (mkF m pc' Ls (.int (x.toInt8.toInt32) :: st)))) : Go p e below Q (T.setTop (mkF m pc Ls (.int x :: st))) := by
  subst hp
  obtain ⟨locs, Y, -, -, -⟩ := X
  exact Go.back (fun t kt => Jvm.Free.XS.i2b Y.here C.1 rfl (C.cd hd) rfl kt) hr
theorem go_i2s (C : Cx p s m meth c Z a0 own bytes maxL ret nm) (X : St Z p l e R s m args below meth c n0 T h k n) {x : Int32} (pc' : Nat) (hp : pc + 1 = pc') (hd : decode bytes pc = .ok (.i2s, 1)) (hr : Go p e below Q (T.setTop (mkF m pc' Ls (.int (x.toInt16.toInt32) :: st)))) : Go p e below Q (T.setTop (mkF m pc Ls (.int x :: st))) := by
  subst hp
  obtain ⟨locs, Y, -, -, -⟩ := X
  exact Go.back (fun t kt => Jvm.Free.XS.i2s Y.here C.1 rfl (C.cd hd) rfl kt) hr
theorem go_i2c (C : Cx p s m meth c Z a0 own bytes maxL ret nm) (X : St Z p l e R s m args below meth c n0 T h k n) {x : Int32} (pc' : Nat) (hp : pc + 1 = pc') (hd : decode bytes pc = .ok (.i2c, 1)) (hr : Go p e below Q (T.setTop (mkF m pc' Ls (.int (x.toUInt32.toUInt16.toUInt32.toInt32) :: st)))) : Go p e below Q (T.setTop (mkF m pc Ls (.int x :: st))) := by
  subst hp
  obtain ⟨locs, Y, -, -, -⟩ := X
  exact Go.back (fun t kt => Jvm.Free.XS.i2c Y.here C.1 rfl (C.cd hd) rfl kt) hr
theorem go_ishl (C : Cx p s m meth c Z a0 own bytes maxL ret nm) (X : St Z p l e R s m args below meth c n0 T h k n) {x : Int32} {y : Int32} (pc' : Nat) (hp : pc + 1 = pc') (hd : decode bytes pc = .ok (.ishl, 1)) (hr : Go p e below Q (T.setTop (mkF m pc' Ls (.int (x <<< (y &&& 31)) :: st)))) : Go p e below Q (T.setTop (mkF m pc Ls (.int y :: .int x :: st))) := by
  subst hp
  obtain ⟨locs, Y, -, -, -⟩ := X
  exact Go.back (fun t kt => Jvm.Free.XS.ishl Y.here C.1 rfl (C.cd hd) rfl kt) hr
theorem go_ishr (C : Cx p s m meth c Z a0 own bytes maxL ret nm) (X : St Z p l e R s m args below meth c n0 T h k n) {x : Int32} {y : Int32} (pc' : Nat) (hp : pc + 1 = pc') (hd : decode bytes pc = .ok (.ishr, 1)) (hr : Go p e below Q (T.setTop (mkF m pc' Ls (.int (x >>> (y &&& 31)) :: st)))) : Go p e below Q (T.setTop (mkF m pc Ls (.int y :: .int x :: st))) := by
  subst hp
  obtain ⟨locs, Y, -, -, -⟩ := X
  exact Go.back (fun t kt => Jvm.Free.XS.ishr Y.here C.1 rfl (C.cd hd) rfl kt) hr
theorem go_iushr (C : Cx p s m meth c Z a0 own bytes maxL ret nm) (X : St Z p l e R s m args below meth c n0 T h k n) {x : Int32} {y : Int32} (pc' : Nat) (hp : pc + 1 = pc') (hd : decode bytes pc = .ok (.iushr, 1)) (hr : Go p e below Q (T.setTop (mkF m pc' Ls (.int ((x.toUInt32 >>> (y &&& 31).toUInt32).toInt32) :: st)))) : Go p e below Q (T.setTop (mkF m pc Ls (.int y :: .int x :: st))) := by
  subst hp
  obtain ⟨locs, Y, -, -, -⟩ := X
  exact Go.back (fun t kt => Jvm.Free.XS.iushr Y.here C.1 rfl (C.cd hd) rfl kt) hr
theorem go_lshl (C : Cx p s m meth c Z a0 own bytes maxL ret nm) (X : St Z p l e R s m args below meth c n0 T h k n) {x : Int64} {y : Int32} (pc' : Nat) (hp : pc + 1 = pc') (hd : decode bytes pc = .ok (.lshl, 1)) (hr : Go p e below Q (T.setTop (mkF m pc' Ls (.long (x <<< (y &&& 0x3f).toInt64) :: st)))) : Go p e below Q (T.setTop (mkF m pc Ls (.int y :: .long x :: st))) := by
  subst hp
  obtain ⟨locs, Y, -, -, -⟩ := X
  exact Go.back (fun t kt => Jvm.Free.XS.lshl Y.here C.1 rfl (C.cd hd) rfl kt) hr
theorem go_lshr (C : Cx p s m meth c Z a0 own bytes maxL ret nm) (X : St Z p l e R s m args below meth c n0 T h k n) {x : Int64} {y : Int32} (pc' : Nat) (hp : pc + 1 = pc') (hd : decode bytes pc = .ok (.lshr, 1)) (hr : Go p e below Q (T.setTop (mkF m pc' Ls (.long (x >>> (y &&& 0x3f).toInt64) :: st)))) : Go p e below Q (T.setTop (mkF m pc Ls (.int y :: .long x :: st))) := by
  subst hp
  obtain ⟨locs, Y, -, -, -⟩ := X
  exact Go.back (fun t kt => Jvm.Free.XS.lshr Y.here C.1 rfl (C.cd hd) rfl kt) hr
theorem go_lushr (C : Cx p s m meth c Z a0 own bytes maxL ret nm) (X : St Z p l e R s m args below meth c n0 T h k n) {x : Int64} {y : Int32} (pc' : Nat) (hp : pc + 1 = pc') (hd : decode bytes pc = .ok (.lushr, 1)) (hr : Go p e below Q (T.setTop (mkF m pc' Ls (.long ((x.toUInt64 >>> (y &&& 0x3f).toInt64.toUInt64).toInt64) :: st)))) : Go p e below Q (T.setTop (mkF m pc Ls (.int y :: .long x :: st))) := by
  subst hp
  obtain ⟨locs, Y, -, -, -⟩ := X
  exact Go.back (fun t kt => Jvm.Free.XS.lushr Y.here C.1 rfl (C.cd hd) rfl kt) hr
theorem go_lcmp (C : Cx p s m meth c Z a0 own bytes maxL ret nm) (X : St Z p l e R s m args below meth c n0 T h k n) {x y : Int64} (pc' : Nat) (hp : pc + 1 = pc') (hd : decode bytes pc = .ok (.lcmp, 1)) (hr : Go p e below Q (T.setTop (mkF m pc' Ls (.int (lcmpW x y) :: st)))) : Go p e below Q (T.setTop (mkF m pc Ls (.long y :: .long x :: st))) := by
  subst hp
  obtain ⟨locs, Y, -, -, -⟩ := X
  exact Go.back (fun t kt => Jvm.Free.XS.lcmp Y.here C.1 rfl (C.cd hd) rfl kt) hr
theorem go_iinc (C : Cx p s m meth c Z a0 own bytes maxL ret nm) (X : St Z p l e R s m args below meth c n0 T h k n) {i : Nat} {cst : Int} {x z : Int32} (pc' : Nat) (hp : pc + 3 = pc') (hd : decode bytes pc = .ok (.iinc i cst, 3)) (hl : Ls[i]? = some (.val (.int x))) (hz : Int32.ofInt cst = z) (Ls' : Array Slot) (hl' : storeLocals Ls i (.int (x + z)) = some Ls') (hr : Go p e below Q (T.setTop (mkF m pc' Ls' st))) : Go p e below Q (T.setTop (mkF m pc Ls st)) := by
  subst hp
  obtain ⟨locs, Y, -, -, -⟩ := X
  exact Go.back (fun t kt => by subst hz; exact Jvm.Free.XS.iinc Y.here C.1 rfl (C.cd hd) hl hl' kt) hr
theorem go_dup (C : Cx p s m meth c Z a0 own bytes maxL ret nm) (X : St Z p l e R s m args below meth c n0 T h k n) {v : Value} (pc' : Nat) (hp : pc + 1 = pc') (hd : decode bytes pc = .ok (.dup, 1)) (hc : v.category = 1) (hr : Go p e below Q (T.setTop (mkF m pc' Ls (v :: v :: st)))) : Go p e below Q (T.setTop (mkF m pc Ls (v :: st))) := by
  subst hp
  obtain ⟨locs, Y, -, -, -⟩ := X
  exact Go.back (fun t kt => Jvm.Free.XS.dup Y.here C.1 rfl (C.cd hd) rfl hc kt) hr
theorem go_pop (C : Cx p s m meth c Z a0 own bytes maxL ret nm) (X : St Z p l e R s m args below meth c n0 T h k n) {v : Value} (pc' : Nat) (hp : pc + 1 = pc') (hd : decode bytes pc = .ok (.pop, 1)) (hc : v.category = 1) (hr : Go p e below Q (T.setTop (mkF m pc' Ls st))) : Go p e below Q (T.setTop (mkF m pc Ls (v :: st))) := by
  subst hp
  obtain ⟨locs, Y, -, -, -⟩ := X
  exact Go.back (fun t kt => Jvm.Free.XS.pop Y.here C.1 rfl (C.cd hd) rfl hc kt) hr
theorem go_dupX1 (C : Cx p s m meth c Z a0 own bytes maxL ret nm) (X : St Z p l e R s m args below meth c n0 T h k n) {v w : Value} (pc' : Nat) (hp : pc + 1 = pc') (hd : decode bytes pc = .ok (.dup_x1, 1)) (hc : v.category = 1) (hc2 : w.category = 1) (hr : Go p e below Q (T.setTop (mkF m pc' Ls (v :: w :: v :: st)))) : Go p e below Q (T.setTop (mkF m pc Ls (v :: w :: st))) := by
  subst hp
  obtain ⟨locs, Y, -, -, -⟩ := X
  exact Go.back (fun t kt => Jvm.Free.XS.dupX1 Y.here C.1 rfl (C.cd hd) rfl hc hc2 kt) hr
theorem go_dup2 (C : Cx p s m meth c Z a0 own bytes maxL ret nm) (X : St Z p l e R s m args below meth c n0 T h k n) {v w : Value} (pc' : Nat) (hp : pc + 1 = pc') (hd : decode bytes pc = .ok (.dup2, 1)) (hc : v.category = 1) (hc2 : w.category = 1) (hr : Go p e below Q (T.setTop (mkF m pc' Ls (v :: w :: v :: w :: st)))) : Go p e below Q (T.setTop (mkF m pc Ls (v :: w :: st))) := by
  subst hp
  obtain ⟨locs, Y, -, -, -⟩ := X
  refine Go.back (fun t kt => ?_) hr
  show Steps p.tables e below (T.setTop { method := m, pc := pc, locals := Ls, stack := v :: w :: st, locked := none }) _
  jvm_step Y.here [Y.here.top, C.1, C.cd hd, hc, hc2]
  exact kt
theorem go_goto (C : Cx p s m meth c Z a0 own bytes maxL ret nm) (X : St Z p l e R s m args below meth c n0 T h k n) {o : Int} (hd : decode bytes pc = .ok (.goto o, 3)) (ho : 0 ≤ (pc : Int) + o) (hp : ((pc : Int) + o).toNat = pc') (hr : Go p e below Q (T.setTop (mkF m pc' Ls st))) : Go p e below Q (T.setTop (mkF m pc Ls st)) := by
  obtain ⟨locs, Y, -, -, -⟩ := X
  exact Go.back (fun t kt => Jvm.Free.XS.goto Y.here C.1 rfl (pc0 := pc) rfl (C.cd hd) ho hp kt) hr
theorem go_icmp (C : Cx p s m meth c Z a0 own bytes maxL ret nm) (X : St Z p l e R s m args below meth c n0 T h k n) {cd : ClassFile.Cond} {o : Int} {x y : Int32} (hd : decode bytes pc = .ok (.if_icmp cd o, 3)) (hp : pc + 3 = pc') (ho : 0 ≤ (pc : Int) + o) (hp2 : ((pc : Int) + o).toNat = pc2) (h1 : if_icmp.holds cd x y = true → Go p e below Q (T.setTop (mkF m pc2 Ls st))) (h2 : if_icmp.holds cd x y = false → Go p e below Q (T.setTop (mkF m pc' Ls st))) : Go p e below Q (T.setTop (mkF m pc Ls (.int y :: .int x :: st))) := by
  subst hp
  obtain ⟨locs, Y, -, -, -⟩ := X
  cases hc : if_icmp.holds cd x y with
  | true => exact Go.back (fun t kt => Jvm.Free.XS.icmpYes Y.here C.1 rfl (pc0 := pc) rfl (C.cd hd) rfl hc ho hp2 kt) (h1 hc)
  | false => exact Go.back (fun t kt => Jvm.Free.XS.icmpNo Y.here C.1 rfl (C.cd hd) rfl hc kt) (h2 hc)
theorem go_if (C : Cx p s m meth c Z a0 own bytes maxL ret nm) (X : St Z p l e R s m args below meth c n0 T h k n) {cd : ClassFile.Cond} {o : Int} {x : Int32} (hd : decode bytes pc = .ok (.ifCond cd o, 3)) (hp : pc + 3 = pc') (ho : 0 ≤ (pc : Int) + o) (hp2 : ((pc : Int) + o).toNat = pc2) (h1 : if_icmp.holds cd x 0 = true → Go p e below Q (T.setTop (mkF m pc2 Ls st))) (h2 : if_icmp.holds cd x 0 = false → Go p e below Q (T.setTop (mkF m pc' Ls st))) : Go p e below Q (T.setTop (mkF m pc Ls (.int x :: st))) := by
  subst hp
  obtain ⟨locs, Y, -, -, -⟩ := X
  cases hc : if_icmp.holds cd x 0 with
  | true => exact Go.back (fun t kt => Jvm.Free.XS.ifYes Y.here C.1 rfl (pc0 := pc) rfl (C.cd hd) rfl ((if0 _ _).trans hc) ho hp2 kt) (h1 hc)
  | false => exact Go.back (fun t kt => Jvm.Free.XS.ifNo Y.here C.1 rfl (C.cd hd) rfl ((if0 _ _).trans hc) kt) (h2 hc)
theorem i32lt {x y : Int32} : x < y ↔ x.toInt < y.toInt := Int32.lt_iff_toInt_lt
theorem ic_lt {x y : Int32} : (if_icmp.holds .lt x y = true ↔ x.toInt < y.toInt) ∧ (if_icmp.holds .lt x y = false ↔ y.toInt ≤ x.toInt) := by
  by_cases q : x < y
  · have := i32lt.mp q; simp [(tlt q).1]; omega
  · have := mt i32lt.mpr q; simp [(flt q).1]; omega
theorem ic_ge {x y : Int32} : (if_icmp.holds .ge x y = true ↔ y.toInt ≤ x.toInt) ∧ (if_icmp.holds .ge x y = false ↔ x.toInt < y.toInt) := by
  by_cases q : x < y
  · have := i32lt.mp q; simp [(tlt q).2.1]; omega
  · have := mt i32lt.mpr q; simp [(flt q).2.1]; omega
theorem ic_gt {x y : Int32} : (if_icmp.holds .gt x y = true ↔ y.toInt < x.toInt) ∧ (if_icmp.holds .gt x y = false ↔ x.toInt ≤ y.toInt) := by
  by_cases q : y < x
  · have := i32lt.mp q; simp [(tlt q).2.2.1]; omega
  · have := mt i32lt.mpr q; simp [(flt q).2.2.1]; omega
theorem ic_le {x y : Int32} : (if_icmp.holds .le x y = true ↔ x.toInt ≤ y.toInt) ∧ (if_icmp.holds .le x y = false ↔ y.toInt < x.toInt) := by
  by_cases q : y < x
  · have := i32lt.mp q; simp [(tlt q).2.2.2]; omega
  · have := mt i32lt.mpr q; simp [(flt q).2.2.2]; omega
theorem ic_eq {x y : Int32} : (if_icmp.holds .eq x y = true ↔ x = y) ∧ (if_icmp.holds .eq x y = false ↔ ¬ x = y) := by
  by_cases q : x = y
  · subst q; exact ⟨⟨fun _ => rfl, fun _ => (teq rfl).1⟩, ⟨fun h => (by rw [(teq rfl).1] at h; cases h), fun h => absurd rfl h⟩⟩
  · exact ⟨⟨fun h => (by rw [(feq q).1] at h; cases h), fun h => absurd h q⟩, ⟨fun _ => q, fun _ => (feq q).1⟩⟩
theorem ic_ne {x y : Int32} : (if_icmp.holds .ne x y = true ↔ ¬ x = y) ∧ (if_icmp.holds .ne x y = false ↔ x = y) := by
  by_cases q : x = y
  · subst q; exact ⟨⟨fun h => (by rw [(teq rfl).2] at h; cases h), fun h => absurd rfl h⟩, ⟨fun _ => rfl, fun _ => (teq rfl).2⟩⟩
  · exact ⟨⟨fun _ => q, fun _ => (feq q).2⟩, ⟨fun h => (by rw [(feq q).2] at h; cases h), fun h => absurd h q⟩⟩
theorem lc_i (x y : Int64) : ((lcmpW x y).toInt < 0 ↔ x.toInt < y.toInt) ∧ (0 < (lcmpW x y).toInt ↔ y.toInt < x.toInt) ∧ (lcmpW x y = 0 ↔ x = y) := by
  obtain ⟨a, b, c⟩ := c_lcmp x y
  refine ⟨?_, ?_, lw_eq x y⟩ <;> rcases Int.lt_trichotomy x.toInt y.toInt with q | q | q <;> (first | have := a q | have := b q | have := c q) <;> omega
theorem go_icmp_lt (C : Cx p s m meth c Z a0 own bytes maxL ret nm) (X : St Z p l e R s m args below meth c n0 T h k n) {o : Int} {x y : Int32} (hd : decode bytes pc = .ok (.if_icmp .lt o, 3)) (hp : pc + 3 = pc') (ho : 0 ≤ (pc : Int) + o) (hp2 : ((pc : Int) + o).toNat = pc2) (h1 : x.toInt < y.toInt → Go p e below Q (T.setTop (mkF m pc2 Ls st))) (h2 : y.toInt ≤ x.toInt → Go p e below Q (T.setTop (mkF m pc' Ls st))) : Go p e below Q (T.setTop (mkF m pc Ls (.int y :: .int x :: st))) := go_icmp C X hd hp ho hp2 (fun q => h1 (ic_lt.1.mp q)) (fun q => h2 (ic_lt.2.mp q))
theorem go_if_lt (C : Cx p s m meth c Z a0 own bytes maxL ret nm) (X : St Z p l e R s m args below meth c n0 T h k n) {o : Int} {x : Int32} (hd : decode bytes pc = .ok (.ifCond .lt o, 3)) (hp : pc + 3 = pc') (ho : 0 ≤ (pc : Int) + o) (hp2 : ((pc : Int) + o).toNat = pc2) (h1 : x.toInt < 0 → Go p e below Q (T.setTop (mkF m pc2 Ls st))) (h2 : 0 ≤ x.toInt → Go p e below Q (T.setTop (mkF m pc' Ls st))) : Go p e below Q (T.setTop (mkF m pc Ls (.int x :: st))) := go_if C X hd hp ho hp2 (fun q => h1 (ic_lt.1.mp q)) (fun q => h2 (ic_lt.2.mp q))
theorem go_lif_lt (C : Cx p s m meth c Z a0 own bytes maxL ret nm) (X : St Z p l e R s m args below meth c n0 T h k n) {o : Int} {x y : Int64} {pc1 : Nat} (hp1 : pc + 1 = pc1) (hd1 : decode bytes pc = .ok (.lcmp, 1)) (hd : decode bytes pc1 = .ok (.ifCond .lt o, 3)) (hp : pc1 + 3 = pc') (ho : 0 ≤ (pc1 : Int) + o) (hp2 : ((pc1 : Int) + o).toNat = pc2) (h1 : x.toInt < y.toInt → Go p e below Q (T.setTop (mkF m pc2 Ls st))) (h2 : y.toInt ≤ x.toInt → Go p e below Q (T.setTop (mkF m pc' Ls st))) : Go p e below Q (T.setTop (mkF m pc Ls (.long y :: .long x :: st))) := go_lcmp C X _ hp1 hd1 (go_if_lt C X hd hp ho hp2 (fun q => h1 ((lc_i x y).1.mp q)) (fun q => h2 (by have := mt (lc_i x y).1.mpr (by omega); omega)))
theorem go_icmp_ge (C : Cx p s m meth c Z a0 own bytes maxL ret nm) (X : St Z p l e R s m args below meth c n0 T h k n) {o : Int} {x y : Int32} (hd : decode bytes pc = .ok (.if_icmp .ge o, 3)) (hp : pc + 3 = pc') (ho : 0 ≤ (pc : Int) + o) (hp2 : ((pc : Int) + o).toNat = pc2) (h1 : y.toInt ≤ x.toInt → Go p e below Q (T.setTop (mkF m pc2 Ls st))) (h2 : x.toInt < y.toInt → Go p e below Q (T.setTop (mkF m pc' Ls st))) : Go p e below Q (T.setTop (mkF m pc Ls (.int y :: .int x :: st))) := go_icmp C X hd hp ho hp2 (fun q => h1 (ic_ge.1.mp q)) (fun q => h2 (ic_ge.2.mp q))
theorem go_if_ge (C : Cx p s m meth c Z a0 own bytes maxL ret nm) (X : St Z p l e R s m args below meth c n0 T h k n) {o : Int} {x : Int32} (hd : decode bytes pc = .ok (.ifCond .ge o, 3)) (hp : pc + 3 = pc') (ho : 0 ≤ (pc : Int) + o) (hp2 : ((pc : Int) + o).toNat = pc2) (h1 : 0 ≤ x.toInt → Go p e below Q (T.setTop (mkF m pc2 Ls st))) (h2 : x.toInt < 0 → Go p e below Q (T.setTop (mkF m pc' Ls st))) : Go p e below Q (T.setTop (mkF m pc Ls (.int x :: st))) := go_if C X hd hp ho hp2 (fun q => h1 (ic_ge.1.mp q)) (fun q => h2 (ic_ge.2.mp q))
theorem go_lif_ge (C : Cx p s m meth c Z a0 own bytes maxL ret nm) (X : St Z p l e R s m args below meth c n0 T h k n) {o : Int} {x y : Int64} {pc1 : Nat} (hp1 : pc + 1 = pc1) (hd1 : decode bytes pc = .ok (.lcmp, 1)) (hd : decode bytes pc1 = .ok (.ifCond .ge o, 3)) (hp : pc1 + 3 = pc') (ho : 0 ≤ (pc1 : Int) + o) (hp2 : ((pc1 : Int) + o).toNat = pc2) (h1 : y.toInt ≤ x.toInt → Go p e below Q (T.setTop (mkF m pc2 Ls st))) (h2 : x.toInt < y.toInt → Go p e below Q (T.setTop (mkF m pc' Ls st))) : Go p e below Q (T.setTop (mkF m pc Ls (.long y :: .long x :: st))) := go_lcmp C X _ hp1 hd1 (go_if_ge C X hd hp ho hp2 (fun q => h1 (by have := mt (lc_i x y).1.mpr (by omega); omega)) (fun q => h2 ((lc_i x y).1.mp q)))
theorem go_icmp_gt (C : Cx p s m meth c Z a0 own bytes maxL ret nm) (X : St Z p l e R s m args below meth c n0 T h k n) {o : Int} {x y : Int32} (hd : decode bytes pc = .ok (.if_icmp .gt o, 3)) (hp : pc + 3 = pc') (ho : 0 ≤ (pc : Int) + o) (hp2 : ((pc : Int) + o).toNat = pc2) (h1 : y.toInt < x.toInt → Go p e below Q (T.setTop (mkF m pc2 Ls st))) (h2 : x.toInt ≤ y.toInt → Go p e below Q (T.setTop (mkF m pc' Ls st))) : Go p e below Q (T.setTop (mkF m pc Ls (.int y :: .int x :: st))) := go_icmp C X hd hp ho hp2 (fun q => h1 (ic_gt.1.mp q)) (fun q => h2 (ic_gt.2.mp q))
theorem go_if_gt (C : Cx p s m meth c Z a0 own bytes maxL ret nm) (X : St Z p l e R s m args below meth c n0 T h k n) {o : Int} {x : Int32} (hd : decode bytes pc = .ok (.ifCond .gt o, 3)) (hp : pc + 3 = pc') (ho : 0 ≤ (pc : Int) + o) (hp2 : ((pc : Int) + o).toNat = pc2) (h1 : 0 < x.toInt → Go p e below Q (T.setTop (mkF m pc2 Ls st))) (h2 : x.toInt ≤ 0 → Go p e below Q (T.setTop (mkF m pc' Ls st))) : Go p e below Q (T.setTop (mkF m pc Ls (.int x :: st))) := go_if C X hd hp ho hp2 (fun q => h1 (ic_gt.1.mp q)) (fun q => h2 (ic_gt.2.mp q))
theorem go_lif_gt (C : Cx p s m meth c Z a0 own bytes maxL ret nm) (X : St Z p l e R s m args below meth c n0 T h k n) {o : Int} {x y : Int64} {pc1 : Nat} (hp1 : pc + 1 = pc1) (hd1 : decode bytes pc = .ok (.lcmp, 1)) (hd : decode bytes pc1 = .ok (.ifCond .gt o, 3)) (hp : pc1 + 3 = pc') (ho : 0 ≤ (pc1 : Int) + o) (hp2 : ((pc1 : Int) + o).toNat = pc2) (h1 : y.toInt < x.toInt → Go p e below Q (T.setTop (mkF m pc2 Ls st))) (h2 : x.toInt ≤ y.toInt → Go p e below Q (T.setTop (mkF m pc' Ls st))) : Go p e below Q (T.setTop (mkF m pc Ls (.long y :: .long x :: st))) := go_lcmp C X _ hp1 hd1 (go_if_gt C X hd hp ho hp2 (fun q => h1 ((lc_i x y).2.1.mp q)) (fun q => h2 (by have := mt (lc_i x y).2.1.mpr (by omega); omega)))
theorem go_icmp_le (C : Cx p s m meth c Z a0 own bytes maxL ret nm) (X : St Z p l e R s m args below meth c n0 T h k n) {o : Int} {x y : Int32} (hd : decode bytes pc = .ok (.if_icmp .le o, 3)) (hp : pc + 3 = pc') (ho : 0 ≤ (pc : Int) + o) (hp2 : ((pc : Int) + o).toNat = pc2) (h1 : x.toInt ≤ y.toInt → Go p e below Q (T.setTop (mkF m pc2 Ls st))) (h2 : y.toInt < x.toInt → Go p e below Q (T.setTop (mkF m pc' Ls st))) : Go p e below Q (T.setTop (mkF m pc Ls (.int y :: .int x :: st))) := go_icmp C X hd hp ho hp2 (fun q => h1 (ic_le.1.mp q)) (fun q => h2 (ic_le.2.mp q))
theorem go_if_le (C : Cx p s m meth c Z a0 own bytes maxL ret nm) (X : St Z p l e R s m args below meth c n0 T h k n) {o : Int} {x : Int32} (hd : decode bytes pc = .ok (.ifCond .le o, 3)) (hp : pc + 3 = pc') (ho : 0 ≤ (pc : Int) + o) (hp2 : ((pc : Int) + o).toNat = pc2) (h1 : x.toInt ≤ 0 → Go p e below Q (T.setTop (mkF m pc2 Ls st))) (h2 : 0 < x.toInt → Go p e below Q (T.setTop (mkF m pc' Ls st))) : Go p e below Q (T.setTop (mkF m pc Ls (.int x :: st))) := go_if C X hd hp ho hp2 (fun q => h1 (ic_le.1.mp q)) (fun q => h2 (ic_le.2.mp q))
theorem go_lif_le (C : Cx p s m meth c Z a0 own bytes maxL ret nm) (X : St Z p l e R s m args below meth c n0 T h k n) {o : Int} {x y : Int64} {pc1 : Nat} (hp1 : pc + 1 = pc1) (hd1 : decode bytes pc = .ok (.lcmp, 1)) (hd : decode bytes pc1 = .ok (.ifCond .le o, 3)) (hp : pc1 + 3 = pc') (ho : 0 ≤ (pc1 : Int) + o) (hp2 : ((pc1 : Int) + o).toNat = pc2) (h1 : x.toInt ≤ y.toInt → Go p e below Q (T.setTop (mkF m pc2 Ls st))) (h2 : y.toInt < x.toInt → Go p e below Q (T.setTop (mkF m pc' Ls st))) : Go p e below Q (T.setTop (mkF m pc Ls (.long y :: .long x :: st))) := go_lcmp C X _ hp1 hd1 (go_if_le C X hd hp ho hp2 (fun q => h1 (by have := mt (lc_i x y).2.1.mpr (by omega); omega)) (fun q => h2 ((lc_i x y).2.1.mp q)))
theorem go_icmp_eq (C : Cx p s m meth c Z a0 own bytes maxL ret nm) (X : St Z p l e R s m args below meth c n0 T h k n) {o : Int} {x y : Int32} (hd : decode bytes pc = .ok (.if_icmp .eq o, 3)) (hp : pc + 3 = pc') (ho : 0 ≤ (pc : Int) + o) (hp2 : ((pc : Int) + o).toNat = pc2) (h1 : x = y → Go p e below Q (T.setTop (mkF m pc2 Ls st))) (h2 : ¬ x = y → Go p e below Q (T.setTop (mkF m pc' Ls st))) : Go p e below Q (T.setTop (mkF m pc Ls (.int y :: .int x :: st))) := go_icmp C X hd hp ho hp2 (fun q => h1 (ic_eq.1.mp q)) (fun q => h2 (ic_eq.2.mp q))
theorem go_if_eq (C : Cx p s m meth c Z a0 own bytes maxL ret nm) (X : St Z p l e R s m args below meth c n0 T h k n) {o : Int} {x : Int32} (hd : decode bytes pc = .ok (.ifCond .eq o, 3)) (hp : pc + 3 = pc') (ho : 0 ≤ (pc : Int) + o) (hp2 : ((pc : Int) + o).toNat = pc2) (h1 : x = 0 → Go p e below Q (T.setTop (mkF m pc2 Ls st))) (h2 : ¬ x = 0 → Go p e below Q (T.setTop (mkF m pc' Ls st))) : Go p e below Q (T.setTop (mkF m pc Ls (.int x :: st))) := go_if C X hd hp ho hp2 (fun q => h1 (ic_eq.1.mp q)) (fun q => h2 (ic_eq.2.mp q))
theorem go_lif_eq (C : Cx p s m meth c Z a0 own bytes maxL ret nm) (X : St Z p l e R s m args below meth c n0 T h k n) {o : Int} {x y : Int64} {pc1 : Nat} (hp1 : pc + 1 = pc1) (hd1 : decode bytes pc = .ok (.lcmp, 1)) (hd : decode bytes pc1 = .ok (.ifCond .eq o, 3)) (hp : pc1 + 3 = pc') (ho : 0 ≤ (pc1 : Int) + o) (hp2 : ((pc1 : Int) + o).toNat = pc2) (h1 : x = y → Go p e below Q (T.setTop (mkF m pc2 Ls st))) (h2 : ¬ x = y → Go p e below Q (T.setTop (mkF m pc' Ls st))) : Go p e below Q (T.setTop (mkF m pc Ls (.long y :: .long x :: st))) := go_lcmp C X _ hp1 hd1 (go_if_eq C X hd hp ho hp2 (fun q => h1 ((lc_i x y).2.2.mp q)) (fun q => h2 (mt (lc_i x y).2.2.mpr q)))
theorem go_icmp_ne (C : Cx p s m meth c Z a0 own bytes maxL ret nm) (X : St Z p l e R s m args below meth c n0 T h k n) {o : Int} {x y : Int32} (hd : decode bytes pc = .ok (.if_icmp .ne o, 3)) (hp : pc + 3 = pc') (ho : 0 ≤ (pc : Int) + o) (hp2 : ((pc : Int) + o).toNat = pc2) (h1 : ¬ x = y → Go p e below Q (T.setTop (mkF m pc2 Ls st))) (h2 : x = y → Go p e below Q (T.setTop (mkF m pc' Ls st))) : Go p e below Q (T.setTop (mkF m pc Ls (.int y :: .int x :: st))) := go_icmp C X hd hp ho hp2 (fun q => h1 (ic_ne.1.mp q)) (fun q => h2 (ic_ne.2.mp q))
theorem go_if_ne (C : Cx p s m meth c Z a0 own bytes maxL ret nm) (X : St Z p l e R s m args below meth c n0 T h k n) {o : Int} {x : Int32} (hd : decode bytes pc = .ok (.ifCond .ne o, 3)) (hp : pc + 3 = pc') (ho : 0 ≤ (pc : Int) + o) (hp2 : ((pc : Int) + o).toNat = pc2) (h1 : ¬ x = 0 → Go p e below Q (T.setTop (mkF m pc2 Ls st))) (h2 : x = 0 → Go p e below Q (T.setTop (mkF m pc' Ls st))) : Go p e below Q (T.setTop (mkF m pc Ls (.int x :: st))) := go_if C X hd hp ho hp2 (fun q => h1 (ic_ne.1.mp q)) (fun q => h2 (ic_ne.2.mp q))
theorem go_lif_ne (C : Cx p s m meth c Z a0 own bytes maxL ret nm) (X : St Z p l e R s m args below meth c n0 T h k n) {o : Int} {x y : Int64} {pc1 : Nat} (hp1 : pc + 1 = pc1) (hd1 : decode bytes pc = .ok (.lcmp, 1)) (hd : decode bytes pc1 = .ok (.ifCond .ne o, 3)) (hp : pc1 + 3 = pc') (ho : 0 ≤ (pc1 : Int) + o) (hp2 : ((pc1 : Int) + o).toNat = pc2) (h1 : ¬ x = y → Go p e below Q (T.setTop (mkF m pc2 Ls st))) (h2 : x = y → Go p e below Q (T.setTop (mkF m pc' Ls st))) : Go p e below Q (T.setTop (mkF m pc Ls (.long y :: .long x :: st))) := go_lcmp C X _ hp1 hd1 (go_if_ne C X hd hp ho hp2 (fun q => h1 (mt (lc_i x y).2.2.mpr q)) (fun q => h2 ((lc_i x y).2.2.mp q)))
theorem go_dload (C : Cx p s m meth c Z a0 own bytes maxL ret nm) (X : St Z p l e R s m args below meth c n0 T h k n) {i : Nat} {v : UInt64} (pc' : Nat) (hp : pc + 2 = pc') (hd : decode bytes pc = .ok (.dload i, 2)) (hl : Ls[i]? = some (.val (.double v))) (hr : Go p e below Q (T.setTop (mkF m pc' Ls (.double v :: st)))) : Go p e below Q (T.setTop (mkF m pc Ls st)) := by
  subst hp
  obtain ⟨locs, Y, -, -, -⟩ := X
  exact Go.back (fun t kt => Jvm.Free.XS.dload Y.here C.1 rfl (C.cd hd) hl kt) hr
theorem go_dloadN (C : Cx p s m meth c Z a0 own bytes maxL ret nm) (X : St Z p l e R s m args below meth c n0 T h k n) {i : Fin 4} {v : UInt64} (pc' : Nat) (hp : pc + 1 = pc') (hd : decode bytes pc = .ok (.dload_n i, 1)) (hl : Ls[i.val]? = some (.val (.double v))) (hr : Go p e below Q (T.setTop (mkF m pc' Ls (.double v :: st)))) : Go p e below Q (T.setTop (mkF m pc Ls st)) := by
  subst hp
  obtain ⟨locs, Y, -, -, -⟩ := X
  exact Go.back (fun t kt => Jvm.Free.XS.dloadN Y.here C.1 rfl (C.cd hd) hl kt) hr
theorem go_dstore (C : Cx p s m meth c Z a0 own bytes maxL ret nm) (X : St Z p l e R s m args below meth c n0 T h k n) {i : Nat} {v : UInt64} (pc' : Nat) (hp : pc + 2 = pc') (hd : decode bytes pc = .ok (.dstore i, 2)) (Ls' : Array Slot) (hl : storeLocals Ls i (.double v) = some Ls') (hr : Go p e below Q (T.setTop (mkF m pc' Ls' st))) : Go p e below Q (T.setTop (mkF m pc Ls (.double v :: st))) := by
  subst hp
  obtain ⟨locs, Y, -, -, -⟩ := X
  exact Go.back (fun t kt => Jvm.Free.XS.dstore Y.here C.1 rfl (C.cd hd) rfl hl kt) hr
theorem go_dstoreN (C : Cx p s m meth c Z a0 own bytes maxL ret nm) (X : St Z p l e R s m args below meth c n0 T h k n) {i : Fin 4} {v : UInt64} (pc' : Nat) (hp : pc + 1 = pc') (hd : decode bytes pc = .ok (.dstore_n i, 1)) (Ls' : Array Slot) (hl : storeLocals Ls i.val (.double v) = some Ls') (hr : Go p e below Q (T.setTop (mkF m pc' Ls' st))) : Go p e below Q (T.setTop (mkF m pc Ls (.double v :: st))) := by
  subst hp
  obtain ⟨locs, Y, -, -, -⟩ := X
  exact Go.back (fun t kt => Jvm.Free.XS.dstoreN Y.here C.1 rfl (C.cd hd) rfl hl kt) hr
theorem go_dconst0 (C : Cx p s m meth c Z a0 own bytes maxL ret nm) (X : St Z p l e R s m args below meth c n0 T h k n)  (pc' : Nat) (hp : pc + 1 = pc') (hd : decode bytes pc = .ok (.dconst 0, 1)) (hr : Go p e below Q (T.setTop (mkF m pc' Ls (.double (FP.l2d 0) :: st)))) : Go p e below Q (T.setTop (mkF m pc Ls st)) := by
  subst hp
  obtain ⟨locs, Y, -, -, -⟩ := X
  exact Go.back (fun t kt => Jvm.Free.XS.dconst0 Y.here C.1 rfl (C.cd hd) (by decide +kernel) kt) hr
theorem go_i2d (C : Cx p s m meth c Z a0 own bytes maxL ret nm) (X : St Z p l e R s m args below meth c n0 T h k n) {x : Int32} (pc' : Nat) (hp : pc + 1 = pc') (hd : decode bytes pc = .ok (.i2d, 1)) (hr : Go p e below Q (T.setTop (mkF m pc' Ls (.double (FP.l2d x.toInt64) :: st)))) : Go p e below Q (T.setTop (mkF m pc Ls (.int x :: st))) := by
  subst hp
  obtain ⟨locs, Y, -, -, -⟩ := X
  exact Go.back (fun t kt => Jvm.Free.XS.i2dS Y.here C.1 rfl (C.cd hd) rfl (i2d_w x) kt) hr
theorem go_l2d (C : Cx p s m meth c Z a0 own bytes maxL ret nm) (X : St Z p l e R s m args below meth c n0 T h k n) {x : Int64} (pc' : Nat) (hp : pc + 1 = pc') (hd : decode bytes pc = .ok (.l2d, 1)) (hr : Go p e below Q (T.setTop (mkF m pc' Ls (.double (FP.l2d x) :: st)))) : Go p e below Q (T.setTop (mkF m pc Ls (.long x :: st))) := by
  subst hp
  obtain ⟨locs, Y, -, -, -⟩ := X
  exact Go.back (fun t kt => Jvm.Free.XS.l2dS Y.here C.1 rfl (C.cd hd) rfl rfl kt) hr
theorem go_dadd (C : Cx p s m meth c Z a0 own bytes maxL ret nm) (X : St Z p l e R s m args below meth c n0 T h k n) {x y : Int64} (pc' : Nat) (hp : pc + 1 = pc') (hd : decode bytes pc = .ok (.dadd, 1)) (ha : B53 x) (hb : B53 y) (hr : Go p e below Q (T.setTop (mkF m pc' Ls (.double (FP.l2d (x + y)) :: st)))) : Go p e below Q (T.setTop (mkF m pc Ls (.double (FP.l2d y) :: .double (FP.l2d x) :: st))) := by
  subst hp
  obtain ⟨locs, Y, -, -, -⟩ := X
  exact Go.back (fun t kt => Jvm.Free.XS.daddS Y.here C.1 rfl (C.cd hd) rfl (nn_w (dadd_w ha hb)) (dadd_w ha hb) kt) hr
theorem go_dcmp (C : Cx p s m meth c Z a0 own bytes maxL ret nm) (X : St Z p l e R s m args below meth c n0 T h k n) {o : CmpOp} {x y : Int64} (pc' : Nat) (hp : pc + 1 = pc') (hd : decode bytes pc = .ok (.dcmp o, 1)) (ha : B53 x) (hb : B53 y) (hr : Go p e below Q (T.setTop (mkF m pc' Ls (.int (lcmpW x y) :: st)))) : Go p e below Q (T.setTop (mkF m pc Ls (.double (FP.l2d y) :: .double (FP.l2d x) :: st))) := by
  subst hp
  obtain ⟨locs, Y, -, -, -⟩ := X
  exact Go.back (fun t kt => Jvm.Free.XS.dcmpS Y.here C.1 rfl (C.cd hd) rfl (dcmpV_w ha hb o) kt) hr
theorem go_ldcInt (C : Cx p s m meth c Z a0 own bytes maxL ret nm) (X : St Z p l e R s m args below meth c n0 T h k n) {idx : Nat} {v : Int32} (w : (Jvm.Cond.constant own idx v).before a0 Z = true) (hp : pc + 2 = pc') (hd : decode bytes pc = .ok (.ldc idx, 2)) (hr : Go p e below Q (T.setTop (mkF m pc' Ls (.int v :: st)))) : Go p e below Q (T.setTop (mkF m pc Ls st)) := by
  subst hp
  obtain ⟨locs, Y, -, -, -⟩ := X
  exact Go.back (fun t kt => Y.ldcInt C.1 C.ow (mvT C.hZ w) (g := mkF m pc Ls st) rfl (C.cd hd) t kt) hr
theorem go_ldcwInt (C : Cx p s m meth c Z a0 own bytes maxL ret nm) (X : St Z p l e R s m args below meth c n0 T h k n) {idx : Nat} {v : Int32} (w : (Jvm.Cond.constant own idx v).before a0 Z = true) (hp : pc + 3 = pc') (hd : decode bytes pc = .ok (.ldc_w idx, 3)) (hr : Go p e below Q (T.setTop (mkF m pc' Ls (.int v :: st)))) : Go p e below Q (T.setTop (mkF m pc Ls st)) := by
  subst hp
  obtain ⟨locs, Y, -, -, -⟩ := X
  exact Go.back (fun t kt => Y.ldcwInt C.1 C.ow (mvT C.hZ w) (g := mkF m pc Ls st) rfl (C.cd hd) t kt) hr
theorem go_ldc2Long (C : Cx p s m meth c Z a0 own bytes maxL ret nm) (X : St Z p l e R s m args below meth c n0 T h k n) {idx : Nat} {v : Int64} (w : (Jvm.Cond.constantLong own idx v).before a0 Z = true) (hp : pc + 3 = pc') (hd : decode bytes pc = .ok (.ldc2_w idx, 3)) (hr : Go p e below Q (T.setTop (mkF m pc' Ls (.long v :: st)))) : Go p e below Q (T.setTop (mkF m pc Ls st)) := by
  subst hp
  obtain ⟨locs, Y, -, -, -⟩ := X
  exact Go.back (fun t kt => Y.ldc2Long C.1 C.ow (mvT C.hZ w) (g := mkF m pc Ls st) rfl (C.cd hd) t kt) hr
variable {kc kn : Nat} {Qy : Option Value → Heap → Prop}
theorem go_leave (C : Cx p s m meth c Z a0 own bytes maxL ret nm) (X : St Z p l e R s m args below meth c n0 T h k n) {v : Option Value} {f : JFrame} (hv : meth.sig.returnType = none → v = none) (hQ : Qy v h) (hk : k ≤ kc) (hn : n ≤ kn)
    (go : ∀ {locs : List Loc} (Y : Stand p l e R s m args below meth c T locs k n) {fs : List Frame}, (∀ (f : JFrame) (acts : List Action), f.method = m → f.locked = none → f.entered = [] → (doReturn e (T.setTop f) acts v).1 = T.setFrames fs) → Steps p.tables e below (T.setTop f) (T.setFrames fs)) :
    Go p e below (FinQ s kc kn n0 Qy) (T.setTop f) := by
  obtain ⟨locs, Y, N, -, rfl⟩ := X
  obtain ⟨fs, hr, hrun, hended, hW, hsame⟩ := Y.leave hv C.lk
  exact ⟨_, _, go Y hr, hrun, hended, _, _, rfl, ⟨N, hQ⟩, ⟨_, rfl⟩, hW, hsame.mono hk hn⟩
theorem go_ret0 (C : Cx p s m meth c Z a0 own bytes maxL none nm) (X : St Z p l e R s m args below meth c n0 T h k n) (hd : decode bytes pc = .ok (.return_, 1)) (hQ : Qy none h) (hk : k ≤ kc) (hn : n ≤ kn) : Go p e below (FinQ s kc kn n0 Qy) (T.setTop (mkF m pc Ls [])) :=
  go_leave C X (fun _ => rfl) hQ hk hn fun Y _ hr => Y.returnOut C.1 C.rt (C.cd hd) hr
theorem go_retI (C : Cx p s m meth c Z a0 own bytes maxL (some .int) nm) (X : St Z p l e R s m args below meth c n0 T h k n) {z : Int32} (hd : decode bytes pc = .ok (.ireturn, 1)) (hQ : Qy (some (.int z)) h) (hk : k ≤ kc) (hn : n ≤ kn) : Go p e below (FinQ s kc kn n0 Qy) (T.setTop (mkF m pc Ls (.int z :: st))) :=
  go_leave C X (fun q => by rw [C.rt] at q; cases q) hQ hk hn fun Y _ hr => retOut Y C.1 C.rt rfl (Or.inl ⟨rfl, Or.inl rfl, _, rfl⟩) (C.cd hd) hr
theorem go_retJ (C : Cx p s m meth c Z a0 own bytes maxL (some .long) nm) (X : St Z p l e R s m args below meth c n0 T h k n) {z : Int64} (hd : decode bytes pc = .ok (.lreturn, 1)) (hQ : Qy (some (.long z)) h) (hk : k ≤ kc) (hn : n ≤ kn) : Go p e below (FinQ s kc kn n0 Qy) (T.setTop (mkF m pc Ls (.long z :: st))) :=
  go_leave C X (fun q => by rw [C.rt] at q; cases q) hQ hk hn fun Y _ hr => retOut Y C.1 C.rt rfl (Or.inr (Or.inl ⟨rfl, rfl, _, rfl⟩)) (C.cd hd) hr
theorem go_retD (C : Cx p s m meth c Z a0 own bytes maxL (some .double) nm) (X : St Z p l e R s m args below meth c n0 T h k n) {z : UInt64} (hd : decode bytes pc = .ok (.dreturn, 1)) (hQ : Qy (some (.double z)) h) (hk : k ≤ kc) (hn : n ≤ kn) : Go p e below (FinQ s kc kn n0 Qy) (T.setTop (mkF m pc Ls (.double z :: st))) :=
  go_leave C X (fun q => by rw [C.rt] at q; cases q) hQ hk hn fun Y _ hr => retOut Y C.1 C.rt rfl (Or.inr (Or.inr (Or.inl ⟨rfl, rfl, _, rfl⟩))) (C.cd hd) hr
theorem go_retA {ty : FieldType} (C : Cx p s m meth c Z a0 own bytes maxL (some ty) nm) (X : St Z p l e R s m args below meth c n0 T h k n) {v : Value} (hd : decode bytes pc = .ok (.areturn, 1)) (ht : ty.isReference = true) (hv : v.isRef = true) (hQ : Qy (some v) h) (hk : k ≤ kc) (hn : n ≤ kn) : Go p e below (FinQ s kc kn n0 Qy) (T.setTop (mkF m pc Ls (v :: st))) :=
  go_leave C X (fun q => by rw [C.rt] at q; cases q) hQ hk hn fun Y _ hr => retOut Y C.1 C.rt (by cases ty <;> first | (cases ht; done) | rfl) (Or.inr (Or.inr (Or.inr (Or.inr ⟨rfl, ht, hv⟩)))) (C.cd hd) hr
theorem go_retN {ty : FieldType} (C : Cx p s m meth c Z a0 own bytes maxL (some ty) nm) (X : St Z p l e R s m args below meth c n0 T h k n) {z z' : Int32} (ht : ty = .boolean ∨ ty = .byte ∨ ty = .char ∨ ty = .short) (hz : nar ty z = z') (hd : decode bytes pc = .ok (.ireturn, 1)) (hQ : Qy (some (.int z')) h) (hk : k ≤ kc) (hn : n ≤ kn) : Go p e below (FinQ s kc kn n0 Qy) (T.setTop (mkF m pc Ls (.int z :: st))) := by
  subst hz
  exact go_leave C X (fun q => by rw [C.rt] at q; cases q) hQ hk hn fun Y _ hr => retN Y C.1 C.rt ht (C.cd hd) hr
/-! calls by the callee's contract -/
variable {idx : Nat} {y : MethodName} {yb : ByteArray} {yl : Nat} {yr : Option FieldType} {rm : Room} {as' : Array Value} {QY : Option Value → Heap → Prop} {argsL rest : List Value}
theorem con_back (C : Cx p s m meth c Z a0 own bytes maxL ret nm) (hM : Con l Z y yb yl yr rm as' h n0 QY) {W : Nat} (wc : (Jvm.Cond.code y yb yl yr).before a0 Z = true) (wz : (Jvm.Cond.initialized y.cls).before a0 Z = true) (hf : rm.frames + 1 ≤ R.frames) (hl : W + (yl + 11) + rm.locals ≤ R.locals) :
    Back l R p e below s args y 3 W (fun A a => a = as' ∧ A.U.heap = h ∧ A.cells + rm.cells ≤ R.cells ∧ A.slots + rm.slots ≤ R.slots) (fun A _ v B => ∃ L, (Fr n0 L ∧ QY v B.U.heap) ∧ B.locs = A.locs ++ L ∧ B.cells = A.cells + rm.cells ∧ B.slots = A.slots + rm.slots) :=
  backOf (Q := fun v h' L => Fr n0 L ∧ QY v h') (hM []) C.hZ wc wz hf hl
theorem go_callS (C : Cx p s m meth c Z a0 own bytes maxL ret nm) (X : St Z p l e R s m args below meth c n0 T h k n) (wl : (Jvm.Cond.methodLink own idx y).before a0 Z = true) (ws : (Jvm.Cond.static y).before a0 Z = true) (wi : (Jvm.Cond.initialized y.cls).before a0 Z = true) (wc : (Jvm.Cond.code y yb yl yr).before a0 Z = true)
    (hM : Con l Z y yb yl yr rm as' h n0 QY) (hlen : ∀ sig, parseMethodDescriptor y.desc = some sig → argsL.length = sig.parameters.length) (ha : argsL.toArray = as') (hy : y.cls ≠ "java/lang/invoke/MethodHandle" ∧ y.cls ≠ "java/lang/invoke/VarHandle")
    (hf : rm.frames + 1 ≤ R.frames) (hl : (rest.map fun v => v.category).sum + (yl + 11) + rm.locals ≤ R.locals) (hc : k + rm.cells ≤ R.cells) (hn : n + rm.slots ≤ R.slots) (hst : st = argsL.reverse ++ rest) (hsz : Ls.size = maxL) (hp : pc + 3 = pc') (hd : decode bytes pc = .ok (.invokestatic idx, 3))
    (hr : ∀ T' h' v, QY v h' → St Z p l e R s m args below meth c n0 T' h' (k + rm.cells) (n + rm.slots) → Go p e below Q (T'.setTop (mkF m pc' Ls (v.toList ++ rest)))) : Go p e below Q (T.setTop (mkF m pc Ls st)) := by
  subst hp; subst ha; subst hst
  obtain ⟨locs, Y, N, zs, eT⟩ := X
  obtain ⟨v, _, ⟨T', L', k', n'⟩, -, X', ⟨Lc, ⟨N', hQ⟩, l1, y1, z1⟩, stp⟩ := Jvm.LawKit.callS Y C.1 C.ow (mvT C.hZ wl) (mvT C.hZ ws) (mvT C.hZ wi) (mvT C.hZ wc) hy (con_back C hM (W := (rest.map fun v => v.category).sum) wc wi hf hl) (g := mkF m pc Ls (argsL.reverse ++ rest)) rfl (hsz.trans C.ml.symm) (argsL := argsL) (rest := rest) hlen rfl (by show 2 * 0 + _ ≤ _; omega) (C.cd hd) (fun _ _ => ⟨rfl, eT, hc, hn⟩)
  dsimp only [Pt.U, Pt.locs, Pt.cells, Pt.slots] at X' l1 y1 z1 stp hQ
  subst l1 y1 z1
  exact Go.back stp (hr T' T'.heap v hQ ⟨_, X', N.app N', zs, rfl⟩)
theorem go_special (C : Cx p s m meth c Z a0 own bytes maxL ret nm) (X : St Z p l e R s m args below meth c n0 T h k n) {a : Addr} (wl : (Jvm.Cond.methodLink own idx y).before a0 Z = true) (ws : (Jvm.Cond.instanceMethod y).before a0 Z = true) (wi : (Jvm.Cond.initialized y.cls).before a0 Z = true) (wc : (Jvm.Cond.code y yb yl none).before a0 Z = true) (hy1 : y.name = "<init>")
    (hM : Con l Z y yb yl none rm as' h n0 QY) (hlen : ∀ sig, parseMethodDescriptor y.desc = some sig → argsL.length = sig.parameters.length) (ha : (.ref a :: argsL).toArray = as') (hy : y.cls ≠ "java/lang/invoke/MethodHandle" ∧ y.cls ≠ "java/lang/invoke/VarHandle")
    (hf : rm.frames + 1 ≤ R.frames) (hl : (rest.map fun v => v.category).sum + (yl + 11) + rm.locals ≤ R.locals) (hc : k + rm.cells ≤ R.cells) (hn : n + rm.slots ≤ R.slots) (hst : st = argsL.reverse ++ .ref a :: rest) (hsz : Ls.size = maxL) (hp : pc + 3 = pc') (hd : decode bytes pc = .ok (.invokespecial idx, 3))
    (hr : ∀ T' h' v, QY v h' → St Z p l e R s m args below meth c n0 T' h' (k + rm.cells) (n + rm.slots) → Go p e below Q (T'.setTop (mkF m pc' Ls (v.toList ++ rest)))) : Go p e below Q (T.setTop (mkF m pc Ls st)) := by
  subst hp; subst ha; subst hst
  obtain ⟨locs, Y, N, zs, eT⟩ := X
  obtain ⟨v, _, ⟨T', L', k', n'⟩, -, X', ⟨Lc, ⟨N', hQ⟩, l1, y1, z1⟩, stp⟩ := Y.specialBack C.1 hy1 C.ow (mvT C.hZ wl) (mvT C.hZ ws) (mvT C.hZ wc) hy (con_back C hM (W := (rest.map fun v => v.category).sum) wc wi hf hl) (g := mkF m pc Ls (argsL.reverse ++ .ref a :: rest)) rfl (hsz.trans C.ml.symm) (Steps.refl _) (a := a) (argsL := argsL) (rest := rest) hlen rfl (by show 2 * 0 + _ ≤ _; omega) (C.cd hd) (fun _ _ => ⟨rfl, eT, hc, hn⟩)
  dsimp only [Pt.U, Pt.locs, Pt.cells, Pt.slots] at X' l1 y1 z1 stp hQ
  subst l1 y1 z1
  exact Go.back (fun t kt => stp.trans kt) (hr T' T'.heap v hQ ⟨_, X', N.app N', zs, rfl⟩)
theorem go_virtual (C : Cx p s m meth c Z a0 own bytes maxL ret nm) (X : St Z p l e R s m args below meth c n0 T h k n) {a : Addr} {cn : String} {y0 : MethodName} (E : Exa Z h a cn) (wl : (Jvm.Cond.methodLink own idx y0).before a0 Z = true) (wd : (Jvm.Cond.declares y0).before a0 Z = true) (hnf : NotFace s y0) (wsel : (Jvm.Cond.selects cn y0 y).before a0 Z = true) (ws : (Jvm.Cond.instanceMethod y).before a0 Z = true) (wi : (Jvm.Cond.initialized y.cls).before a0 Z = true) (wc : (Jvm.Cond.code y yb yl yr).before a0 Z = true)
    (hM : Con l Z y yb yl yr rm as' h n0 QY) (hlen : ∀ sig, parseMethodDescriptor y0.desc = some sig → argsL.length = sig.parameters.length) (ha : (.ref a :: argsL).toArray = as') (hy : y0.cls ≠ "java/lang/invoke/MethodHandle" ∧ y0.cls ≠ "java/lang/invoke/VarHandle")
    (hf : rm.frames + 1 ≤ R.frames) (hl : (rest.map fun v => v.category).sum + (yl + 11) + rm.locals ≤ R.locals) (hc : k + rm.cells ≤ R.cells) (hn : n + rm.slots ≤ R.slots) (hst : st = argsL.reverse ++ .ref a :: rest) (hsz : Ls.size = maxL) (hp : pc + 3 = pc') (hd : decode bytes pc = .ok (.invokevirtual idx, 3))
    (hr : ∀ T' h' v, QY v h' → St Z p l e R s m args below meth c n0 T' h' (k + rm.cells) (n + rm.slots) → Go p e below Q (T'.setTop (mkF m pc' Ls (v.toList ++ rest)))) : Go p e below Q (T.setTop (mkF m pc Ls st)) := by
  subst hp; subst ha; subst hst
  obtain ⟨locs, Y, N, zs, eT⟩ := X
  obtain ⟨cq, kq, qa, qb, qc⟩ := isOf C.hZ eT E
  obtain ⟨v, _, ⟨T', L', k', n'⟩, -, X', ⟨Lc, ⟨N', hQ⟩, l1, y1, z1⟩, stp⟩ := Y.virtualBack C.1 C.ow (mvT C.hZ wl) (mvT C.hZ wd) hnf (mvT C.hZ wsel) (mvT C.hZ ws) hy (con_back C hM (W := (rest.map fun v => v.category).sum) wc wi hf hl) qa qc (g := mkF m pc Ls (argsL.reverse ++ .ref a :: rest)) rfl (hsz.trans C.ml.symm) (Steps.refl _) (argsL := argsL) (rest := rest) hlen rfl (by show 2 * 0 + _ ≤ _; omega) (C.cd hd) (fun _ _ => ⟨rfl, eT, hc, hn⟩)
  dsimp only [Pt.U, Pt.locs, Pt.cells, Pt.slots] at X' l1 y1 z1 stp hQ
  subst l1 y1 z1
  exact Go.back (fun t kt => stp.trans kt) (hr T' T'.heap v hQ ⟨_, X', N.app N', zs, rfl⟩)
theorem go_private (C : Cx p s m meth c Z a0 own bytes maxL ret nm) (X : St Z p l e R s m args below meth c n0 T h k n) {a : Addr} {cn : String} (E : Exa Z h a cn) (wl : (Jvm.Cond.methodLink own idx y).before a0 Z = true) (ws : (Jvm.Cond.instanceMethod y).before a0 Z = true) (wsel : (Jvm.Cond.selects y.cls y y).before a0 Z = true) (wp : (Jvm.Cond.privateMethod y).before a0 Z = true) (wi : (Jvm.Cond.initialized y.cls).before a0 Z = true) (wc : (Jvm.Cond.code y yb yl yr).before a0 Z = true)
    (hM : Con l Z y yb yl yr rm as' h n0 QY) (hlen : ∀ sig, parseMethodDescriptor y.desc = some sig → argsL.length = sig.parameters.length) (ha : (.ref a :: argsL).toArray = as') (hy : y.cls ≠ "java/lang/invoke/MethodHandle" ∧ y.cls ≠ "java/lang/invoke/VarHandle")
    (hf : rm.frames + 1 ≤ R.frames) (hl : (rest.map fun v => v.category).sum + (yl + 11) + rm.locals ≤ R.locals) (hc : k + rm.cells ≤ R.cells) (hn : n + rm.slots ≤ R.slots) (hst : st = argsL.reverse ++ .ref a :: rest) (hsz : Ls.size = maxL) (hp : pc + 3 = pc') (hd : decode bytes pc = .ok (.invokevirtual idx, 3))
    (hr : ∀ T' h' v, QY v h' → St Z p l e R s m args below meth c n0 T' h' (k + rm.cells) (n + rm.slots) → Go p e below Q (T'.setTop (mkF m pc' Ls (v.toList ++ rest)))) : Go p e below Q (T.setTop (mkF m pc Ls st)) := by
  subst hp; subst ha; subst hst
  obtain ⟨locs, Y, N, zs, eT⟩ := X
  obtain ⟨cq, q1, q2⟩ := E.cell
  obtain ⟨v, _, ⟨T', L', k', n'⟩, -, X', ⟨Lc, ⟨N', hQ⟩, l1, y1, z1⟩, stp⟩ := Y.privateBack C.1 C.ow (mvT C.hZ wl) (mvT C.hZ ws) (mvT C.hZ wsel) (Cond.privateMethod_at (mvP C.hZ wp (args := #[]))) (mvT C.hZ wc) hy (con_back C hM (W := (rest.map fun v => v.category).sum) wc wi hf hl) (g := mkF m pc Ls (argsL.reverse ++ .ref a :: rest)) rfl (hsz.trans C.ml.symm) (Steps.refl _) (a := a) (by rw [eT]; exact q1) q2 (argsL := argsL) (rest := rest) hlen rfl (by show 2 * 0 + _ ≤ _; omega) (C.cd hd) (fun _ _ => ⟨rfl, eT, hc, hn⟩)
  dsimp only [Pt.U, Pt.locs, Pt.cells, Pt.slots] at X' l1 y1 z1 stp hQ
  subst l1 y1 z1
  exact Go.back (fun t kt => stp.trans kt) (hr T' T'.heap v hQ ⟨_, X', N.app N', zs, rfl⟩)
theorem go_initO (C : Cx p s m meth c Z a0 own bytes maxL ret nm) (X : St Z p l e R s m args below meth c n0 T h k n) {a : Addr} (w1 : (Jvm.Cond.methodLink own idx Lib.objectInit).before a0 Z = true) (w2 : (Jvm.Cond.instanceMethod Lib.objectInit).before a0 Z = true) (w3 : (Jvm.Cond.code Lib.objectInit ⟨#[0xb1]⟩ 1 none).before a0 Z = true)
    (hf : 1 ≤ R.frames) (hl : (st.map fun v => v.category).sum + 12 ≤ R.locals) (hsz : Ls.size = maxL) (hp : pc + 3 = pc') (hd : decode bytes pc = .ok (.invokespecial idx, 3))
    (hr : ∀ T', St Z p l e R s m args below meth c n0 T' h k n → Go p e below Q (T'.setTop (mkF m pc' Ls st))) : Go p e below Q (T.setTop (mkF m pc Ls (.ref a :: st))) := by
  subst hp
  obtain ⟨locs, Y, N, zs, eT⟩ := X
  obtain ⟨T', X', e', stp⟩ := initO Y C.1 C.hZ C.ow w1 w2 w3 eT (g := mkF m pc Ls (.ref a :: st)) rfl (hsz.trans C.ml.symm) rfl (C.cd hd) hf (W := (st.map fun v => v.category).sum) (by show 2 * 0 + _ ≤ _; omega) hl
  exact Go.back stp (hr T' ⟨_, X', N, zs, e'⟩)
/-! fields, new objects, arrays -/
theorem go_getF (C : Cx p s m meth c Z a0 own bytes maxL ret nm) (X : St Z p l e R s m args below meth c n0 T h k n) {R0 O fn d : String} {a : Addr} {v : Value} (w : (Jvm.Cond.fieldLink own idx R0 fn d).before a0 Z = true) (via : Via Z R0 O fn d) (F : Fld Z h a O fn d v) (hp : pc + 3 = pc') (hd : decode bytes pc = .ok (.getfield idx, 3))
    (hr : ∀ T', St Z p l e R s m args below meth c n0 T' h k n → Go p e below Q (T'.setTop (mkF m pc' Ls (v :: st)))) : Go p e below Q (T.setTop (mkF m pc Ls (.ref a :: st))) := by
  subst hp
  obtain ⟨locs, Y, N, zs, eT⟩ := X
  obtain ⟨T', X', e', stp⟩ := getF Y C.1 C.hZ C.ow (host := "") (Or.inl w) via eT F (g := mkF m pc Ls (.ref a :: st)) rfl rfl (C.cd hd)
  exact Go.back stp (hr T' ⟨_, X', N, zs, e'⟩)
theorem go_getFN (C : Cx p s m meth c Z a0 own bytes maxL ret nm) (X : St Z p l e R s m args below meth c n0 T h k n) {R0 O fn d host : String} {a : Addr} {v : Value} (w : (Jvm.Cond.fieldLinkNest own idx R0 fn d host).before a0 Z = true) (via : Via Z R0 O fn d) (F : Fld Z h a O fn d v) (hp : pc + 3 = pc') (hd : decode bytes pc = .ok (.getfield idx, 3))
    (hr : ∀ T', St Z p l e R s m args below meth c n0 T' h k n → Go p e below Q (T'.setTop (mkF m pc' Ls (v :: st)))) : Go p e below Q (T.setTop (mkF m pc Ls (.ref a :: st))) := by
  subst hp
  obtain ⟨locs, Y, N, zs, eT⟩ := X
  obtain ⟨T', X', e', stp⟩ := getF Y C.1 C.hZ C.ow (host := host) (Or.inr w) via eT F (g := mkF m pc Ls (.ref a :: st)) rfl rfl (C.cd hd)
  exact Go.back stp (hr T' ⟨_, X', N, zs, e'⟩)
theorem go_getS (C : Cx p s m meth c Z a0 own bytes maxL ret nm) (X : St Z p l e R s m args below meth c n0 T h k n) {O fn d : String} {v : Value} (w : (Jvm.Cond.fieldLink own idx O fn d).before a0 Z = true) (F : Sta Z h O fn d v) (hp : pc + 3 = pc') (hd : decode bytes pc = .ok (.getstatic idx, 3))
    (hr : ∀ T', St Z p l e R s m args below meth c n0 T' h k n → Go p e below Q (T'.setTop (mkF m pc' Ls (v :: st)))) : Go p e below Q (T.setTop (mkF m pc Ls st)) := by
  subst hp
  obtain ⟨locs, Y, N, zs, eT⟩ := X
  obtain ⟨T', X', e', stp⟩ := getS2 Y C.1 C.hZ C.ow (host := "") (Or.inl w) Via.refl eT F (g := mkF m pc Ls st) rfl (C.cd hd)
  exact Go.back stp (hr T' ⟨_, X', N, zs, e'⟩)
theorem go_putF (C : Cx p s m meth c Z a0 own bytes maxL ret nm) (X : St Z p l e R s m args below meth c n0 T h k n) {R0 O fn d cn : String} {kk : Nat} {ty : FieldType} {a : Addr} {v old : Value} (w : (Jvm.Cond.fieldLink own idx R0 fn d).before a0 Z = true) (via : Via Z R0 O fn d) (F : Fld Z h a O fn d old) (E : Exa Z h a cn) (L : (Jvm.Cond.lays cn O fn d).before a0 Z = true ∨ ((Jvm.Cond.laysFinal cn O fn d).before a0 Z = true ∧ own = O ∧ meth.name = "<init>")) (wi : (Jvm.Cond.instantiable cn kk).before a0 Z = true) (ga : n0 ≤ a)
    (hty : parseFieldDescriptor d = some ty) (hn : narrow ty v = v) (hf : fits ty v = true) (hp : pc + 3 = pc') (hd : decode bytes pc = .ok (.putfield idx, 3))
    (hr : ∀ T' h', Wr h h' a (Jvm.RoadKit.slotOf Z O fn d) v → St Z p l e R s m args below meth c n0 T' h' k n → Go p e below Q (T'.setTop (mkF m pc' Ls st))) : Go p e below Q (T.setTop (mkF m pc Ls (v :: .ref a :: st))) := by
  subst hp
  obtain ⟨locs, Y, N, zs, eT⟩ := X
  obtain ⟨T', h', X', e', W, stp⟩ := putF Y C.1 C.hZ C.ow (host := "") (Or.inl w) via eT F E L wi hty hn hf (g := mkF m pc Ls (v :: .ref a :: st)) rfl rfl (C.cd hd)
  exact Go.back stp (hr T' h' W ⟨_, X', Fr.snoc X' N ga, zs, e'⟩)
theorem go_putFN (C : Cx p s m meth c Z a0 own bytes maxL ret nm) (X : St Z p l e R s m args below meth c n0 T h k n) {R0 O fn d cn : String} {kk : Nat} {ty : FieldType} {a : Addr} {v v' old : Value} (w : (Jvm.Cond.fieldLink own idx R0 fn d).before a0 Z = true) (via : Via Z R0 O fn d) (F : Fld Z h a O fn d old) (E : Exa Z h a cn) (L : (Jvm.Cond.lays cn O fn d).before a0 Z = true ∨ ((Jvm.Cond.laysFinal cn O fn d).before a0 Z = true ∧ own = O ∧ meth.name = "<init>")) (wi : (Jvm.Cond.instantiable cn kk).before a0 Z = true) (ga : n0 ≤ a)
    (hty : parseFieldDescriptor d = some ty) (hn : narrow ty v = v') (hf : fits ty v' = true) (hp : pc + 3 = pc') (hd : decode bytes pc = .ok (.putfield idx, 3))
    (hr : ∀ T' h', Wr h h' a (Jvm.RoadKit.slotOf Z O fn d) v' → St Z p l e R s m args below meth c n0 T' h' k n → Go p e below Q (T'.setTop (mkF m pc' Ls st))) : Go p e below Q (T.setTop (mkF m pc Ls (v :: .ref a :: st))) := by
  subst hp
  obtain ⟨locs, Y, N, zs, eT⟩ := X
  obtain ⟨T', h', X', e', W, stp⟩ := putFN Y C.1 C.hZ C.ow w via eT F E L wi hty hn hf (g := mkF m pc Ls (v :: .ref a :: st)) rfl rfl (C.cd hd)
  exact Go.back stp (hr T' h' W ⟨_, X', Fr.snoc X' N ga, zs, e'⟩)
theorem go_new (C : Cx p s m meth c Z a0 own bytes maxL ret nm) (X : St Z p l e R s m args below meth c n0 T h k n) {cn : String} {kk : Nat} (w : (Jvm.Cond.classLink own idx cn).before a0 Z = true) (wi : (Jvm.Cond.instantiable cn kk).before a0 Z = true) (wz : (Jvm.Cond.initialized cn).before a0 Z = true) (hc : k + 1 ≤ R.cells) (hl : n + kk ≤ R.slots) (hp : pc + 3 = pc') (hd : decode bytes pc = .ok (.new idx, 3))
    (hr : ∀ T' h' a, a = h.size → n0 ≤ a → Ext h h' → Exa Z h' a cn → (∀ {O fn d : String} {ty : FieldType}, Laid Z a0 cn O fn d → parseFieldDescriptor d = some ty → Fld Z h' a O fn d (defaultValue ty)) → St Z p l e R s m args below meth c n0 T' h' (k + 1) (n + kk) → Go p e below Q (T'.setTop (mkF m pc' Ls (.ref a :: st)))) : Go p e below Q (T.setTop (mkF m pc Ls st)) := by
  subst hp
  have hsz := X.sz
  obtain ⟨locs, Y, N, zs, eT⟩ := X
  obtain ⟨T', h', X', e', E, A, D, -, stp⟩ := newO Y C.1 C.hZ C.ow w wi wz eT (g := mkF m pc Ls st) rfl (C.cd hd) hc hl
  exact Go.back stp (hr T' h' _ rfl hsz E A D ⟨_, X', N, zs, e'⟩)
/-- an array whose components are vs -/
def La (Z : State) (h : Heap) (a : Addr) (ty : FieldType) (vs : List Value) : Prop := ∃ c : Cell, Arr Z h a c ty ∧ c.slots = vs.toArray ∧ vs.length < 2 ^ 31 ∧ ∀ v ∈ vs, fits ty v = true
theorem La.lt {a : Addr} {ty : FieldType} {vs : List Value} (F : La Z h a ty vs) : a < h.size := by obtain ⟨c, A, -⟩ := F; exact A.lt
theorem La.len {a : Addr} {ty : FieldType} {vs : List Value} (F : La Z h a ty vs) : vs.length < 2 ^ 31 := by obtain ⟨c, A, -, q, -⟩ := F; exact q
theorem La.ext {h' : Heap} {a : Addr} {ty : FieldType} {vs : List Value} (F : La Z h a ty vs) (E : Ext h h') : La Z h' a ty vs := by obtain ⟨c, A, r⟩ := F; exact ⟨c, A.ext E, r⟩
theorem La.other {h' : Heap} {a b : Addr} {sl : Nat} {v : Value} {ty : FieldType} {vs : List Value} (F : La Z h b ty vs) (W : Wr h h' a sl v) (q : b ≠ a) : La Z h' b ty vs := by obtain ⟨c, A, r⟩ := F; exact ⟨c, A.other W q, r⟩
theorem La.keep {h' : Heap} {a : Addr} {ws : List Addr} {ty : FieldType} {vs : List Value} (F : La Z h a ty vs) (K : Keep h h' ws) (q : a ∉ ws) : La Z h' a ty vs := by obtain ⟨c, A, r⟩ := F; exact ⟨c, ⟨K.2.1 a c A.1 q, A.2⟩, r⟩
theorem La.set {h' : Heap} {a : Addr} {j : Nat} {v : Value} {ty : FieldType} {vs : List Value} (F : La Z h a ty vs) (W : Wr h h' a j v) (hv : fits ty v = true) : La Z h' a ty (vs.set j v) := by
  obtain ⟨c, A, e1, e2, e3⟩ := F
  refine ⟨_, A.same W, ?_, by simpa using e2, fun w hw => ?_⟩
  · simp [Cell.setSlot, e1]
  · rcases List.mem_or_eq_of_mem_set hw with q | q
    · exact e3 w q
    · subst q; exact hv
theorem clamp_eq {j : Int32} (q : 0 ≤ j.toInt) : (j.toNatClampNeg : Int) = j.toInt := by show ((j.toInt.toNat : Nat) : Int) = _; omega
theorem neg_not {j : Int32} (q : 0 ≤ j.toInt) : ¬ j < 0 := by rw [Int32.lt_iff_toInt_lt]; have : (0 : Int32).toInt = 0 := rfl; omega
theorem La.inb {c : Cell} {vs : List Value} {j : Int32} {v : Value} (e : c.slots = vs.toArray) (q : 0 ≤ j.toInt) (hv : vs[j.toNatClampNeg]? = some v) : ¬ (j < 0 ∨ c.slots.size ≤ j.toNatClampNeg) ∧ c.slots[j.toNatClampNeg]? = some v := by
  obtain ⟨hl, -⟩ := List.getElem?_eq_some_iff.mp hv
  refine ⟨fun r => r.elim (neg_not q) fun r => ?_, by rw [e]; simpa using hv⟩
  rw [e] at r; simp at r; omega
theorem go_alen (C : Cx p s m meth c Z a0 own bytes maxL ret nm) (X : St Z p l e R s m args below meth c n0 T h k n) {a : Addr} {ty : FieldType} {vs : List Value} {z : Int32} (A : La Z h a ty vs) (hz : vs.length.toInt32 = z) (hp : pc + 1 = pc') (hd : decode bytes pc = .ok (.arraylength, 1)) (hr : Go p e below Q (T.setTop (mkF m pc' Ls (.int z :: st)))) : Go p e below Q (T.setTop (mkF m pc Ls (.ref a :: st))) := by
  subst hp
  obtain ⟨locs, Y, N, zs, eT⟩ := X
  obtain ⟨cl, B, e1, e2, e3⟩ := A
  have ez : cl.slots.size.toInt32 = z := by rw [e1]; simpa using hz
  subst ez
  exact Go.back (fun t kt => Y.arraylength C.1 (by rw [eT]; exact B.1) (State.isArrayOf_alike C.hZ.alike B.2.1) (g := mkF m pc Ls (.ref a :: st)) rfl rfl (C.cd hd) t kt) hr

theorem go_iaload (C : Cx p s m meth c Z a0 own bytes maxL ret nm) (X : St Z p l e R s m args below meth c n0 T h k n) {a : Addr} {vs : List Value} {j : Int32} {v : Value} (A : La Z h a .int vs) (q : 0 ≤ j.toInt) (hv : vs[j.toNatClampNeg]? = some v) (hp : pc + 1 = pc') (hd : decode bytes pc = .ok (.iaload, 1)) (hr : Go p e below Q (T.setTop (mkF m pc' Ls (v :: st)))) : Go p e below Q (T.setTop (mkF m pc Ls (.int j :: .ref a :: st))) := by
  subst hp
  obtain ⟨locs, Y, N, zs, eT⟩ := X
  obtain ⟨cl, B, e1, e2, e3⟩ := A
  obtain ⟨i1, i2⟩ := La.inb e1 q hv
  exact Go.back (fun t kt => Y.iaload C.1 (by rw [eT]; exact B.1) (State.isArrayOf_alike C.hZ.alike B.2.1) B.2.2 i1 i2 (g := mkF m pc Ls (.int j :: .ref a :: st)) rfl rfl (C.cd hd) t kt) hr
theorem go_laload (C : Cx p s m meth c Z a0 own bytes maxL ret nm) (X : St Z p l e R s m args below meth c n0 T h k n) {a : Addr} {vs : List Value} {j : Int32} {v : Value} (A : La Z h a .long vs) (q : 0 ≤ j.toInt) (hv : vs[j.toNatClampNeg]? = some v) (hp : pc + 1 = pc') (hd : decode bytes pc = .ok (.laload, 1)) (hr : Go p e below Q (T.setTop (mkF m pc' Ls (v :: st)))) : Go p e below Q (T.setTop (mkF m pc Ls (.int j :: .ref a :: st))) := by
  subst hp
  obtain ⟨locs, Y, N, zs, eT⟩ := X
  obtain ⟨cl, B, e1, e2, e3⟩ := A
  obtain ⟨i1, i2⟩ := La.inb e1 q hv
  exact Go.back (fun t kt => Y.laload C.1 (by rw [eT]; exact B.1) (State.isArrayOf_alike C.hZ.alike B.2.1) B.2.2 i1 i2 (g := mkF m pc Ls (.int j :: .ref a :: st)) rfl rfl (C.cd hd) t kt) hr
theorem go_caload (C : Cx p s m meth c Z a0 own bytes maxL ret nm) (X : St Z p l e R s m args below meth c n0 T h k n) {a : Addr} {vs : List Value} {j : Int32} {v : Value} (A : La Z h a .char vs) (q : 0 ≤ j.toInt) (hv : vs[j.toNatClampNeg]? = some v) (hp : pc + 1 = pc') (hd : decode bytes pc = .ok (.caload, 1)) (hr : Go p e below Q (T.setTop (mkF m pc' Ls (v :: st)))) : Go p e below Q (T.setTop (mkF m pc Ls (.int j :: .ref a :: st))) := by
  subst hp
  obtain ⟨locs, Y, N, zs, eT⟩ := X
  obtain ⟨cl, B, e1, e2, e3⟩ := A
  obtain ⟨i1, i2⟩ := La.inb e1 q hv
  exact Go.back (fun t kt => Y.caload C.1 (by rw [eT]; exact B.1) (State.isArrayOf_alike C.hZ.alike B.2.1) B.2.2 i1 i2 (g := mkF m pc Ls (.int j :: .ref a :: st)) rfl rfl (C.cd hd) t kt) hr
theorem go_saload (C : Cx p s m meth c Z a0 own bytes maxL ret nm) (X : St Z p l e R s m args below meth c n0 T h k n) {a : Addr} {vs : List Value} {j : Int32} {v : Value} (A : La Z h a .short vs) (q : 0 ≤ j.toInt) (hv : vs[j.toNatClampNeg]? = some v) (hp : pc + 1 = pc') (hd : decode bytes pc = .ok (.saload, 1)) (hr : Go p e below Q (T.setTop (mkF m pc' Ls (v :: st)))) : Go p e below Q (T.setTop (mkF m pc Ls (.int j :: .ref a :: st))) := by
  subst hp
  obtain ⟨locs, Y, N, zs, eT⟩ := X
  obtain ⟨cl, B, e1, e2, e3⟩ := A
  obtain ⟨i1, i2⟩ := La.inb e1 q hv
  exact Go.back (fun t kt => Y.saload C.1 (by rw [eT]; exact B.1) (State.isArrayOf_alike C.hZ.alike B.2.1) B.2.2 i1 i2 (g := mkF m pc Ls (.int j :: .ref a :: st)) rfl rfl (C.cd hd) t kt) hr
theorem go_daload (C : Cx p s m meth c Z a0 own bytes maxL ret nm) (X : St Z p l e R s m args below meth c n0 T h k n) {a : Addr} {vs : List Value} {j : Int32} {v : Value} (A : La Z h a .double vs) (q : 0 ≤ j.toInt) (hv : vs[j.toNatClampNeg]? = some v) (hp : pc + 1 = pc') (hd : decode bytes pc = .ok (.daload, 1)) (hr : Go p e below Q (T.setTop (mkF m pc' Ls (v :: st)))) : Go p e below Q (T.setTop (mkF m pc Ls (.int j :: .ref a :: st))) := by
  subst hp
  obtain ⟨locs, Y, N, zs, eT⟩ := X
  obtain ⟨cl, B, e1, e2, e3⟩ := A
  obtain ⟨i1, i2⟩ := La.inb e1 q hv
  exact Go.back (fun t kt => Y.daload C.1 (by rw [eT]; exact B.1) (State.isArrayOf_alike C.hZ.alike B.2.1) B.2.2 i1 i2 (g := mkF m pc Ls (.int j :: .ref a :: st)) rfl rfl (C.cd hd) t kt) hr
theorem go_baloadBytes (C : Cx p s m meth c Z a0 own bytes maxL ret nm) (X : St Z p l e R s m args below meth c n0 T h k n) {a : Addr} {vs : List Value} {j : Int32} {v : Value} (A : La Z h a .byte vs) (q : 0 ≤ j.toInt) (hv : vs[j.toNatClampNeg]? = some v) (hp : pc + 1 = pc') (hd : decode bytes pc = .ok (.baload, 1)) (hr : Go p e below Q (T.setTop (mkF m pc' Ls (v :: st)))) : Go p e below Q (T.setTop (mkF m pc Ls (.int j :: .ref a :: st))) := by
  subst hp
  obtain ⟨locs, Y, N, zs, eT⟩ := X
  obtain ⟨cl, B, e1, e2, e3⟩ := A
  obtain ⟨i1, i2⟩ := La.inb e1 q hv
  exact Go.back (fun t kt => Y.baloadBytes C.1 (by rw [eT]; exact B.1) (State.isArrayOf_alike C.hZ.alike B.2.1) B.2.2 i1 i2 (g := mkF m pc Ls (.int j :: .ref a :: st)) rfl rfl (C.cd hd) t kt) hr
theorem go_baloadBooleans (C : Cx p s m meth c Z a0 own bytes maxL ret nm) (X : St Z p l e R s m args below meth c n0 T h k n) {a : Addr} {vs : List Value} {j : Int32} {v : Value} (A : La Z h a .boolean vs) (q : 0 ≤ j.toInt) (hv : vs[j.toNatClampNeg]? = some v) (hp : pc + 1 = pc') (hd : decode bytes pc = .ok (.baload, 1)) (hr : Go p e below Q (T.setTop (mkF m pc' Ls (v :: st)))) : Go p e below Q (T.setTop (mkF m pc Ls (.int j :: .ref a :: st))) := by
  subst hp
  obtain ⟨locs, Y, N, zs, eT⟩ := X
  obtain ⟨cl, B, e1, e2, e3⟩ := A
  obtain ⟨i1, i2⟩ := La.inb e1 q hv
  exact Go.back (fun t kt => Y.baloadBooleans C.1 (by rw [eT]; exact B.1) (State.isArrayOf_alike C.hZ.alike B.2.1) B.2.2 i1 i2 (g := mkF m pc Ls (.int j :: .ref a :: st)) rfl rfl (C.cd hd) t kt) hr
theorem go_aaload (C : Cx p s m meth c Z a0 own bytes maxL ret nm) (X : St Z p l e R s m args below meth c n0 T h k n) {a : Addr} {vs : List Value} {ty : FieldType} {j : Int32} {v : Value} (A : La Z h a ty vs) (ht : ty.isReference = true) (q : 0 ≤ j.toInt) (hv : vs[j.toNatClampNeg]? = some v) (hp : pc + 1 = pc') (hd : decode bytes pc = .ok (.aaload, 1)) (hr : Go p e below Q (T.setTop (mkF m pc' Ls (v :: st)))) : Go p e below Q (T.setTop (mkF m pc Ls (.int j :: .ref a :: st))) := by
  subst hp
  obtain ⟨locs, Y, N, zs, eT⟩ := X
  obtain ⟨cl, B, e1, e2, e3⟩ := A
  obtain ⟨i1, i2⟩ := La.inb e1 q hv
  exact Go.back (fun t kt => Y.aaload C.1 (by rw [eT]; exact B.1) (State.isArrayOf_alike C.hZ.alike B.2.1) ht B.2.2 i1 i2 (g := mkF m pc Ls (.int j :: .ref a :: st)) rfl rfl (C.cd hd) t kt) hr
theorem go_iastore (C : Cx p s m meth c Z a0 own bytes maxL ret nm) (X : St Z p l e R s m args below meth c n0 T h k n) {a : Addr} {vs : List Value} {j : Int32} {x : Int32} (A : La Z h a .int vs) (q : 0 ≤ j.toInt) (hj : j.toInt < vs.length) (ga : n0 ≤ a) (hp : pc + 1 = pc') (hd : decode bytes pc = .ok (.iastore, 1))
    (hr : ∀ T' h', Wr h h' a j.toNatClampNeg (.int x) → La Z h' a .int (vs.set j.toNatClampNeg (.int x)) → St Z p l e R s m args below meth c n0 T' h' k n → Go p e below Q (T'.setTop (mkF m pc' Ls st))) : Go p e below Q (T.setTop (mkF m pc Ls (.int x :: .int j :: .ref a :: st))) := by
  subst hp
  obtain ⟨locs, Y, N, zs, eT⟩ := X
  have A' := A
  obtain ⟨cl, B, e1, e2, e3⟩ := A
  have i1 : ¬ (j < 0 ∨ cl.slots.size ≤ j.toNatClampNeg) := fun r => r.elim (neg_not q) fun r => by
    rw [e1] at r; simp at r; have := clamp_eq q; omega
  obtain ⟨T', h', X', e', W, stp⟩ := stI Y C.1 C.hZ eT B i1 (g := mkF m pc Ls (.int x :: .int j :: .ref a :: st)) rfl rfl (C.cd hd)
  exact Go.back stp (hr T' h' W (A'.set W rfl) ⟨_, X', Fr.snoc X' N ga, zs, e'⟩)
theorem go_lastore (C : Cx p s m meth c Z a0 own bytes maxL ret nm) (X : St Z p l e R s m args below meth c n0 T h k n) {a : Addr} {vs : List Value} {j : Int32} {x : Int64} (A : La Z h a .long vs) (q : 0 ≤ j.toInt) (hj : j.toInt < vs.length) (ga : n0 ≤ a) (hp : pc + 1 = pc') (hd : decode bytes pc = .ok (.lastore, 1))
    (hr : ∀ T' h', Wr h h' a j.toNatClampNeg (.long x) → La Z h' a .long (vs.set j.toNatClampNeg (.long x)) → St Z p l e R s m args below meth c n0 T' h' k n → Go p e below Q (T'.setTop (mkF m pc' Ls st))) : Go p e below Q (T.setTop (mkF m pc Ls (.long x :: .int j :: .ref a :: st))) := by
  subst hp
  obtain ⟨locs, Y, N, zs, eT⟩ := X
  have A' := A
  obtain ⟨cl, B, e1, e2, e3⟩ := A
  have i1 : ¬ (j < 0 ∨ cl.slots.size ≤ j.toNatClampNeg) := fun r => r.elim (neg_not q) fun r => by
    rw [e1] at r; simp at r; have := clamp_eq q; omega
  obtain ⟨T', h', X', e', W, stp⟩ := stJ Y C.1 C.hZ eT B i1 (g := mkF m pc Ls (.long x :: .int j :: .ref a :: st)) rfl rfl (C.cd hd)
  exact Go.back stp (hr T' h' W (A'.set W rfl) ⟨_, X', Fr.snoc X' N ga, zs, e'⟩)
theorem go_dastore (C : Cx p s m meth c Z a0 own bytes maxL ret nm) (X : St Z p l e R s m args below meth c n0 T h k n) {a : Addr} {vs : List Value} {j : Int32} {x : UInt64} (A : La Z h a .double vs) (q : 0 ≤ j.toInt) (hj : j.toInt < vs.length) (ga : n0 ≤ a) (hp : pc + 1 = pc') (hd : decode bytes pc = .ok (.dastore, 1))
    (hr : ∀ T' h', Wr h h' a j.toNatClampNeg (.double x) → La Z h' a .double (vs.set j.toNatClampNeg (.double x)) → St Z p l e R s m args below meth c n0 T' h' k n → Go p e below Q (T'.setTop (mkF m pc' Ls st))) : Go p e below Q (T.setTop (mkF m pc Ls (.double x :: .int j :: .ref a :: st))) := by
  subst hp
  obtain ⟨locs, Y, N, zs, eT⟩ := X
  have A' := A
  obtain ⟨cl, B, e1, e2, e3⟩ := A
  have i1 : ¬ (j < 0 ∨ cl.slots.size ≤ j.toNatClampNeg) := fun r => r.elim (neg_not q) fun r => by
    rw [e1] at r; simp at r; have := clamp_eq q; omega
  obtain ⟨T', h', X', e', W, stp⟩ := stD Y C.1 C.hZ eT B i1 (g := mkF m pc Ls (.double x :: .int j :: .ref a :: st)) rfl rfl (C.cd hd)
  exact Go.back stp (hr T' h' W (A'.set W rfl) ⟨_, X', Fr.snoc X' N ga, zs, e'⟩)
theorem go_newarr (C : Cx p s m meth c Z a0 own bytes maxL ret nm) (X : St Z p l e R s m args below meth c n0 T h k n) {aty : ArrayType} (w : (Jvm.Cond.arrayClass (newarray.typeOf aty)).before a0 Z = true) {z : Int32} {cap : Nat} (hz : 0 ≤ z.toInt) (hcap : z.toInt ≤ cap) (hb8 : cap * 8 ≤ 536870912) (hc : k + 1 ≤ R.cells) (hl : n + cap ≤ R.slots) (hp : pc + 2 = pc') (hd : decode bytes pc = .ok (.newarray aty, 2))
    (hr : ∀ T' h' a, a = h.size → n0 ≤ a → Ext h h' → La Z h' a (newarray.typeOf aty) (List.replicate z.toNatClampNeg (defaultValue (newarray.typeOf aty))) → St Z p l e R s m args below meth c n0 T' h' (k + 1) (n + cap) → Go p e below Q (T'.setTop (mkF m pc' Ls (.ref a :: st)))) : Go p e below Q (T.setTop (mkF m pc Ls (.int z :: st))) := by
  subst hp
  have hsz := X.sz
  obtain ⟨locs, Y, N, zs, eT⟩ := X
  have hzc := clamp_eq hz
  obtain ⟨T', h', cA, X', e', E, A, stp⟩ := newP Y C.1 C.hZ w eT (g := mkF m pc Ls (.int z :: st)) rfl (C.cd hd) rfl (neg_not hz) (cap := cap) (by omega) hb8 hc hl
  refine Go.back stp (hr T' h' _ rfl hsz E ⟨_, A, by simp [newA], ?_, fun v hv => ?_⟩ ⟨_, X', N, zs, e'⟩)
  · have := z.toInt_lt; simp; omega
  · obtain ⟨-, rfl⟩ := List.mem_replicate.mp hv; cases aty <;> rfl
theorem go_newarrE (C : Cx p s m meth c Z a0 own bytes maxL ret nm) (X : St Z p l e R s m args below meth c n0 T h k n) {aty : ArrayType} (w : (Jvm.Cond.arrayClass (newarray.typeOf aty)).before a0 Z = true) {z : Int32} {cap : Nat} {ad : String} (had : "[" ++ (newarray.typeOf aty).toString = ad) (hz : 0 ≤ z.toInt) (hcap : z.toInt ≤ cap) (hb8 : cap * 8 ≤ 536870912) (hc : k + 1 ≤ R.cells) (hl : n + cap ≤ R.slots) (hp : pc + 2 = pc') (hd : decode bytes pc = .ok (.newarray aty, 2))
    (hr : ∀ T' h' a, a = h.size → n0 ≤ a → Ext h h' → La Z h' a (newarray.typeOf aty) (List.replicate z.toNatClampNeg (defaultValue (newarray.typeOf aty))) → Exa Z h' a ad → St Z p l e R s m args below meth c n0 T' h' (k + 1) (n + cap) → Go p e below Q (T'.setTop (mkF m pc' Ls (.ref a :: st)))) : Go p e below Q (T.setTop (mkF m pc Ls (.int z :: st))) := by
  subst hp
  have hsz := X.sz
  obtain ⟨locs, Y, N, zs, eT⟩ := X
  have hzc := clamp_eq hz
  obtain ⟨T', h', cA, X', e', E, A, EX, stp⟩ := newPE Y C.1 C.hZ w eT (g := mkF m pc Ls (.int z :: st)) rfl (C.cd hd) rfl (neg_not hz) (cap := cap) (by omega) hb8 hc hl had
  refine Go.back stp (hr T' h' _ rfl hsz E ⟨_, A, by simp [newA], ?_, fun v hv => ?_⟩ EX ⟨_, X', N, zs, e'⟩)
  · have := z.toInt_lt; simp; omega
  · obtain ⟨-, rfl⟩ := List.mem_replicate.mp hv; cases aty <;> rfl
theorem go_ifnull_n (C : Cx p s m meth c Z a0 own bytes maxL ret nm) (X : St Z p l e R s m args below meth c n0 T h k n) {o : Int} (hd : decode bytes pc = .ok (.ifnull o, 3)) (ho : 0 ≤ (pc : Int) + o) (hp2 : ((pc : Int) + o).toNat = pc2) (hr : Go p e below Q (T.setTop (mkF m pc2 Ls st))) : Go p e below Q (T.setTop (mkF m pc Ls (.null :: st))) := by
  obtain ⟨locs, Y, -, -, -⟩ := X
  exact Go.back (fun t kt => Jvm.Free.XS.ifnullYes Y.here C.1 rfl (pc0 := pc) rfl (C.cd hd) rfl ho hp2 kt) hr
theorem go_ifnull_r (C : Cx p s m meth c Z a0 own bytes maxL ret nm) (X : St Z p l e R s m args below meth c n0 T h k n) {o : Int} {b : Addr} (hp : pc + 3 = pc') (hd : decode bytes pc = .ok (.ifnull o, 3)) (hr : Go p e below Q (T.setTop (mkF m pc' Ls st))) : Go p e below Q (T.setTop (mkF m pc Ls (.ref b :: st))) := by
  subst hp
  obtain ⟨locs, Y, -, -, -⟩ := X
  exact Go.back (fun t kt => Jvm.Free.XS.ifnullNo Y.here C.1 rfl (C.cd hd) rfl kt) hr
theorem go_ifnonnull_r (C : Cx p s m meth c Z a0 own bytes maxL ret nm) (X : St Z p l e R s m args below meth c n0 T h k n) {o : Int} {b : Addr} (hd : decode bytes pc = .ok (.ifnonnull o, 3)) (ho : 0 ≤ (pc : Int) + o) (hp2 : ((pc : Int) + o).toNat = pc2) (hr : Go p e below Q (T.setTop (mkF m pc2 Ls st))) : Go p e below Q (T.setTop (mkF m pc Ls (.ref b :: st))) := by
  obtain ⟨locs, Y, -, -, -⟩ := X
  exact Go.back (fun t kt => Jvm.Free.XS.ifnonnullYes Y.here C.1 rfl (pc0 := pc) rfl (C.cd hd) rfl ho hp2 kt) hr
theorem go_ifnonnull_n (C : Cx p s m meth c Z a0 own bytes maxL ret nm) (X : St Z p l e R s m args below meth c n0 T h k n) {o : Int} (hp : pc + 3 = pc') (hd : decode bytes pc = .ok (.ifnonnull o, 3)) (hr : Go p e below Q (T.setTop (mkF m pc' Ls st))) : Go p e below Q (T.setTop (mkF m pc Ls (.null :: st))) := by
  subst hp
  obtain ⟨locs, Y, -, -, -⟩ := X
  exact Go.back (fun t kt => Jvm.Free.XS.ifnonnullNo Y.here C.1 rfl (C.cd hd) rfl kt) hr
theorem go_acmp_eq (C : Cx p s m meth c Z a0 own bytes maxL ret nm) (X : St Z p l e R s m args below meth c n0 T h k n) {o : Int} {x y : Value} (hx : x.isRef = true) (hy : y.isRef = true) (hd : decode bytes pc = .ok (.if_acmp .eq o, 3)) (hp : pc + 3 = pc') (ho : 0 ≤ (pc : Int) + o) (hp2 : ((pc : Int) + o).toNat = pc2) (h1 : x = y → Go p e below Q (T.setTop (mkF m pc2 Ls st))) (h2 : ¬ x = y → Go p e below Q (T.setTop (mkF m pc' Ls st))) : Go p e below Q (T.setTop (mkF m pc Ls (y :: x :: st))) := by
  obtain ⟨locs, Y, -, -, -⟩ := X
  by_cases q : x = y
  · exact Go.back (fun t kt => acmp (g := mkF m pc Ls (y :: x :: st)) Y C.1 rfl hx hy (pc0 := pc) (pc' := pc2) (same := true) rfl (C.cd hd) rfl (decide_eq_true q) ho (by simp [acV, hp2]) kt) (h1 q)
  · exact Go.back (fun t kt => acmp (g := mkF m pc Ls (y :: x :: st)) Y C.1 rfl hx hy (pc0 := pc) (pc' := pc') (same := false) rfl (C.cd hd) rfl (decide_eq_false q) ho (by simp [acV, hp]) kt) (h2 q)
theorem go_acmp_ne (C : Cx p s m meth c Z a0 own bytes maxL ret nm) (X : St Z p l e R s m args below meth c n0 T h k n) {o : Int} {x y : Value} (hx : x.isRef = true) (hy : y.isRef = true) (hd : decode bytes pc = .ok (.if_acmp .ne o, 3)) (hp : pc + 3 = pc') (ho : 0 ≤ (pc : Int) + o) (hp2 : ((pc : Int) + o).toNat = pc2) (h1 : ¬ x = y → Go p e below Q (T.setTop (mkF m pc2 Ls st))) (h2 : x = y → Go p e below Q (T.setTop (mkF m pc' Ls st))) : Go p e below Q (T.setTop (mkF m pc Ls (y :: x :: st))) := by
  obtain ⟨locs, Y, -, -, -⟩ := X
  by_cases q : x = y
  · exact Go.back (fun t kt => acmp (g := mkF m pc Ls (y :: x :: st)) Y C.1 rfl hx hy (pc0 := pc) (pc' := pc') (same := true) rfl (C.cd hd) rfl (decide_eq_true q) ho (by simp [acV, hp]) kt) (h2 q)
  · exact Go.back (fun t kt => acmp (g := mkF m pc Ls (y :: x :: st)) Y C.1 rfl hx hy (pc0 := pc) (pc' := pc2) (same := false) rfl (C.cd hd) rfl (decide_eq_false q) ho (by simp [acV, hp2]) kt) (h1 q)
theorem go_cast (C : Cx p s m meth c Z a0 own bytes maxL ret nm) (X : St Z p l e R s m args below meth c n0 T h k n) {cn : String} {a : Addr} (w : (Jvm.Cond.classLink own idx cn).before a0 Z = true) (F : Ins Z h a cn true) (hp : pc + 3 = pc') (hd : decode bytes pc = .ok (.checkcast idx, 3)) (hr : ∀ T', St Z p l e R s m args below meth c n0 T' h k n → Go p e below Q (T'.setTop (mkF m pc' Ls (.ref a :: st)))) : Go p e below Q (T.setTop (mkF m pc Ls (.ref a :: st))) := by
  subst hp
  obtain ⟨locs, Y, N, zs, eT⟩ := X
  obtain ⟨T', X', e', stp⟩ := castY Y C.1 C.hZ C.ow w eT F (g := mkF m pc Ls (.ref a :: st)) rfl rfl (C.cd hd)
  exact Go.back stp (hr T' ⟨_, X', N, zs, e'⟩)
theorem go_clone (C : Cx p s m meth c Z a0 own bytes maxL ret nm) (X : St Z p l e R s m args below meth c n0 T h k n) {ad : String} {a : Addr} {ty : FieldType} {vs : List Value} {cap : Nat} (w1 : (Jvm.Cond.methodLink own idx ⟨ad, "clone", "()Ljava/lang/Object;"⟩).before a0 Z = true) (w2 : (Jvm.Cond.sameMethod ad "java/lang/Object" "clone" "()Ljava/lang/Object;").before a0 Z = true) (w3 : (Jvm.Cond.native ⟨"java/lang/Object", "clone", "()Ljava/lang/Object;"⟩).before a0 Z = true)
    (w4 : (Jvm.Cond.instanceMethod ⟨"java/lang/Object", "clone", "()Ljava/lang/Object;"⟩).before a0 Z = true) (w5 : (Jvm.Cond.selects ad ⟨ad, "clone", "()Ljava/lang/Object;"⟩ ⟨"java/lang/Object", "clone", "()Ljava/lang/Object;"⟩).before a0 Z = true) (w6 : (Jvm.Cond.castable ad "java/lang/Cloneable").before a0 Z = true)
    (A : La Z h a ty vs) (E : Exa Z h a ad) (hf : 1 ≤ R.frames) (hl : (st.map fun v => v.category).sum + 14 ≤ R.locals) (hcap : vs.length ≤ cap) (hc : k + 1 ≤ R.cells) (hsl : n + cap ≤ R.slots) (hsz : Ls.size = maxL) (hp : pc + 3 = pc') (hd : decode bytes pc = .ok (.invokevirtual idx, 3))
    (hr : ∀ T' h' b, b = h.size → n0 ≤ b → Ext h h' → La Z h' b ty vs → Exa Z h' b ad → St Z p l e R s m args below meth c n0 T' h' (k + 1) (n + cap) → Go p e below Q (T'.setTop (mkF m pc' Ls (.ref b :: st)))) : Go p e below Q (T.setTop (mkF m pc Ls (.ref a :: st))) := by
  subst hp
  have hs0 := X.sz
  obtain ⟨locs, Y, N, zs, eT⟩ := X
  obtain ⟨cl, B, e1, e2, e3⟩ := A
  have FC : FitC Z cl := fitC_of B fun i hi v hv => e3 v (by rw [e1] at hv; simp at hv; exact List.mem_of_getElem? hv)
  obtain ⟨T', h', X', e', ex, A', E', stp⟩ := cloneA Y C.1 C.hZ C.ow w1 w2 w3 w4 w5 w6 eT B E FC (g := mkF m pc Ls (.ref a :: st)) rfl (hsz.trans C.ml.symm) rfl (C.cd hd) hf (W := (st.map fun v => v.category).sum) (cap := cap) (by show 2 * 0 + _ ≤ _; omega) hl (by rw [e1]; simpa using hcap) hc hsl
  exact Go.back stp (hr T' h' _ rfl hs0 ex ⟨_, A', e1, e2, e3⟩ E' ⟨_, X', N, zs, e'⟩)

theorem Laid.of {cn O fn d : String} (w : (Jvm.Cond.lays cn O fn d).before a0 Z = true) : Laid Z a0 cn O fn d := Or.inl w
theorem Laid.ofF {cn O fn d : String} (w : (Jvm.Cond.laysFinal cn O fn d).before a0 Z = true) : Laid Z a0 cn O fn d := Or.inr w
end Steps1
/-! numbers -/
theorem i_add {a b : Int32} {x y : Int} (ha : a.toInt = x) (hb : b.toInt = y) (h1 : -2147483648 ≤ x + y) (h2 : x + y < 2147483648) : (a + b).toInt = x + y := by have := c_iadd a b; have := rng32 (a + b); omega
theorem i_sub {a b : Int32} {x y : Int} (ha : a.toInt = x) (hb : b.toInt = y) (h1 : -2147483648 ≤ x - y) (h2 : x - y < 2147483648) : (a - b).toInt = x - y := by have := c_isub a b; have := rng32 (a - b); omega
theorem i_mul {a b : Int32} {x y : Int} (ha : a.toInt = x) (hb : b.toInt = y) (h1 : -2147483648 ≤ x * y) (h2 : x * y < 2147483648) : (a * b).toInt = x * y := by have := c_imul a b; have := rng32 (a * b); rw [ha, hb] at *; generalize x * y = z at *; omega
theorem l_add {a b : Int64} {x y : Int} (ha : a.toInt = x) (hb : b.toInt = y) (h1 : -9223372036854775808 ≤ x + y) (h2 : x + y < 9223372036854775808) : (a + b).toInt = x + y := by have := c_ladd a b; have := rng64 (a + b); omega
theorem l_sub {a b : Int64} {x y : Int} (ha : a.toInt = x) (hb : b.toInt = y) (h1 : -9223372036854775808 ≤ x - y) (h2 : x - y < 9223372036854775808) : (a - b).toInt = x - y := by have := c_lsub a b; have := rng64 (a - b); omega
theorem l_mul {a b : Int64} {x y : Int} (ha : a.toInt = x) (hb : b.toInt = y) (h1 : -9223372036854775808 ≤ x * y) (h2 : x * y < 9223372036854775808) : (a * b).toInt = x * y := by have := c_lmul a b; have := rng64 (a * b); rw [ha, hb] at *; generalize x * y = z at *; omega
theorem i_div {a b : Int32} {x y : Int} (ha : a.toInt = x) (hb : b.toInt = y) (h1 : 0 ≤ x) (h2 : 0 < y) : (a / b).toInt = x / y := by
  have := (c_idiv a b y hb (fun q => by subst q; have : (-1 : Int32).toInt = -1 := rfl; omega)).1 (by omega); rw [this, ha]
theorem l_div {a b : Int64} {x y : Int} (ha : a.toInt = x) (hb : b.toInt = y) (h1 : 0 ≤ x) (h2 : 0 < y) : (a / b).toInt = x / y := by
  have := (c_ldiv a b y hb (fun q => by subst q; have : (-1 : Int64).toInt = -1 := rfl; omega)).1 (by omega); rw [this, ha]
theorem i_rem {a b : Int32} {x y : Int} (ha : a.toInt = x) (hb : b.toInt = y) (h1 : 0 ≤ x) : (a % b).toInt = x % y := by
  have := (c_irem a b y hb).1 (by omega); rw [this, ha]
theorem l_rem {a b : Int64} {x y : Int} (ha : a.toInt = x) (hb : b.toInt = y) (h1 : 0 ≤ x) : (a % b).toInt = x % y := by
  rw [← lrem_mod]; have := (c_lrem a b y hb).1 (by omega); rw [this, ha]
/-- arrays of ints and longs as lists -/
def ia (xs : List Int32) : List Value := xs.map Value.int
def ja (xs : List Int64) : List Value := xs.map Value.long
def at32 (xs : List Int32) (i : Int32) : Int32 := xs.getD i.toNatClampNeg 0
def at64 (xs : List Int64) (i : Int32) : Int64 := xs.getD i.toNatClampNeg 0
def put32 (xs : List Int32) (i y : Int32) : List Int32 := xs.set i.toNatClampNeg y
def put64 (xs : List Int64) (i : Int32) (y : Int64) : List Int64 := xs.set i.toNatClampNeg y
theorem clamp_lt {i : Int32} {n : Nat} (h0 : 0 ≤ i.toInt) (h1 : i.toInt < n) : i.toNatClampNeg < n := by
  have := clamp_eq h0
  omega
theorem ia_at {xs : List Int32} {i : Int32} (h0 : 0 ≤ i.toInt) (h1 : i.toInt < xs.length) : (ia xs)[i.toNatClampNeg]? = some (.int (at32 xs i)) := by
  have := clamp_lt h0 h1; simp [ia, at32, this]
theorem ja_at {xs : List Int64} {i : Int32} (h0 : 0 ≤ i.toInt) (h1 : i.toInt < xs.length) : (ja xs)[i.toNatClampNeg]? = some (.long (at64 xs i)) := by
  have := clamp_lt h0 h1; simp [ja, at64, this]
theorem ia_put (xs : List Int32) (i y : Int32) : (ia xs).set i.toNatClampNeg (.int y) = ia (put32 xs i y) := by simp [ia, put32, List.map_set]
theorem ja_put (xs : List Int64) (i : Int32) (y : Int64) : (ja xs).set i.toNatClampNeg (.long y) = ja (put64 xs i y) := by simp [ja, put64, List.map_set]
theorem ia_len (xs : List Int32) : (ia xs).length = xs.length := by simp [ia]
theorem ja_len (xs : List Int64) : (ja xs).length = xs.length := by simp [ja]
theorem put32_len (xs : List Int32) (i y : Int32) : (put32 xs i y).length = xs.length := by simp [put32]
theorem put64_len (xs : List Int64) (i : Int32) (y : Int64) : (put64 xs i y).length = xs.length := by simp [put64]
theorem La.of {Z : State} {h : Heap} {a : Addr} {ty : FieldType} {c : Cell} (A : Arr Z h a c ty) (vs : List Value) (hl : c.slots.size = vs.length) (h31 : vs.length < 2 ^ 31) (H : ∀ i, i < vs.length → c.slots[i]? = vs[i]?) (G : ∀ v ∈ vs, fits ty v = true) : La Z h a ty vs := by
  refine ⟨c, A, Array.ext_getElem? fun i => ?_, h31, G⟩
  by_cases q : i < vs.length
  · rw [H i q]; simp
  · rw [Array.getElem?_eq_none (by omega)]; simp; omega
theorem eqv_r {Z : State} {args : Array Value} {X F : Term} {idx : List Nat} {y : Addr} (hF : F.eval args Z none idx Z = some (.ref y)) (h : (Jvm.Cond.eq X F).value args Z none Z idx = some true) : X.eval args Z none idx Z = some (.ref y) := by
  simp only [Jvm.Cond.value, hF] at h
  cases hx : X.eval args Z none idx Z with
  | none => simp [hx] at h
  | some v => cases v <;> simp [hx] at h ⊢; exact h
theorem i_eq {a b : Int32} (h : a.toInt = b.toInt) : a = b := Int32.toInt_inj.mp h
theorem l_eq {a b : Int64} (h : a.toInt = b.toInt) : a = b := Int64.toInt_inj.mp h
theorem i_ne {a b : Int32} (h : ¬ a = b) : ¬ a.toInt = b.toInt := fun q => h (i_eq q)
theorem l_ne {a b : Int64} (h : ¬ a = b) : ¬ a.toInt = b.toInt := fun q => h (l_eq q)
section Steps2
variable {p : Program} {l : Launch} {e : Env} {R : Room} {s : State} {m : MethodId} {args : Array Value} {below : List Frame} {meth : Method} {c : Code} {Z : State} {a0 : Array Value} {own : String} {bytes : ByteArray} {maxL : Nat} {ret : Option FieldType} {nm : String} {n0 : Nat} {T : State} {h : Heap} {k n : Nat} {Q : Outcome → State → Prop} {pc pc' pc2 idx : Nat} {Ls Ls' : Array Slot} {st : List Value}
theorem la_arv {a : Addr} {ty : FieldType} {vs : List Value} (F : La Z h a ty vs) (d : Value) : ∃ k, Arv Z h a k ty (Int32.ofNat vs.length) vs d := by
  obtain ⟨c, A, e1, e2, e3⟩ := F
  have ec : (Int32.ofNat vs.length).toNatClampNeg = vs.length := Int32.toNatClampNeg_ofNat_of_lt e2
  refine ⟨c.cls, c, A, rfl, ?_, ?_, fun i hi => ?_, fun i hi => ?_⟩
  · rw [ec, e1]; simp
  · have q := Int32.toInt_ofNat_of_lt e2
    exact neg_not (by rw [q]; omega)
  · rw [e1] at hi ⊢; simp at hi; simp [hi]
  · rw [e1] at hi; simp at hi
    have q : vs.getD i d = vs[i] := by simp [hi]
    rw [q]; exact e3 _ (List.getElem_mem hi)
theorem arv_la {a : Addr} {kc : ClassId} {ty : FieldType} {z : Int32} {vs : List Value} {d : Value} (F : Arv Z h a kc ty z vs d) (hl : z.toNatClampNeg = vs.length) (h31 : vs.length < 2 ^ 31) : La Z h a ty vs := by
  obtain ⟨c, A, -, e2, -, H, G⟩ := F
  refine La.of A vs (e2.trans hl) h31 (fun i hi => ?_) (fun v hv => ?_)
  · rw [H i (by omega)]; simp [hi]
  · obtain ⟨i, hi, rfl⟩ := List.mem_iff_getElem.mp hv
    have q := G i (by omega)
    simpa [hi] using q
theorem go_copy0 (C : Cx p s m meth c Z a0 own bytes maxL ret nm) (X : St Z p l e R s m args below meth c n0 T h k n) {a b : Addr} {ty : FieldType} {vs vd : List Value} (w1 : (Jvm.Cond.methodLink own idx Jvm.Stand.acN).before a0 Z = true) (w2 : (Jvm.Cond.native Jvm.Stand.acN).before a0 Z = true) (w3 : (Jvm.Cond.static Jvm.Stand.acN).before a0 Z = true) (w4 : (Jvm.Cond.initialized "java/lang/System").before a0 Z = true) (A : La Z h a ty vs) (B : La Z h b ty vd) (hty : refKind ty = false) (ge : n0 ≤ b)
    (hf : 1 ≤ R.frames) (hl : (st.map fun v => v.category).sum + (nativeFrameWords "java/lang/System" "arraycopy" 5 + 11) ≤ R.locals) (hsz : Ls.size = maxL) (hp : pc + 3 = pc') (hd : decode bytes pc = .ok (.invokestatic idx, 3))
    (hr : ∀ T' h', Keep h h' [b] → La Z h' b ty vd → St Z p l e R s m args below meth c n0 T' h' k n → Go p e below Q (T'.setTop (mkF m pc' Ls st))) : Go p e below Q (T.setTop (mkF m pc Ls (.int 0 :: .int 0 :: .ref b :: .int 0 :: .ref a :: st))) := by
  subst hp
  obtain ⟨locs, Y, N, zs, eT⟩ := X
  obtain ⟨k1, A1⟩ := la_arv A .null
  obtain ⟨k2, B1⟩ := la_arv B .null
  have z0 : (0 : Int32).toNatClampNeg = 0 := by decide
  obtain ⟨T', h', L, X', e', N', K, B2, stp⟩ := cpA Y C.1 C.hZ C.ow w1 w2 w3 w4 eT A1 B1 (us := []) (sp := 0) (dp := 0) (nn := 0) (Or.inl ⟨rfl, hty⟩) (by decide) (by decide) (by decide) (by rw [z0]; omega) (by rw [z0]; omega) (by first | rfl | simp [z0]) (by rw [z0]; omega) N ge (g := mkF m pc Ls (.int 0 :: .int 0 :: .ref b :: .int 0 :: .ref a :: st)) rfl (hsz.trans C.ml.symm) rfl (C.cd hd) hf (W := (st.map fun v => v.category).sum) (by show 2 * 0 + _ ≤ _; omega) hl
  rw [z0] at B2
  have ev : vd.take 0 ++ [] ++ vd.drop (0 + 0) = vd := by simp
  rw [ev] at B2
  exact Go.back stp (hr T' h' K (arv_la B2 (Int32.toNatClampNeg_ofNat_of_lt B.len) B.len) ⟨_, X', N', zs, e'⟩)
end Steps2
section Wide
variable {p : Program} {l : Launch} {e : Env} {R : Room} {s s0 : State} {m : MethodId} {args : Array Value} {below : List Frame} {meth : Method} {c : Code} {Z : State} {a0 : Array Value} {own : String} {bytes : ByteArray} {maxL : Nat} {ret : Option FieldType} {nm : String} {n0 : Nat} {T : State} {h h' : Heap} {k n : Nat} {Q : Outcome → State → Prop} {pc pc' pc2 idx : Nat} {Ls Ls' : Array Slot} {st : List Value} {EL : List (String × Nat)} {kc kn : Nat} {Qy : Option Value → Heap → Prop} {y : MethodName} {yb : ByteArray} {yl : Nat} {yr : Option FieldType} {rm : Room} {as' : Array Value} {QY : Option Value → Heap → Prop} {argsL rest : List Value}
/-- beside St, in a walk that may intern: s is the true start s0 with the tables at hand; whatever is booked for an entry of EL says its text -/
def Wi (Z : State) (EL : List (String × Nat)) (s0 s : State) (h : Heap) : Prop := s = s0.setVm s.vm ∧ (∃ k0, s0.Since s.vm k0 ∧ k0 ≤ h.size) ∧ CHr Z EL s0.vm s0.heap s.vm h
theorem Wi.start (H : CHv Z EL s.vm h) (hh : s.heap = h) : Wi Z EL s s h := ⟨rfl, ⟨h.size, (State.WarmedH.refl s).since _, Nat.le_refl _⟩, by subst hh; exact CHr.refl H⟩
theorem Wi.on (W : Wi Z EL s0 s h) (B : CHr Z EL s.vm h s.vm h') : Wi Z EL s0 s h' := by
  obtain ⟨e1, ⟨k0, hS, hk⟩, A⟩ := W
  exact ⟨e1, ⟨k0, hS, Nat.le_trans hk B.2.1⟩, A.trans B⟩
theorem Wi.ext (W : Wi Z EL s0 s h) (E : Ext h h') : Wi Z EL s0 s h' := W.on (CHr.ext E W.2.2.1)
theorem Wi.wr (W : Wi Z EL s0 s h) {a : Addr} {sl : Nat} {v : Value} (X : Wr h h' a sl v) (S : Safe Z EL s.vm h a) : Wi Z EL s0 s h' := W.on (CHr.wr X S W.2.2.1)
theorem Wi.keep (W : Wi Z EL s0 s h) {ws : List Addr} (K : Keep h h' ws) (S : ∀ x ∈ ws, Safe Z EL s.vm h x) : Wi Z EL s0 s h' := W.on (CHr.keep K S W.2.2.1)
theorem safeE (C : Cx p s m meth c Z a0 own bytes maxL ret nm) {a : Addr} {cn : String} (E : Exa Z h a cn) (h1 : cn ≠ "java/lang/String") (h2 : cn ≠ "[B") : Safe Z EL s.vm h a := Safe.exa C.hZ.alike E h1 h2
theorem safeA (C : Cx p s m meth c Z a0 own bytes maxL ret nm) {a : Addr} {ty : FieldType} {vs : List Value} (A : La Z h a ty vs) (h1 : ty ≠ .byte) : Safe Z EL s.vm h a := by
  obtain ⟨cl, B, -⟩ := A
  exact Safe.arr C.hZ.alike B h1
theorem Cx.re (C : Cx p s m meth c Z a0 own bytes maxL ret nm) {vm1 : Vm} (W : s.Warmed39 vm1) : Cx p (s.setVm vm1) m meth c Z a0 own bytes maxL ret nm :=
  ⟨C.1, State.Warmed39.trans (t := s) C.hZ W, C.2.2.1, (W.alike.findClass _ _).trans C.ow, C.2.2.2.2⟩
/-- the end of such a walk -/
def FinW (Z : State) (EL : List (String × Nat)) (s0 : State) (k n n0 : Nat) (Q : Option Value → Heap → Prop) (o : Outcome) (t : State) : Prop := ∃ v L, o = .returned v ∧ (Fr n0 L ∧ Q v t.heap) ∧ CHr Z EL s0.vm s0.heap t.vm t.heap ∧ ReturnedEndW s0 o t L k n
def ConW (l : Launch) (Z : State) (EL : List (String × Nat)) (y : MethodName) (bytes : ByteArray) (maxL : Nat) (ret : Option FieldType) (rm : Room) (as' : Array Value) (h : Heap) (n0 : Nat) (Q : Option Value → Heap → Prop) : Prop :=
  ∀ ws, MetFree l y (head1 (Jvm.Cond.code y bytes maxL ret :: ws) rm) (fun a U => a = as' ∧ Z.Warmed39 U.vm ∧ U.heap = h ∧ CHv Z EL U.vm h) (fun _ _ _ _ _ => True) (fun _ U o U' => ∃ v L, o = .returned v ∧ (Fr n0 L ∧ Q v U'.heap) ∧ CHr Z EL U.vm U.heap U'.vm U'.heap ∧ ReturnedEndW U o U' L rm.cells rm.slots)
theorem conW_of (hw : ∀ d ∈ tables_1, d.before a0 Z = true) (hpl : plainFor y = true) (hn0 : Old Z n0 h)
    (body : ∀ p e sv0 s m below meth c T, Cx p s m meth c Z a0 y.cls bytes maxL ret y.name → Wi Z EL sv0 s h → St Z p l e rm s m as' below meth c n0 T h 0 0 → Go p e below (FinW Z EL sv0 rm.cells rm.slots n0 Qy) (T.setTop (entryFrame m as' maxL))) :
    ConW l Z EL y bytes maxL ret rm as' h n0 Qy := by
  intro ws
  refine MetFree.of_bodySF hpl hisR ?_
  intro p e s m args below meth c s₁ Bd hml0 hP hK
  obtain ⟨rfl, hZ, hh, H⟩ := hP
  have e0 : s₁.heap = h := by rw [← hh, Bd.state]; rfl
  exact body p e s s m below meth c s₁ ⟨Bd.exec, hZ, hw, findClass_of_methodNamed Bd.named, Bd.bytes, hml0, Bd.returns, Bd.notSynchronized, (name_of_methodNamed Bd.named Bd.method).1⟩ (Wi.start H hh) ⟨[], Stand.of_body Bd, Fr.nil n0, by rw [hh]; exact hn0, e0⟩
theorem go_leaveW (C : Cx p s m meth c Z a0 own bytes maxL ret nm) (X : St Z p l e R s m args below meth c n0 T h k n) (W : Wi Z EL s0 s h) (hEL : EW Z a0 EL) {v : Option Value} {f : JFrame} (hv : meth.sig.returnType = none → v = none) (hQ : Qy v h) (hk : k ≤ kc) (hn : n ≤ kn)
    (go : ∀ {locs : List Loc} (Y : Stand p l e R s m args below meth c T locs k n) {fs : List Frame}, (∀ (f : JFrame) (acts : List Action), f.method = m → f.locked = none → f.entered = [] → (doReturn e (T.setTop f) acts v).1 = T.setFrames fs) → Steps p.tables e below (T.setTop f) (T.setFrames fs)) :
    Go p e below (FinW Z EL s0 kc kn n0 Qy) (T.setTop f) := by
  obtain ⟨locs, Y, N, -, rfl⟩ := X
  obtain ⟨es, ⟨k0, hS, hk0⟩, A⟩ := W
  have Y' : Stand p l e R (s0.setVm s.vm) m args below meth c T locs k n := by rw [← es]; exact Y
  obtain ⟨fs, hr, hrun, hended, hE⟩ := Jvm.Stand.leaveW Y' hS hk0 hv C.lk
  have B : CHr Z EL s.vm T.heap T.vm T.heap := CHv.at Y' C.hZ hEL A.1
  exact ⟨_, _, go Y hr, hrun, hended, _, _, rfl, ⟨N, hQ⟩, A.trans B, hE.1, hE.2.1, hE.2.2.1, hE.2.2.2.mono hk hn⟩
theorem go_retAW {ty : FieldType} (C : Cx p s m meth c Z a0 own bytes maxL (some ty) nm) (X : St Z p l e R s m args below meth c n0 T h k n) (W : Wi Z EL s0 s h) (hEL : EW Z a0 EL) {v : Value} (hd : decode bytes pc = .ok (.areturn, 1)) (ht : ty.isReference = true) (hv : v.isRef = true) (hQ : Qy (some v) h) (hk : k ≤ kc) (hn : n ≤ kn) : Go p e below (FinW Z EL s0 kc kn n0 Qy) (T.setTop (mkF m pc Ls (v :: st))) :=
  go_leaveW C X W hEL (fun q => by rw [C.rt] at q; cases q) hQ hk hn fun Y _ hr => retOut Y C.1 C.rt (by cases ty <;> first | (cases ht; done) | rfl) (Or.inr (Or.inr (Or.inr (Or.inr ⟨rfl, ht, hv⟩)))) (C.cd hd) hr
theorem go_retNW {ty : FieldType} (C : Cx p s m meth c Z a0 own bytes maxL (some ty) nm) (X : St Z p l e R s m args below meth c n0 T h k n) (W : Wi Z EL s0 s h) (hEL : EW Z a0 EL) {z z' : Int32} (ht : ty = .boolean ∨ ty = .byte ∨ ty = .char ∨ ty = .short) (hz : nar ty z = z') (hd : decode bytes pc = .ok (.ireturn, 1)) (hQ : Qy (some (.int z')) h) (hk : k ≤ kc) (hn : n ≤ kn) : Go p e below (FinW Z EL s0 kc kn n0 Qy) (T.setTop (mkF m pc Ls (.int z :: st))) := by
  subst hz
  exact go_leaveW C X W hEL (fun q => by rw [C.rt] at q; cases q) hQ hk hn fun Y _ hr => retN Y C.1 C.rt ht (C.cd hd) hr
theorem go_ret0W (C : Cx p s m meth c Z a0 own bytes maxL none nm) (X : St Z p l e R s m args below meth c n0 T h k n) (W : Wi Z EL s0 s h) (hEL : EW Z a0 EL) (hd : decode bytes pc = .ok (.return_, 1)) (hQ : Qy none h) (hk : k ≤ kc) (hn : n ≤ kn) : Go p e below (FinW Z EL s0 kc kn n0 Qy) (T.setTop (mkF m pc Ls [])) :=
  go_leaveW C X W hEL (fun _ => rfl) hQ hk hn fun Y _ hr => Y.returnOut C.1 C.rt (C.cd hd) hr
theorem go_ldcH (C : Cx p s m meth c Z a0 own bytes maxL ret nm) (X : St Z p l e R s m args below meth c n0 T h k n) (W : Wi Z EL s0 s h) (hEL : EW Z a0 EL) {text : String} (w : (Jvm.Cond.stringLink own idx text).before a0 Z = true) (wS : ∀ a ∈ Bundle.stringAtoms, a.before a0 Z = true) (hmem : (own, idx) ∈ EL)
    {vs : List Value} {z : Int32} (ht : (∀ c ∈ text.toList, c.toNat < 256) ∧ text.toList.map (fun c => Value.int (Jvm.Lit.byteI c.toNat.toUInt16)) = vs) (hz : ¬ z < 0) (hzl : z.toNatClampNeg = vs.length) {q : Nat} (hq : 4 * text.toList.length ≤ q) (hbig : q ≤ 536870912) (hc : k + 2 ≤ R.cells) (hl : n + (q + 4) ≤ R.slots) (hp : pc + 2 = pc') (hd : decode bytes pc = .ok (.ldc idx, 2))
    (hr : ∀ s' T' h' a b, Cx p s' m meth c Z a0 own bytes maxL ret nm → Wi Z EL s0 s' h' → Ext h h' → Exa Z h' a "java/lang/String" → Fld Z h' a "java/lang/String" "coder" "B" (.int 0) → Fld Z h' a "java/lang/String" "value" "[B" (.ref b) → La Z h' b .byte vs → (∀ x, Safe Z EL s'.vm h' x → x ≠ a ∧ x ≠ b) → (∀ x, x < h.size → Safe Z EL s.vm h x → Safe Z EL s'.vm h' x) → St Z p l e R s' m args below meth c n0 T' h' (k + 2) (n + (q + 4)) → Go p e below Q (T'.setTop (mkF m pc' Ls (.ref a :: st)))) :
    Go p e below Q (T.setTop (mkF m pc Ls st)) := by
  subst hp
  obtain ⟨locs, Y, N, zs, eT⟩ := X
  obtain ⟨es, ⟨k0, hS, hk0⟩, A⟩ := W
  have Y' : Stand p l e R (s0.setVm s.vm) m args below meth c T locs k n := by rw [← es]; exact Y
  obtain ⟨a, T', h', k1, b, kk, X', e', E, hS', hk1, hW, hf, r1, r2, r3, r4, -, -, hC, -, hne, stp⟩ := ldcCH Y' C.1 C.hZ C.ow w wS eT hS hk0 hEL hmem A.1 ht hz hzl (g := mkF m pc Ls st) rfl (C.cd hd) hq hbig hc hl
  have l31 : vs.length < 2 ^ 31 := by rw [← hzl]; exact (back32 hz).2
  refine Go.back stp (hr (s0.setVm T'.vm) T' h' a b ⟨C.1, hW, C.2.2.1, hf, C.2.2.2.2⟩ ⟨rfl, ⟨k1, hS', hk1⟩, A.trans hC⟩ E r1 r2 r3 (arv_la r4 hzl l31) hne (fun x hx S => hC.safe hx S) ⟨_, X', N, ?_, e'⟩)
  have q0 : Old Z n0 (s0.setVm s.vm).heap := by rw [← es]; exact zs
  exact q0
theorem go_callSW (C : Cx p s m meth c Z a0 own bytes maxL ret nm) (X : St Z p l e R s m args below meth c n0 T h k n) (W : Wi Z EL s0 s h) (hEL : EW Z a0 EL) (wl : (Jvm.Cond.methodLink own idx y).before a0 Z = true) (ws : (Jvm.Cond.static y).before a0 Z = true) (wi : (Jvm.Cond.initialized y.cls).before a0 Z = true) (wc : (Jvm.Cond.code y yb yl yr).before a0 Z = true)
    (hM : ConW l Z EL y yb yl yr rm as' h n0 QY) (hlen : ∀ sig, parseMethodDescriptor y.desc = some sig → argsL.length = sig.parameters.length) (ha : argsL.toArray = as') (hy : y.cls ≠ "java/lang/invoke/MethodHandle" ∧ y.cls ≠ "java/lang/invoke/VarHandle")
    (hf : rm.frames + 1 ≤ R.frames) (hl : (rest.map fun v => v.category).sum + (yl + 11) + rm.locals ≤ R.locals) (hc : k + rm.cells ≤ R.cells) (hn : n + rm.slots ≤ R.slots) (hst : st = argsL.reverse ++ rest) (hsz : Ls.size = maxL) (hp : pc + 3 = pc') (hd : decode bytes pc = .ok (.invokestatic idx, 3))
    (hr : ∀ s' T' h' v, QY v h' → Cx p s' m meth c Z a0 own bytes maxL ret nm → Wi Z EL s0 s' h' → St Z p l e R s' m args below meth c n0 T' h' (k + rm.cells) (n + rm.slots) → Go p e below Q (T'.setTop (mkF m pc' Ls (v.toList ++ rest)))) : Go p e below Q (T.setTop (mkF m pc Ls st)) := by
  subst hp; subst ha; subst hst
  obtain ⟨locs, Y, N, zs, eT⟩ := X
  obtain ⟨es, ⟨k0, hS, hk0⟩, A⟩ := W
  have BK : BackS l R p e below s args y 3 ((rest.map fun v => v.category).sum) (fun A a => a = argsL.toArray ∧ A.U.heap = h ∧ A.cells + rm.cells ≤ R.cells ∧ A.slots + rm.slots ≤ R.slots) (fun A _ v B => ∃ L, (Fr n0 L ∧ QY v B.U.heap) ∧ B.locs = A.locs ++ L ∧ B.cells = A.cells + rm.cells ∧ B.slots = A.slots + rm.slots ∧ CHr Z EL s.vm h B.U.vm B.U.heap) :=
    backOfSH (s := s) (vm0 := s.vm) (Q := fun v h' L => Fr n0 L ∧ QY v h') (hM []) C.hZ wc wi hf hl hEL A.1
  obtain ⟨v, _, ⟨T', L', k', n'⟩, -, X', hS2, hg, ⟨Lc, ⟨N', hQ⟩, l1, y1, z1, hR⟩, stp⟩ := callSS Y C.1 C.ow (mvT C.hZ wl) (mvT C.hZ ws) (mvT C.hZ wi) (mvT C.hZ wc) hy BK (g := mkF m pc Ls (argsL.reverse ++ rest)) rfl (hsz.trans C.ml.symm) (argsL := argsL) (rest := rest) hlen rfl (by show 2 * 0 + _ ≤ _; omega) (C.cd hd) (fun _ _ => ⟨rfl, eT, hc, hn⟩)
  dsimp only [Pt.U, Pt.locs, Pt.cells, Pt.slots] at X' l1 y1 z1 stp hQ hS2 hg hR
  subst l1 y1 z1
  have h2 : (s0.setVm s.vm).Since T'.vm T'.heap.size := by rw [← es]; exact hS2
  have hk2 : k0 ≤ T'.heap.size := Nat.le_trans hk0 (by rw [← eT]; exact hg)
  exact Go.back (fun t kt => stp.trans kt) (hr (s.setVm T'.vm) T' T'.heap v hQ (C.re hS2.1) ⟨congrArg (fun z => z.setVm T'.vm) es, ⟨_, hS.trans h2 hk2, Nat.le_refl _⟩, A.trans hR⟩ ⟨_, X', N.app N', zs, rfl⟩)
theorem go_bastore (C : Cx p s m meth c Z a0 own bytes maxL ret nm) (X : St Z p l e R s m args below meth c n0 T h k n) {a : Addr} {vs : List Value} {j x : Int32} (A : La Z h a .byte vs) (q : 0 ≤ j.toInt) (hj : j.toInt < vs.length) (ga : n0 ≤ a) (hp : pc + 1 = pc') (hd : decode bytes pc = .ok (.bastore, 1))
    (hr : ∀ T' h', Wr h h' a j.toNatClampNeg (.int (nar .byte x)) → La Z h' a .byte (vs.set j.toNatClampNeg (.int (nar .byte x))) → St Z p l e R s m args below meth c n0 T' h' k n → Go p e below Q (T'.setTop (mkF m pc' Ls st))) : Go p e below Q (T.setTop (mkF m pc Ls (.int x :: .int j :: .ref a :: st))) := by
  subst hp
  obtain ⟨locs, Y, N, zs, eT⟩ := X
  have A' := A
  obtain ⟨cl, B, e1, e2, e3⟩ := A
  have i1 : ¬ (j < 0 ∨ cl.slots.size ≤ j.toNatClampNeg) := fun r => r.elim (neg_not q) fun r => by
    rw [e1] at r; simp at r; have := clamp_eq q; omega
  obtain ⟨T', h', X', e', W, stp⟩ := stB Y C.1 C.hZ eT B i1 (g := mkF m pc Ls (.int x :: .int j :: .ref a :: st)) rfl rfl (C.cd hd)
  exact Go.back stp (hr T' h' W (A'.set W (fits_nar_byte _)) ⟨_, X', Fr.snoc X' N ga, zs, e'⟩)
theorem go_lookMiss (C : Cx p s m meth c Z a0 own bytes maxL ret nm) (X : St Z p l e R s m args below meth c n0 T h k n) {df : Int} {prs : Array (Int × Int)} {ln : Nat} {z : Int32} (hd : decode bytes pc = .ok (.lookupswitch df prs, ln)) (hs : (prs.toList.zip (prs.toList.drop 1)).all (fun (a, next) => a.1 < next.1) = true) (hf : prs.find? (·.1 == z.toInt) = none) (ho : 0 ≤ (pc : Int) + df) (hp2 : ((pc : Int) + df).toNat = pc2)
    (hr : Go p e below Q (T.setTop (mkF m pc2 Ls st))) : Go p e below Q (T.setTop (mkF m pc Ls (.int z :: st))) := by
  subst hp2
  obtain ⟨locs, Y, -, -, -⟩ := X
  exact Go.back (fun t kt => Jvm.Stand.lookupswitchMiss Y C.1 (g := mkF m pc Ls (.int z :: st)) rfl rfl (C.cd hd) hs hf ho t kt) hr
theorem go_specialW (C : Cx p s m meth c Z a0 own bytes maxL ret nm) (X : St Z p l e R s m args below meth c n0 T h k n) (W : Wi Z EL s0 s h) (hEL : EW Z a0 EL) {a : Addr} (wl : (Jvm.Cond.methodLink own idx y).before a0 Z = true) (ws : (Jvm.Cond.instanceMethod y).before a0 Z = true) (wi : (Jvm.Cond.initialized y.cls).before a0 Z = true) (wc : (Jvm.Cond.code y yb yl none).before a0 Z = true) (hy1 : y.name = "<init>")
    (hM : ConW l Z EL y yb yl none rm as' h n0 QY) (hlen : ∀ sig, parseMethodDescriptor y.desc = some sig → argsL.length = sig.parameters.length) (ha : (.ref a :: argsL).toArray = as') (hy : y.cls ≠ "java/lang/invoke/MethodHandle" ∧ y.cls ≠ "java/lang/invoke/VarHandle")
    (hf : rm.frames + 1 ≤ R.frames) (hl : (rest.map fun v => v.category).sum + (yl + 11) + rm.locals ≤ R.locals) (hc : k + rm.cells ≤ R.cells) (hn : n + rm.slots ≤ R.slots) (hst : st = argsL.reverse ++ .ref a :: rest) (hsz : Ls.size = maxL) (hp : pc + 3 = pc') (hd : decode bytes pc = .ok (.invokespecial idx, 3))
    (hr : ∀ s' T' h' v, QY v h' → Cx p s' m meth c Z a0 own bytes maxL ret nm → Wi Z EL s0 s' h' → St Z p l e R s' m args below meth c n0 T' h' (k + rm.cells) (n + rm.slots) → Go p e below Q (T'.setTop (mkF m pc' Ls (v.toList ++ rest)))) : Go p e below Q (T.setTop (mkF m pc Ls st)) := by
  subst hp; subst ha; subst hst
  obtain ⟨locs, Y, N, zs, eT⟩ := X
  obtain ⟨es, ⟨k0, hS, hk0⟩, A⟩ := W
  have BK : BackS l R p e below s args y 3 ((rest.map fun v => v.category).sum) (fun A b => b = (.ref a :: argsL).toArray ∧ A.U.heap = h ∧ A.cells + rm.cells ≤ R.cells ∧ A.slots + rm.slots ≤ R.slots) (fun A _ v B => ∃ L, (Fr n0 L ∧ QY v B.U.heap) ∧ B.locs = A.locs ++ L ∧ B.cells = A.cells + rm.cells ∧ B.slots = A.slots + rm.slots ∧ CHr Z EL s.vm h B.U.vm B.U.heap) :=
    backOfSH (s := s) (vm0 := s.vm) (Q := fun v h' L => Fr n0 L ∧ QY v h') (hM []) C.hZ wc wi hf hl hEL A.1
  obtain ⟨v, _, ⟨T', L', k', n'⟩, -, X', hS2, hg, ⟨Lc, ⟨N', hQ⟩, l1, y1, z1, hR⟩, stp⟩ := Y.specialBackS C.1 hy1 C.ow (mvT C.hZ wl) (mvT C.hZ ws) (mvT C.hZ wc) hy BK (g := mkF m pc Ls (argsL.reverse ++ .ref a :: rest)) rfl (hsz.trans C.ml.symm) (Steps.refl _) (a := a) (argsL := argsL) (rest := rest) hlen rfl (by show 2 * 0 + _ ≤ _; omega) (C.cd hd) (fun _ _ => ⟨rfl, eT, hc, hn⟩)
  dsimp only [Pt.U, Pt.locs, Pt.cells, Pt.slots] at X' l1 y1 z1 stp hQ hS2 hg hR
  subst l1 y1 z1
  have h2 : (s0.setVm s.vm).Since T'.vm T'.heap.size := by rw [← es]; exact hS2
  have hk2 : k0 ≤ T'.heap.size := Nat.le_trans hk0 (by rw [← eT]; exact hg)
  exact Go.back (fun t kt => stp.trans kt) (hr (s.setVm T'.vm) T' T'.heap v hQ (C.re hS2.1) ⟨congrArg (fun z => z.setVm T'.vm) es, ⟨_, hS.trans h2 hk2, Nat.le_refl _⟩, A.trans hR⟩ ⟨_, X', N.app N', zs, rfl⟩)
theorem go_castore (C : Cx p s m meth c Z a0 own bytes maxL ret nm) (X : St Z p l e R s m args below meth c n0 T h k n) {a : Addr} {vs : List Value} {j x : Int32} (A : La Z h a .char vs) (q : 0 ≤ j.toInt) (hj : j.toInt < vs.length) (ga : n0 ≤ a) (hp : pc + 1 = pc') (hd : decode bytes pc = .ok (.castore, 1))
    (hr : ∀ T' h', Wr h h' a j.toNatClampNeg (.int (nar .char x)) → La Z h' a .char (vs.set j.toNatClampNeg (.int (nar .char x))) → St Z p l e R s m args below meth c n0 T' h' k n → Go p e below Q (T'.setTop (mkF m pc' Ls st))) : Go p e below Q (T.setTop (mkF m pc Ls (.int x :: .int j :: .ref a :: st))) := by
  subst hp
  obtain ⟨locs, Y, N, zs, eT⟩ := X
  have A' := A
  obtain ⟨cl, B, e1, e2, e3⟩ := A
  have i1 : ¬ (j < 0 ∨ cl.slots.size ≤ j.toNatClampNeg) := fun r => r.elim (neg_not q) fun r => by
    rw [e1] at r; simp at r; have := clamp_eq q; omega
  obtain ⟨T', h', X', e', W, stp⟩ := stC Y C.1 C.hZ eT B i1 (g := mkF m pc Ls (.int x :: .int j :: .ref a :: st)) rfl rfl (C.cd hd)
  exact Go.back stp (hr T' h' W (A'.set W (fits_nar_char _)) ⟨_, X', Fr.snoc X' N ga, zs, e'⟩)
theorem go_inst (C : Cx p s m meth c Z a0 own bytes maxL ret nm) (X : St Z p l e R s m args below meth c n0 T h k n) {cn : String} {a : Addr} (w : (Jvm.Cond.classLink own idx cn).before a0 Z = true) (F : Ins Z h a cn true) (hp : pc + 3 = pc') (hd : decode bytes pc = .ok (.instanceof idx, 3)) (hr : ∀ T', St Z p l e R s m args below meth c n0 T' h k n → Go p e below Q (T'.setTop (mkF m pc' Ls (.int 1 :: st)))) : Go p e below Q (T.setTop (mkF m pc Ls (.ref a :: st))) := by
  subst hp
  obtain ⟨locs, Y, N, zs, eT⟩ := X
  obtain ⟨T', X', e', stp⟩ := instY Y C.1 C.hZ C.ow w eT F (g := mkF m pc Ls (.ref a :: st)) rfl rfl (C.cd hd)
  exact Go.back stp (hr T' ⟨_, X', N, zs, e'⟩)
/-- a String whose bytes aren't laid yet is no booked one -/
theorem safeN (C : Cx p s m meth c Z a0 own bytes maxL ret nm) {a : Addr} (E : Exa Z h a "java/lang/String") (F : Fld Z h a "java/lang/String" "value" "[B" .null) : Safe Z EL s.vm h a := fun B => by
  obtain ⟨pp, -, u, a', -, q, -, G, hy⟩ := B
  rcases hy with rfl | rfl
  · obtain ⟨cS, ⟨⟨s1, s2, s3, ⟨cv, kv, iv, s4, s4'⟩, -, s6, s7, s8, -⟩, -, -⟩, -⟩ := G
    obtain ⟨kv', z4⟩ := ff_back (U := Wst Z s.vm h) C.hZ.alike s4
    obtain ⟨cell, cf, k, i, f, h1, h2, h3, h4, h5, h6, h7⟩ := F
    cases h1.symm.trans (show h[q.sa]? = some q.sC from s1)
    cases h2.symm.trans z4
    rw [s8] at h7
    cases h7
  · obtain ⟨cell, k, e1, e2, e3, -, -⟩ := E
    cases (show h[q.sd]? = some q.SA from G.hd).symm.trans e1
    obtain ⟨cS, -, -, f, -⟩ := G
    have f' : s.vm.findClass "[B" = some q.SA.cls := f
    rw [C.hZ.alike.findClass] at f'
    obtain ⟨k1, q1, q2⟩ := Vm.findClass_spec f'
    obtain ⟨k2, q3, q4⟩ := Vm.findClass_spec e2
    cases q1.symm.trans q3
    have bad : "[B" = "java/lang/String" := q2.symm.trans q4
    exact absurd bad (by decide)
theorem la_uni {a : Addr} {ty ty' : FieldType} {vs vs' : List Value} (A : La Z h a ty vs) (B : La Z h a ty' vs') : vs = vs' := by
  obtain ⟨c1, A1, A2, -⟩ := A
  obtain ⟨c2, B1, B2, -⟩ := B
  cases A1.1.symm.trans B1.1
  have e := A2.symm.trans B2
  simpa using e
end Wide
section Wide2
variable {p : Program} {l : Launch} {e : Env} {R : Room} {s s0 : State} {m : MethodId} {args : Array Value} {below : List Frame} {meth : Method} {c : Code} {Z : State} {a0 : Array Value} {own : String} {bytes : ByteArray} {maxL : Nat} {ret : Option FieldType} {nm : String} {n0 : Nat} {T : State} {h h' : Heap} {k n : Nat} {Q : Outcome → State → Prop} {pc pc' pc2 idx : Nat} {Ls Ls' : Array Slot} {st : List Value} {EL : List (String × Nat)} {kc kn : Nat} {Qy : Option Value → Heap → Prop} {y : MethodName} {yb : ByteArray} {yl : Nat} {yr : Option FieldType} {rm : Room} {as' : Array Value} {QY : Option Value → Heap → Prop} {argsL rest : List Value}
variable {PX : Vm → Prop} {QX : Option Value → Heap → Vm → Prop}
/-- the entry ix of the class cl is booked with the String a -/
def LdV (Z : State) (cl : String) (ix : Nat) (a : Addr) (vm : Vm) : Prop := (Z.setVm vm).resolvedAt? cl ix = some (.string a)
theorem LdV.on {cl : String} {ix : Nat} {a : Addr} {vm vm' : Vm} (L : LdV Z cl ix a vm) (W : (Z.setVm vm).Warmed39 vm') : LdV Z cl ix a vm' := State.resolvedAt?_warmed39 (s := Z.setVm vm) W L
def FinX (Z : State) (EL : List (String × Nat)) (s0 : State) (k n n0 : Nat) (Q : Option Value → Heap → Vm → Prop) (o : Outcome) (t : State) : Prop := ∃ v L, o = .returned v ∧ (Fr n0 L ∧ Q v t.heap t.vm) ∧ CHr Z EL s0.vm s0.heap t.vm t.heap ∧ ReturnedEndW s0 o t L k n
/-- a contract of a body that may intern, with a word on the tables before (PX) and behind (in Q) -/
def ConX (l : Launch) (Z : State) (EL : List (String × Nat)) (PX : Vm → Prop) (y : MethodName) (bytes : ByteArray) (maxL : Nat) (ret : Option FieldType) (rm : Room) (as' : Array Value) (h : Heap) (n0 : Nat) (Q : Option Value → Heap → Vm → Prop) : Prop :=
  ∀ ws, MetFree l y (head1 (Jvm.Cond.code y bytes maxL ret :: ws) rm) (fun a U => a = as' ∧ Z.Warmed39 U.vm ∧ U.heap = h ∧ CHv Z EL U.vm h ∧ PX U.vm) (fun _ _ _ _ _ => True) (fun _ U o U' => ∃ v L, o = .returned v ∧ (Fr n0 L ∧ Q v U'.heap U'.vm) ∧ CHr Z EL U.vm U.heap U'.vm U'.heap ∧ ReturnedEndW U o U' L rm.cells rm.slots)
theorem conX_of (hw : ∀ d ∈ tables_1, d.before a0 Z = true) (hpl : plainFor y = true) (hn0 : Old Z n0 h)
    (body : ∀ p e sv0 s m below meth c T, Cx p s m meth c Z a0 y.cls bytes maxL ret y.name → PX s.vm → Wi Z EL sv0 s h → St Z p l e rm s m as' below meth c n0 T h 0 0 → Go p e below (FinX Z EL sv0 rm.cells rm.slots n0 QX) (T.setTop (entryFrame m as' maxL))) :
    ConX l Z EL PX y bytes maxL ret rm as' h n0 QX := by
  intro ws
  refine MetFree.of_bodySF hpl hisR ?_
  intro p e s m args below meth c s₁ Bd hml0 hP hK
  obtain ⟨rfl, hZ, hh, H, hX⟩ := hP
  have e0 : s₁.heap = h := by rw [← hh, Bd.state]; rfl
  exact body p e s s m below meth c s₁ ⟨Bd.exec, hZ, hw, findClass_of_methodNamed Bd.named, Bd.bytes, hml0, Bd.returns, Bd.notSynchronized, (name_of_methodNamed Bd.named Bd.method).1⟩ hX (Wi.start H hh) ⟨[], Stand.of_body Bd, Fr.nil n0, by rw [hh]; exact hn0, e0⟩
theorem back_sx (hM : ConX l Z EL PX y yb yl yr rm as' h n0 QX) (C : Cx p s m meth c Z a0 own bytes maxL ret nm) {len W : Nat} (wc : (Jvm.Cond.code y yb yl yr).before a0 Z = true) (wz : (Jvm.Cond.initialized y.cls).before a0 Z = true) (hf : rm.frames + 1 ≤ R.frames) (hl : W + (yl + 11) + rm.locals ≤ R.locals) (hEL : EW Z a0 EL) (H : CHv Z EL s.vm h) (hPX : ∀ vm', s.WarmedH vm' → PX vm') :
    BackS l R p e below s args y len W (fun A a => a = as' ∧ A.U.heap = h ∧ A.cells + rm.cells ≤ R.cells ∧ A.slots + rm.slots ≤ R.slots)
      (fun A _ v B => ∃ L, (Fr n0 L ∧ QX v B.U.heap B.U.vm) ∧ B.locs = A.locs ++ L ∧ B.cells = A.cells + rm.cells ∧ B.slots = A.slots + rm.slots ∧ CHr Z EL s.vm h B.U.vm B.U.heap) :=
  BackS.of_freeW (bytes := yb) (maxL := yl) (ret := yr) (E := fun _ first o t L k n => k = rm.cells ∧ n = rm.slots ∧ (∃ v, o = .returned v ∧ (Fr n0 L ∧ QX v t.heap t.vm)) ∧ CHr Z EL first.vm first.heap t.vm t.heap) (hM []) hf hl
    (fun m meth c A a Y hp => have hU : Z.Warmed39 A.U.vm := wtrans (s := s) C.hZ Y.warmed
      ⟨by show (Jvm.Cond.and _ .tt).before a A.U = true; rw [Cond.before_and, mv hU wc]; rfl, mv hU wc, mv hU wz, hp.2.2.1, hp.2.2.2⟩)
    (fun m meth c A a g mk Y hp => ⟨hp.1, wtrans (s := s) C.hZ Y.warmed, hp.2.1, (CHv.at (s := s) (vm0 := s.vm) Y C.hZ hEL H).1, hPX _ Y.warmed⟩) (fun _ _ _ _ _ _ _ _ _ => trivial)
    (fun _ _ _ _ ⟨v, L, h1, h2, h3, h4⟩ => ⟨L, _, _, h4, rfl, rfl, ⟨v, h1, h2⟩, h3⟩)
    (fun m meth c A a g mk v t L k n Y hp _ _ ⟨e1, e2, ⟨v', e3, e4⟩, e5⟩ => by
      cases e3; subst e1 e2
      refine ⟨L, e4, rfl, rfl, rfl, (CHv.at (s := s) (vm0 := s.vm) Y C.hZ hEL H).trans ?_⟩
      rw [← hp.2.1]; exact e5)
end Wide2
section Wide3
variable {p : Program} {l : Launch} {e : Env} {R : Room} {s s0 : State} {m : MethodId} {args : Array Value} {below : List Frame} {meth : Method} {c : Code} {Z : State} {a0 : Array Value} {own : String} {bytes : ByteArray} {maxL : Nat} {ret : Option FieldType} {nm : String} {n0 : Nat} {T : State} {h h' : Heap} {k n : Nat} {Q : Outcome → State → Prop} {pc pc' pc2 idx : Nat} {Ls Ls' : Array Slot} {st : List Value} {EL : List (String × Nat)} {kc kn : Nat} {Qy : Option Value → Heap → Prop} {y : MethodName} {yb : ByteArray} {yl : Nat} {yr : Option FieldType} {rm : Room} {as' : Array Value} {QY : Option Value → Heap → Prop} {argsL rest : List Value}
variable {PX : Vm → Prop} {QX : Option Value → Heap → Vm → Prop} {cl : String} {ix : Nat} {a : Addr}
theorem LdV.warm {vm' : Vm} (L : LdV Z cl ix a s.vm) (W : s.WarmedH vm') : LdV Z cl ix a vm' := State.resolvedAt?_warmed39 (s := s) W.wide L
/-- a load of an entry that is booked: nothing moves -/
theorem go_ldcL (C : Cx p s m meth c Z a0 own bytes maxL ret nm) (X : St Z p l e R s m args below meth c n0 T h k n) {text : String} (w : (Jvm.Cond.stringLink own idx text).before a0 Z = true) (L : LdV Z own idx a s.vm) (hp : pc + 2 = pc') (hd : decode bytes pc = .ok (.ldc idx, 2))
    (hr : Go p e below Q (T.setTop (mkF m pc' Ls (.ref a :: st)))) : Go p e below Q (T.setTop (mkF m pc Ls st)) := by
  subst hp
  obtain ⟨locs, Y, -, -, -⟩ := X
  have Y' : Stand p l e R (s.setVm s.vm) m args below meth c T locs k n := Y
  exact Go.back (fun t kt => ldcAgain (s := s) (vm0 := s.vm) Y' C.1 C.hZ C.ow w (a := a) L (g := mkF m pc Ls st) rfl (C.cd hd) t kt) hr
theorem go_ldcHX (C : Cx p s m meth c Z a0 own bytes maxL ret nm) (X : St Z p l e R s m args below meth c n0 T h k n) (W : Wi Z EL s0 s h) (hEL : EW Z a0 EL) {text : String} (w : (Jvm.Cond.stringLink own idx text).before a0 Z = true) (wS : ∀ a ∈ Bundle.stringAtoms, a.before a0 Z = true) (hmem : (own, idx) ∈ EL)
    {vs : List Value} {z : Int32} (ht : (∀ c ∈ text.toList, c.toNat < 256) ∧ text.toList.map (fun c => Value.int (Jvm.Lit.byteI c.toNat.toUInt16)) = vs) (hz : ¬ z < 0) (hzl : z.toNatClampNeg = vs.length) {q : Nat} (hq : 4 * text.toList.length ≤ q) (hbig : q ≤ 536870912) (hc : k + 2 ≤ R.cells) (hl : n + (q + 4) ≤ R.slots) (hp : pc + 2 = pc') (hd : decode bytes pc = .ok (.ldc idx, 2))
    (hr : ∀ s' T' h' a b, Cx p s' m meth c Z a0 own bytes maxL ret nm → Wi Z EL s0 s' h' → Ext h h' → Exa Z h' a "java/lang/String" → Fld Z h' a "java/lang/String" "coder" "B" (.int 0) → Fld Z h' a "java/lang/String" "value" "[B" (.ref b) → La Z h' b .byte vs → (∀ x, Safe Z EL s'.vm h' x → x ≠ a ∧ x ≠ b) → LdV Z own idx a s'.vm → St Z p l e R s' m args below meth c n0 T' h' (k + 2) (n + (q + 4)) → Go p e below Q (T'.setTop (mkF m pc' Ls (.ref a :: st)))) :
    Go p e below Q (T.setTop (mkF m pc Ls st)) := by
  subst hp
  obtain ⟨locs, Y, N, zs, eT⟩ := X
  obtain ⟨es, ⟨k0, hS, hk0⟩, A⟩ := W
  have Y' : Stand p l e R (s0.setVm s.vm) m args below meth c T locs k n := by rw [← es]; exact Y
  obtain ⟨a, T', h', k1, b, kk, X', e', E, hS', hk1, hW, hf, r1, r2, r3, r4, -, -, hC, hL, hne, stp⟩ := ldcCH Y' C.1 C.hZ C.ow w wS eT hS hk0 hEL hmem A.1 ht hz hzl (g := mkF m pc Ls st) rfl (C.cd hd) hq hbig hc hl
  have l31 : vs.length < 2 ^ 31 := by rw [← hzl]; exact (back32 hz).2
  refine Go.back stp (hr (s0.setVm T'.vm) T' h' a b ⟨C.1, hW, C.2.2.1, hf, C.2.2.2.2⟩ ⟨rfl, ⟨k1, hS', hk1⟩, A.trans hC⟩ E r1 r2 r3 (arv_la r4 hzl l31) hne hL ⟨_, X', N, ?_, e'⟩)
  have q0 : Old Z n0 (s0.setVm s.vm).heap := by rw [← es]; exact zs
  exact q0
theorem go_leaveX (C : Cx p s m meth c Z a0 own bytes maxL ret nm) (X : St Z p l e R s m args below meth c n0 T h k n) (W : Wi Z EL s0 s h) (hEL : EW Z a0 EL) {v : Option Value} {f : JFrame} (hv : meth.sig.returnType = none → v = none) (hQ : ∀ vm', s.WarmedH vm' → QX v h vm') (hk : k ≤ kc) (hn : n ≤ kn)
    (go : ∀ {locs : List Loc} (Y : Stand p l e R s m args below meth c T locs k n) {fs : List Frame}, (∀ (f : JFrame) (acts : List Action), f.method = m → f.locked = none → f.entered = [] → (doReturn e (T.setTop f) acts v).1 = T.setFrames fs) → Steps p.tables e below (T.setTop f) (T.setFrames fs)) :
    Go p e below (FinX Z EL s0 kc kn n0 QX) (T.setTop f) := by
  obtain ⟨locs, Y, N, -, rfl⟩ := X
  obtain ⟨es, ⟨k0, hS, hk0⟩, A⟩ := W
  have Y' : Stand p l e R (s0.setVm s.vm) m args below meth c T locs k n := by rw [← es]; exact Y
  obtain ⟨fs, hr, hrun, hended, hE⟩ := Jvm.Stand.leaveW Y' hS hk0 hv C.lk
  have B : CHr Z EL s.vm T.heap T.vm T.heap := CHv.at Y' C.hZ hEL A.1
  exact ⟨_, _, go Y hr, hrun, hended, _, _, rfl, ⟨N, hQ T.vm Y.warmed⟩, A.trans B, hE.1, hE.2.1, hE.2.2.1, hE.2.2.2.mono hk hn⟩
theorem go_ret0X (C : Cx p s m meth c Z a0 own bytes maxL none nm) (X : St Z p l e R s m args below meth c n0 T h k n) (W : Wi Z EL s0 s h) (hEL : EW Z a0 EL) (hd : decode bytes pc = .ok (.return_, 1)) (hQ : ∀ vm', s.WarmedH vm' → QX none h vm') (hk : k ≤ kc) (hn : n ≤ kn) : Go p e below (FinX Z EL s0 kc kn n0 QX) (T.setTop (mkF m pc Ls [])) :=
  go_leaveX C X W hEL (fun _ => rfl) hQ hk hn fun Y _ hr => Y.returnOut C.1 C.rt (C.cd hd) hr
theorem go_virtualX (C : Cx p s m meth c Z a0 own bytes maxL ret nm) (X : St Z p l e R s m args below meth c n0 T h k n) (W : Wi Z EL s0 s h) (hEL : EW Z a0 EL) {cn : String} {y0 : MethodName} (E : Exa Z h a cn) (wl : (Jvm.Cond.methodLink own idx y0).before a0 Z = true) (wd : (Jvm.Cond.declares y0).before a0 Z = true) (hnf : NotFace s y0) (wsel : (Jvm.Cond.selects cn y0 y).before a0 Z = true) (ws : (Jvm.Cond.instanceMethod y).before a0 Z = true) (wi : (Jvm.Cond.initialized y.cls).before a0 Z = true) (wc : (Jvm.Cond.code y yb yl yr).before a0 Z = true)
    (hM : ConX l Z EL PX y yb yl yr rm as' h n0 QX) (hPX : ∀ vm', s.WarmedH vm' → PX vm') (hlen : ∀ sig, parseMethodDescriptor y0.desc = some sig → argsL.length = sig.parameters.length) (ha : (.ref a :: argsL).toArray = as') (hy : y0.cls ≠ "java/lang/invoke/MethodHandle" ∧ y0.cls ≠ "java/lang/invoke/VarHandle")
    (hf : rm.frames + 1 ≤ R.frames) (hl : (rest.map fun v => v.category).sum + (yl + 11) + rm.locals ≤ R.locals) (hc : k + rm.cells ≤ R.cells) (hn : n + rm.slots ≤ R.slots) (hst : st = argsL.reverse ++ .ref a :: rest) (hsz : Ls.size = maxL) (hp : pc + 3 = pc') (hd : decode bytes pc = .ok (.invokevirtual idx, 3))
    (hr : ∀ s' T' h' v, QX v h' s'.vm → Cx p s' m meth c Z a0 own bytes maxL ret nm → Wi Z EL s0 s' h' → St Z p l e R s' m args below meth c n0 T' h' (k + rm.cells) (n + rm.slots) → Go p e below Q (T'.setTop (mkF m pc' Ls (v.toList ++ rest)))) : Go p e below Q (T.setTop (mkF m pc Ls st)) := by
  subst hp; subst ha; subst hst
  obtain ⟨locs, Y, N, zs, eT⟩ := X
  obtain ⟨es, ⟨k0, hS, hk0⟩, A⟩ := W
  obtain ⟨cq, kq, qa, qb, qc⟩ := isOf C.hZ eT E
  obtain ⟨v, _, ⟨T', L', k', n'⟩, -, X', hS2, hg, ⟨Lc, ⟨N', hQ⟩, l1, y1, z1, hR⟩, stp⟩ := Y.virtualBackS C.1 C.ow (mvT C.hZ wl) (mvT C.hZ wd) hnf (mvT C.hZ wsel) (mvT C.hZ ws) hy (back_sx hM C (len := 3) (W := (rest.map fun v => v.category).sum) wc wi hf hl hEL A.1 hPX) qa qc (g := mkF m pc Ls (argsL.reverse ++ .ref a :: rest)) rfl (hsz.trans C.ml.symm) (Steps.refl _) (argsL := argsL) (rest := rest) hlen rfl (by show 2 * 0 + _ ≤ _; omega) (C.cd hd) (fun _ _ => ⟨rfl, eT, hc, hn⟩)
  dsimp only [Pt.U, Pt.locs, Pt.cells, Pt.slots] at X' l1 y1 z1 stp hQ hS2 hg hR
  subst l1 y1 z1
  have h2 : (s0.setVm s.vm).Since T'.vm T'.heap.size := by rw [← es]; exact hS2
  have hk2 : k0 ≤ T'.heap.size := Nat.le_trans hk0 (by rw [← eT]; exact hg)
  exact Go.back (fun t kt => stp.trans kt) (hr (s.setVm T'.vm) T' T'.heap v hQ (C.re hS2.1) ⟨congrArg (fun z => z.setVm T'.vm) es, ⟨_, hS.trans h2 hk2, Nat.le_refl _⟩, A.trans hR⟩ ⟨_, X', N.app N', zs, rfl⟩)
theorem go_privateX (C : Cx p s m meth c Z a0 own bytes maxL ret nm) (X : St Z p l e R s m args below meth c n0 T h k n) (W : Wi Z EL s0 s h) (hEL : EW Z a0 EL) {cn : String} (E : Exa Z h a cn) (wl : (Jvm.Cond.methodLink own idx y).before a0 Z = true) (ws : (Jvm.Cond.instanceMethod y).before a0 Z = true) (wsel : (Jvm.Cond.selects y.cls y y).before a0 Z = true) (wp : (Jvm.Cond.privateMethod y).before a0 Z = true) (wi : (Jvm.Cond.initialized y.cls).before a0 Z = true) (wc : (Jvm.Cond.code y yb yl yr).before a0 Z = true)
    (hM : ConX l Z EL PX y yb yl yr rm as' h n0 QX) (hPX : ∀ vm', s.WarmedH vm' → PX vm') (hlen : ∀ sig, parseMethodDescriptor y.desc = some sig → argsL.length = sig.parameters.length) (ha : (.ref a :: argsL).toArray = as') (hy : y.cls ≠ "java/lang/invoke/MethodHandle" ∧ y.cls ≠ "java/lang/invoke/VarHandle")
    (hf : rm.frames + 1 ≤ R.frames) (hl : (rest.map fun v => v.category).sum + (yl + 11) + rm.locals ≤ R.locals) (hc : k + rm.cells ≤ R.cells) (hn : n + rm.slots ≤ R.slots) (hst : st = argsL.reverse ++ .ref a :: rest) (hsz : Ls.size = maxL) (hp : pc + 3 = pc') (hd : decode bytes pc = .ok (.invokevirtual idx, 3))
    (hr : ∀ s' T' h' v, QX v h' s'.vm → Cx p s' m meth c Z a0 own bytes maxL ret nm → Wi Z EL s0 s' h' → St Z p l e R s' m args below meth c n0 T' h' (k + rm.cells) (n + rm.slots) → Go p e below Q (T'.setTop (mkF m pc' Ls (v.toList ++ rest)))) : Go p e below Q (T.setTop (mkF m pc Ls st)) := by
  subst hp; subst ha; subst hst
  obtain ⟨locs, Y, N, zs, eT⟩ := X
  obtain ⟨es, ⟨k0, hS, hk0⟩, A⟩ := W
  obtain ⟨cq, q1, q2⟩ := E.cell
  obtain ⟨v, _, ⟨T', L', k', n'⟩, -, X', hS2, hg, ⟨Lc, ⟨N', hQ⟩, l1, y1, z1, hR⟩, stp⟩ := privateBackS Y C.1 C.ow (mvT C.hZ wl) (mvT C.hZ ws) (mvT C.hZ wsel) (Cond.privateMethod_at (mvP C.hZ wp (args := #[]))) (mvT C.hZ wc) hy (back_sx hM C (len := 3) (W := (rest.map fun v => v.category).sum) wc wi hf hl hEL A.1 hPX) (g := mkF m pc Ls (argsL.reverse ++ .ref a :: rest)) rfl (hsz.trans C.ml.symm) (Steps.refl _) (a := a) (by rw [eT]; exact q1) q2 (argsL := argsL) (rest := rest) hlen rfl (by show 2 * 0 + _ ≤ _; omega) (C.cd hd) (fun _ _ => ⟨rfl, eT, hc, hn⟩)
  dsimp only [Pt.U, Pt.locs, Pt.cells, Pt.slots] at X' l1 y1 z1 stp hQ hS2 hg hR
  subst l1 y1 z1
  have h2 : (s0.setVm s.vm).Since T'.vm T'.heap.size := by rw [← es]; exact hS2
  have hk2 : k0 ≤ T'.heap.size := Nat.le_trans hk0 (by rw [← eT]; exact hg)
  exact Go.back (fun t kt => stp.trans kt) (hr (s.setVm T'.vm) T' T'.heap v hQ (C.re hS2.1) ⟨congrArg (fun z => z.setVm T'.vm) es, ⟨_, hS.trans h2 hk2, Nat.le_refl _⟩, A.trans hR⟩ ⟨_, X', N.app N', zs, rfl⟩)
/-- a narrow contract with a word on the tables ahead -/
def ConP (l : Launch) (Z : State) (PX : Vm → Prop) (y : MethodName) (bytes : ByteArray) (maxL : Nat) (ret : Option FieldType) (rm : Room) (as' : Array Value) (h : Heap) (n0 : Nat) (Q : Option Value → Heap → Prop) : Prop :=
  ∀ ws, MetFree l y (head1 (Jvm.Cond.code y bytes maxL ret :: ws) rm) (fun a U => a = as' ∧ Z.Warmed39 U.vm ∧ U.heap = h ∧ PX U.vm) (fun _ _ _ _ _ => True) (fun _ U o U' => ∃ v L, o = .returned v ∧ (Fr n0 L ∧ Q v U'.heap) ∧ FrameEnd U o U' L rm.cells rm.slots)
theorem conP_of (hw : ∀ d ∈ tables_1, d.before a0 Z = true) (hpl : plainFor y = true) (hn0 : Old Z n0 h)
    (body : ∀ p e s m below meth c T, Cx p s m meth c Z a0 y.cls bytes maxL ret y.name → PX s.vm → St Z p l e rm s m as' below meth c n0 T h 0 0 → Go p e below (FinQ s rm.cells rm.slots n0 Qy) (T.setTop (entryFrame m as' maxL))) :
    ConP l Z PX y bytes maxL ret rm as' h n0 Qy := by
  intro ws
  refine MetFree.of_bodySF hpl hisR ?_
  intro p e s m args below meth c s₁ Bd hml0 hP hK
  obtain ⟨rfl, hZ, hh, hX⟩ := hP
  have e0 : s₁.heap = h := by rw [← hh, Bd.state]; rfl
  exact body p e s m below meth c s₁ ⟨Bd.exec, hZ, hw, findClass_of_methodNamed Bd.named, Bd.bytes, hml0, Bd.returns, Bd.notSynchronized, (name_of_methodNamed Bd.named Bd.method).1⟩ hX ⟨[], Stand.of_body Bd, Fr.nil n0, by rw [hh]; exact hn0, e0⟩
theorem conP_back (C : Cx p s m meth c Z a0 own bytes maxL ret nm) (hM : ConP l Z PX y yb yl yr rm as' h n0 QY) (hPX : ∀ vm', s.WarmedH vm' → PX vm') {W : Nat} (wc : (Jvm.Cond.code y yb yl yr).before a0 Z = true) (wz : (Jvm.Cond.initialized y.cls).before a0 Z = true) (hf : rm.frames + 1 ≤ R.frames) (hl : W + (yl + 11) + rm.locals ≤ R.locals) :
    Back l R p e below s args y 3 W (fun A a => a = as' ∧ A.U.heap = h ∧ A.cells + rm.cells ≤ R.cells ∧ A.slots + rm.slots ≤ R.slots) (fun A _ v B => ∃ L, (Fr n0 L ∧ QY v B.U.heap) ∧ B.locs = A.locs ++ L ∧ B.cells = A.cells + rm.cells ∧ B.slots = A.slots + rm.slots) :=
  Back.of_free (bytes := yb) (maxL := yl) (ret := yr) (E := fun _ _ o t L k n => k = rm.cells ∧ n = rm.slots ∧ ∃ v, o = .returned v ∧ (Fr n0 L ∧ QY v t.heap)) (hM []) hf hl
    (fun m meth c A a Y hp => have hU : Z.Warmed39 A.U.vm := wtrans (s := s) C.hZ Y.warmed
      ⟨by show (Jvm.Cond.and _ .tt).before a A.U = true; rw [Cond.before_and, mv hU wc]; rfl, mv hU wc, mv hU wz, hp.2.2.1, hp.2.2.2⟩)
    (fun m meth c A a g mk Y hp => ⟨hp.1, wtrans (s := s) C.hZ Y.warmed, hp.2.1, hPX _ Y.warmed⟩) (fun _ _ _ _ _ _ _ _ _ => trivial)
    (fun _ _ _ _ ⟨v, L, h1, h2, h3⟩ => ⟨L, _, _, h3, rfl, rfl, v, h1, h2⟩)
    (fun m meth c A a g mk v t L k n Y hp _ _ ⟨e1, e2, v', e3, e4⟩ => by cases e3; subst e1 e2; exact ⟨L, e4, rfl, rfl, rfl⟩)
theorem go_virtualP (C : Cx p s m meth c Z a0 own bytes maxL ret nm) (X : St Z p l e R s m args below meth c n0 T h k n) {cn : String} {y0 : MethodName} (E : Exa Z h a cn) (wl : (Jvm.Cond.methodLink own idx y0).before a0 Z = true) (wd : (Jvm.Cond.declares y0).before a0 Z = true) (hnf : NotFace s y0) (wsel : (Jvm.Cond.selects cn y0 y).before a0 Z = true) (ws : (Jvm.Cond.instanceMethod y).before a0 Z = true) (wi : (Jvm.Cond.initialized y.cls).before a0 Z = true) (wc : (Jvm.Cond.code y yb yl yr).before a0 Z = true)
    (hM : ConP l Z PX y yb yl yr rm as' h n0 QY) (hPX : ∀ vm', s.WarmedH vm' → PX vm') (hlen : ∀ sig, parseMethodDescriptor y0.desc = some sig → argsL.length = sig.parameters.length) (ha : (.ref a :: argsL).toArray = as') (hy : y0.cls ≠ "java/lang/invoke/MethodHandle" ∧ y0.cls ≠ "java/lang/invoke/VarHandle")
    (hf : rm.frames + 1 ≤ R.frames) (hl : (rest.map fun v => v.category).sum + (yl + 11) + rm.locals ≤ R.locals) (hc : k + rm.cells ≤ R.cells) (hn : n + rm.slots ≤ R.slots) (hst : st = argsL.reverse ++ .ref a :: rest) (hsz : Ls.size = maxL) (hp : pc + 3 = pc') (hd : decode bytes pc = .ok (.invokevirtual idx, 3))
    (hr : ∀ T' h' v, QY v h' → St Z p l e R s m args below meth c n0 T' h' (k + rm.cells) (n + rm.slots) → Go p e below Q (T'.setTop (mkF m pc' Ls (v.toList ++ rest)))) : Go p e below Q (T.setTop (mkF m pc Ls st)) := by
  subst hp; subst ha; subst hst
  obtain ⟨locs, Y, N, zs, eT⟩ := X
  obtain ⟨cq, kq, qa, qb, qc⟩ := isOf C.hZ eT E
  obtain ⟨v, _, ⟨T', L', k', n'⟩, -, X', ⟨Lc, ⟨N', hQ⟩, l1, y1, z1⟩, stp⟩ := Y.virtualBack C.1 C.ow (mvT C.hZ wl) (mvT C.hZ wd) hnf (mvT C.hZ wsel) (mvT C.hZ ws) hy (conP_back C hM hPX (W := (rest.map fun v => v.category).sum) wc wi hf hl) qa qc (g := mkF m pc Ls (argsL.reverse ++ .ref a :: rest)) rfl (hsz.trans C.ml.symm) (Steps.refl _) (argsL := argsL) (rest := rest) hlen rfl (by show 2 * 0 + _ ≤ _; omega) (C.cd hd) (fun _ _ => ⟨rfl, eT, hc, hn⟩)
  dsimp only [Pt.U, Pt.locs, Pt.cells, Pt.slots] at X' l1 y1 z1 stp hQ
  subst l1 y1 z1
  exact Go.back (fun t kt => stp.trans kt) (hr T' T'.heap v hQ ⟨_, X', N.app N', zs, rfl⟩)
theorem go_privateP (C : Cx p s m meth c Z a0 own bytes maxL ret nm) (X : St Z p l e R s m args below meth c n0 T h k n) {cn : String} (E : Exa Z h a cn) (wl : (Jvm.Cond.methodLink own idx y).before a0 Z = true) (ws : (Jvm.Cond.instanceMethod y).before a0 Z = true) (wsel : (Jvm.Cond.selects y.cls y y).before a0 Z = true) (wp : (Jvm.Cond.privateMethod y).before a0 Z = true) (wi : (Jvm.Cond.initialized y.cls).before a0 Z = true) (wc : (Jvm.Cond.code y yb yl yr).before a0 Z = true)
    (hM : ConP l Z PX y yb yl yr rm as' h n0 QY) (hPX : ∀ vm', s.WarmedH vm' → PX vm') (hlen : ∀ sig, parseMethodDescriptor y.desc = some sig → argsL.length = sig.parameters.length) (ha : (.ref a :: argsL).toArray = as') (hy : y.cls ≠ "java/lang/invoke/MethodHandle" ∧ y.cls ≠ "java/lang/invoke/VarHandle")
    (hf : rm.frames + 1 ≤ R.frames) (hl : (rest.map fun v => v.category).sum + (yl + 11) + rm.locals ≤ R.locals) (hc : k + rm.cells ≤ R.cells) (hn : n + rm.slots ≤ R.slots) (hst : st = argsL.reverse ++ .ref a :: rest) (hsz : Ls.size = maxL) (hp : pc + 3 = pc') (hd : decode bytes pc = .ok (.invokevirtual idx, 3))
    (hr : ∀ T' h' v, QY v h' → St Z p l e R s m args below meth c n0 T' h' (k + rm.cells) (n + rm.slots) → Go p e below Q (T'.setTop (mkF m pc' Ls (v.toList ++ rest)))) : Go p e below Q (T.setTop (mkF m pc Ls st)) := by
  subst hp; subst ha; subst hst
  obtain ⟨locs, Y, N, zs, eT⟩ := X
  obtain ⟨cq, q1, q2⟩ := E.cell
  obtain ⟨v, _, ⟨T', L', k', n'⟩, -, X', ⟨Lc, ⟨N', hQ⟩, l1, y1, z1⟩, stp⟩ := Y.privateBack C.1 C.ow (mvT C.hZ wl) (mvT C.hZ ws) (mvT C.hZ wsel) (Cond.privateMethod_at (mvP C.hZ wp (args := #[]))) (mvT C.hZ wc) hy (conP_back C hM hPX (W := (rest.map fun v => v.category).sum) wc wi hf hl) (g := mkF m pc Ls (argsL.reverse ++ .ref a :: rest)) rfl (hsz.trans C.ml.symm) (Steps.refl _) (a := a) (by rw [eT]; exact q1) q2 (argsL := argsL) (rest := rest) hlen rfl (by show 2 * 0 + _ ≤ _; omega) (C.cd hd) (fun _ _ => ⟨rfl, eT, hc, hn⟩)
  dsimp only [Pt.U, Pt.locs, Pt.cells, Pt.slots] at X' l1 y1 z1 stp hQ
  subst l1 y1 z1
  exact Go.back (fun t kt => stp.trans kt) (hr T' T'.heap v hQ ⟨_, X', N.app N', zs, rfl⟩)
theorem go_virtualU (C : Cx p s m meth c Z a0 own bytes maxL ret nm) (X : St Z p l e R s m args below meth c n0 T h k n) {cn owner : String} {y0 : MethodName} (E : Exa Z h a cn) (wl : (Jvm.Cond.methodLink own idx y0).before a0 Z = true) (wsa : (Jvm.Cond.sameMethod y0.cls owner y0.name y0.desc).before a0 Z = true) (wd : (Jvm.Cond.declares ⟨owner, y0.name, y0.desc⟩).before a0 Z = true) (wsel : (Jvm.Cond.selects cn y0 y).before a0 Z = true) (ws : (Jvm.Cond.instanceMethod y).before a0 Z = true) (wi : (Jvm.Cond.initialized y.cls).before a0 Z = true) (wc : (Jvm.Cond.code y yb yl yr).before a0 Z = true)
    (hM : Con l Z y yb yl yr rm as' h n0 QY) (hlen : ∀ sig, parseMethodDescriptor y0.desc = some sig → argsL.length = sig.parameters.length) (ha : (.ref a :: argsL).toArray = as') (ho : owner ≠ "java/lang/invoke/MethodHandle" ∧ owner ≠ "java/lang/invoke/VarHandle")
    (hf : rm.frames + 1 ≤ R.frames) (hl : (rest.map fun v => v.category).sum + (yl + 11) + rm.locals ≤ R.locals) (hc : k + rm.cells ≤ R.cells) (hn : n + rm.slots ≤ R.slots) (hst : st = argsL.reverse ++ .ref a :: rest) (hsz : Ls.size = maxL) (hp : pc + 3 = pc') (hd : decode bytes pc = .ok (.invokevirtual idx, 3))
    (hr : ∀ T' h' v, QY v h' → St Z p l e R s m args below meth c n0 T' h' (k + rm.cells) (n + rm.slots) → Go p e below Q (T'.setTop (mkF m pc' Ls (v.toList ++ rest)))) : Go p e below Q (T.setTop (mkF m pc Ls st)) := by
  subst hp; subst ha; subst hst
  obtain ⟨locs, Y, N, zs, eT⟩ := X
  obtain ⟨cq, kq, qa, qb, qc⟩ := isOf C.hZ eT E
  obtain ⟨v, _, ⟨T', L', k', n'⟩, -, X', ⟨Lc, ⟨N', hQ⟩, l1, y1, z1⟩, stp⟩ := Y.virtualBackUp C.1 C.ow (mvT C.hZ wl) (mvT C.hZ wsa) (mvT C.hZ wd) ho (mvT C.hZ wsel) (mvT C.hZ ws) (con_back C hM (W := (rest.map fun v => v.category).sum) wc wi hf hl) qa qc (g := mkF m pc Ls (argsL.reverse ++ .ref a :: rest)) rfl (hsz.trans C.ml.symm) (Steps.refl _) (argsL := argsL) (rest := rest) hlen rfl (by show 2 * 0 + _ ≤ _; omega) (C.cd hd) (fun _ _ => ⟨rfl, eT, hc, hn⟩)
  dsimp only [Pt.U, Pt.locs, Pt.cells, Pt.slots] at X' l1 y1 z1 stp hQ
  subst l1 y1 z1
  exact Go.back (fun t kt => stp.trans kt) (hr T' T'.heap v hQ ⟨_, X', N.app N', zs, rfl⟩)
theorem go_tabIn (C : Cx p s m meth c Z a0 own bytes maxL ret nm) (X : St Z p l e R s m args below meth c n0 T h k n) {df lo hi off : Int} {offs : Array Int} {ln : Nat} {z : Int32} (hd : decode bytes pc = .ok (.tableswitch df lo hi offs, ln)) (hin : ¬ (z.toInt < lo ∨ z.toInt > hi)) (hf : offs[(z.toInt - lo).toNat]? = some off) (ho : 0 ≤ (pc : Int) + off) (hp2 : ((pc : Int) + off).toNat = pc2)
    (hr : Go p e below Q (T.setTop (mkF m pc2 Ls st))) : Go p e below Q (T.setTop (mkF m pc Ls (.int z :: st))) := by
  subst hp2
  obtain ⟨locs, Y, -, -, -⟩ := X
  exact Go.back (fun t kt => Jvm.Stand.tableswitchIn Y C.1 (g := mkF m pc Ls (.int z :: st)) rfl rfl (C.cd hd) hin hf ho t kt) hr
theorem go_lookHit (C : Cx p s m meth c Z a0 own bytes maxL ret nm) (X : St Z p l e R s m args below meth c n0 T h k n) {df q off : Int} {prs : Array (Int × Int)} {ln : Nat} {z : Int32} (hd : decode bytes pc = .ok (.lookupswitch df prs, ln)) (hs : (prs.toList.zip (prs.toList.drop 1)).all (fun (a, next) => a.1 < next.1) = true) (hf : prs.find? (·.1 == z.toInt) = some (q, off)) (ho : 0 ≤ (pc : Int) + off) (hp2 : ((pc : Int) + off).toNat = pc2)
    (hr : Go p e below Q (T.setTop (mkF m pc2 Ls st))) : Go p e below Q (T.setTop (mkF m pc Ls (.int z :: st))) := by
  subst hp2
  obtain ⟨locs, Y, -, -, -⟩ := X
  exact Go.back (fun t kt => Jvm.Stand.lookupswitchHit Y C.1 (g := mkF m pc Ls (.int z :: st)) rfl rfl (C.cd hd) hs hf ho t kt) hr
/-- an array of objects, and that it takes what is of the class -/
def Lo (Z : State) (h : Heap) (a : Addr) (cn : String) (vs : List Value) : Prop := ∃ cl : Cell, Arr Z h a cl (.object cn) ∧ cl.slots = vs.toArray ∧ vs.length < 2 ^ 31 ∧ (∀ v ∈ vs, fits (.object cn) v = true) ∧ Ovr Z cl.cls cn
theorem Lo.la {cn : String} {vs : List Value} (A : Lo Z h a cn vs) : La Z h a (.object cn) vs := by
  obtain ⟨cl, h1, h2, h3, h4, -⟩ := A
  exact ⟨cl, h1, h2, h3, h4⟩
theorem Lo.lt {cn : String} {vs : List Value} (A : Lo Z h a cn vs) : a < h.size := A.la.lt
theorem Lo.ext {cn : String} {vs : List Value} (A : Lo Z h a cn vs) (E : Ext h h') : Lo Z h' a cn vs := by
  obtain ⟨cl, h1, r⟩ := A
  exact ⟨cl, h1.ext E, r⟩
theorem Lo.other {b : Addr} {sl : Nat} {v : Value} {cn : String} {vs : List Value} (A : Lo Z h a cn vs) (W : Wr h h' b sl v) (q : a ≠ b) : Lo Z h' a cn vs := by
  obtain ⟨cl, h1, r⟩ := A
  exact ⟨cl, h1.other W q, r⟩
theorem Lo.keep {ws : List Addr} {cn : String} {vs : List Value} (A : Lo Z h a cn vs) (K : Keep h h' ws) (q : a ∉ ws) : Lo Z h' a cn vs := by
  obtain ⟨cl, h1, r⟩ := A
  exact ⟨cl, ⟨K.2.1 a cl h1.1 q, h1.2⟩, r⟩
theorem go_newR (C : Cx p s m meth c Z a0 own bytes maxL ret nm) (X : St Z p l e R s m args below meth c n0 T h k n) {cn : String} (w1 : (Jvm.Cond.classLink own idx cn).before a0 Z = true) (w2 : (Jvm.Cond.arrayOver (.object cn)).before a0 Z = true) {z : Int32} {cap : Nat} (hz : 0 ≤ z.toInt) (hcap : z.toInt ≤ cap) (hb8 : cap * 8 ≤ 536870912) (hc : k + 1 ≤ R.cells) (hl : n + cap ≤ R.slots) (hp : pc + 3 = pc') (hd : decode bytes pc = .ok (.anewarray idx, 3))
    (hr : ∀ T' h' a, a = h.size → n0 ≤ a → Ext h h' → Lo Z h' a cn (List.replicate z.toNatClampNeg .null) → St Z p l e R s m args below meth c n0 T' h' (k + 1) (n + cap) → Go p e below Q (T'.setTop (mkF m pc' Ls (.ref a :: st)))) : Go p e below Q (T.setTop (mkF m pc Ls (.int z :: st))) := by
  subst hp
  have hsz := X.sz
  obtain ⟨locs, Y, N, zs, eT⟩ := X
  have hzc := clamp_eq hz
  obtain ⟨T', h', cA, X', e', E, A, O, stp⟩ := newR Y C.1 C.hZ C.ow w1 w2 eT (g := mkF m pc Ls (.int z :: st)) rfl (C.cd hd) rfl (neg_not hz) (cap := cap) (by omega) hb8 hc hl
  refine Go.back stp (hr T' h' _ rfl hsz E ⟨_, A, by simp [newA, defaultValue], ?_, fun v hv => ?_, O⟩ ⟨_, X', N, zs, e'⟩)
  · have := z.toInt_lt; simp; omega
  · obtain ⟨-, rfl⟩ := List.mem_replicate.mp hv; rfl
theorem go_aastore (C : Cx p s m meth c Z a0 own bytes maxL ret nm) (X : St Z p l e R s m args below meth c n0 T h k n) {cn : String} {vs : List Value} {j : Int32} {y : Addr} (A : Lo Z h a cn vs) (E : Exa Z h y cn) (q : 0 ≤ j.toInt) (hj : j.toInt < vs.length) (ga : n0 ≤ a) (hp : pc + 1 = pc') (hd : decode bytes pc = .ok (.aastore, 1))
    (hr : ∀ T' h', Wr h h' a j.toNatClampNeg (.ref y) → Lo Z h' a cn (vs.set j.toNatClampNeg (.ref y)) → St Z p l e R s m args below meth c n0 T' h' k n → Go p e below Q (T'.setTop (mkF m pc' Ls st))) : Go p e below Q (T.setTop (mkF m pc Ls (.ref y :: .int j :: .ref a :: st))) := by
  subst hp
  obtain ⟨locs, Y, N, zs, eT⟩ := X
  obtain ⟨cl, B, e1, e2, e3, O⟩ := A
  have i1 : ¬ (j < 0 ∨ cl.slots.size ≤ j.toNatClampNeg) := fun r => r.elim (neg_not q) fun r => by
    rw [e1] at r; simp at r; have := clamp_eq q; omega
  obtain ⟨T', h', X', e', W, stp⟩ := stR Y C.1 C.hZ eT B i1 rfl (Sto.of B O (Ins.self E)) (g := mkF m pc Ls (.ref y :: .int j :: .ref a :: st)) rfl rfl (C.cd hd)
  refine Go.back stp (hr T' h' W ⟨_, B.same W, ?_, by simpa using e2, fun w hw => ?_, O⟩ ⟨_, X', Fr.snoc X' N ga, zs, e'⟩)
  · simp [Cell.setSlot, e1]
  · rcases List.mem_or_eq_of_mem_set hw with q | q
    · exact e3 w q
    · subst q; rfl
/-- a String a with the bytes vs at b -/
def Sg (Z : State) (h : Heap) (a b : Addr) (vs : List Value) : Prop := Exa Z h a "java/lang/String" ∧ Fld Z h a "java/lang/String" "coder" "B" (.int 0) ∧ Fld Z h a "java/lang/String" "value" "[B" (.ref b) ∧ La Z h b .byte vs
def Sgs (Z : State) (h : Heap) (L : List (Addr × Addr × List Value)) : Prop := ∀ q ∈ L, Sg Z h q.1 q.2.1 q.2.2
def Nes (L : List (Addr × Addr × List Value)) (x : Addr) : Prop := ∀ q ∈ L, q.1 ≠ x ∧ q.2.1 ≠ x
theorem Sgs.ext {L : List (Addr × Addr × List Value)} (S : Sgs Z h L) (E : Ext h h') : Sgs Z h' L := fun q hq => ⟨(S q hq).1.ext E, (S q hq).2.1.ext E, (S q hq).2.2.1.ext E, (S q hq).2.2.2.ext E⟩
theorem Sgs.wr {L : List (Addr × Addr × List Value)} {x : Addr} {sl : Nat} {v : Value} (S : Sgs Z h L) (W : Wr h h' x sl v) (N : Nes L x) : Sgs Z h' L := fun q hq => ⟨(S q hq).1.wr W, (S q hq).2.1.other W (Or.inl (N q hq).1), (S q hq).2.2.1.other W (Or.inl (N q hq).1), (S q hq).2.2.2.other W (N q hq).2⟩
theorem Sgs.keep {L : List (Addr × Addr × List Value)} {x : Addr} (S : Sgs Z h L) (K : Keep h h' [x]) (N : Nes L x) : Sgs Z h' L := fun q hq => ⟨(S q hq).1.keep K, (S q hq).2.1.keep K (ninS (N q hq).1 nin0), (S q hq).2.2.1.keep K (ninS (N q hq).1 nin0), (S q hq).2.2.2.keep K (ninS (N q hq).2 nin0)⟩
theorem Sgs.nil : Sgs Z h [] := fun _ hq => by cases hq
theorem Nes.nil {x : Addr} : Nes [] x := fun _ hq => by cases hq
theorem Sgs.cons {L : List (Addr × Addr × List Value)} {b : Addr} {vs : List Value} (S : Sgs Z h L) (r1 : Exa Z h a "java/lang/String") (r2 : Fld Z h a "java/lang/String" "coder" "B" (.int 0)) (r3 : Fld Z h a "java/lang/String" "value" "[B" (.ref b)) (r4 : La Z h b .byte vs) : Sgs Z h ((a, b, vs) :: L) := fun q hq => by
  rcases List.mem_cons.mp hq with rfl | hq
  · exact ⟨r1, r2, r3, r4⟩
  · exact S q hq
theorem Nes.cons {L : List (Addr × Addr × List Value)} {b x : Addr} {vs : List Value} (S : Nes L x) (r : x ≠ a ∧ x ≠ b) : Nes ((a, b, vs) :: L) x := fun q hq => by
  rcases List.mem_cons.mp hq with rfl | hq
  · exact ⟨Ne.symm r.1, Ne.symm r.2⟩
  · exact S q hq
theorem Sgs.ne {L : List (Addr × Addr × List Value)} {x : Addr} (S : Sgs Z h L) (hx : h.size ≤ x) : Nes L x := fun q hq => ⟨Nat.ne_of_lt (Nat.lt_of_lt_of_le (S q hq).1.lt hx), Nat.ne_of_lt (Nat.lt_of_lt_of_le (S q hq).2.2.2.lt hx)⟩
end Wide3

abbrev own_F (Z : State) (h : Heap) (a : Addr) (md : Addr) (rn : Int32) (wd : Int64) (bk br : Int32) (sb : Int64) (cm : Int32) : Prop :=
  Exa Z h a "com/example/plantilla/plantilla/ScriptText" ∧ Fld Z h a "com/example/plantilla/plantilla/ScriptText" "mode" "Lcom/example/plantilla/plantilla/ScriptText$Mode;" (.ref md) ∧ Fld Z h a "com/example/plantilla/plantilla/ScriptText" "regexNext" "Z" (.int rn) ∧ Fld Z h a "com/example/plantilla/plantilla/ScriptText" "word" "J" (.long wd) ∧ Fld Z h a "com/example/plantilla/plantilla/ScriptText" "backslash" "Z" (.int bk) ∧ Fld Z h a "com/example/plantilla/plantilla/ScriptText" "braces" "I" (.int br) ∧ Fld Z h a "com/example/plantilla/plantilla/ScriptText" "substitutions" "J" (.long sb) ∧ Fld Z h a "com/example/plantilla/plantilla/ScriptText" "commentStart" "I" (.int cm)
abbrev own_Sr : Type := Int32 × Int64 × Int32 × Int32 × Int64 × Int32
abbrev own_Sv : Type := Addr × own_Sr
abbrev own_S (Z : State) (h : Heap) (a : Addr) (q : own_Sv) : Prop := own_F Z h a q.1 q.2.1 q.2.2.1 q.2.2.2.1 q.2.2.2.2.1 q.2.2.2.2.2.1 q.2.2.2.2.2.2
def own_LT : List Value := [.int 60, .int 33, .int 45, .int 45]
def own_E (Z : State) (mc ms mt md be : Addr) (cs : Int32) (fv : Value) : Prop :=
  Sta Z Z.heap "com/example/plantilla/plantilla/ScriptText$Mode" "CODE" "Lcom/example/plantilla/plantilla/ScriptText$Mode;" (.ref mc) ∧ Sta Z Z.heap "com/example/plantilla/plantilla/ScriptText$Mode" "SINGLE_QUOTED" "Lcom/example/plantilla/plantilla/ScriptText$Mode;" (.ref ms) ∧ Sta Z Z.heap "com/example/plantilla/plantilla/ScriptText$Mode" "TEMPLATE" "Lcom/example/plantilla/plantilla/ScriptText$Mode;" (.ref mt) ∧ Sta Z Z.heap "com/example/plantilla/plantilla/ScriptText$Mode" "TEMPLATE_DOLLAR" "Lcom/example/plantilla/plantilla/ScriptText$Mode;" (.ref md) ∧ Exa Z Z.heap mc "com/example/plantilla/plantilla/ScriptText$Mode" ∧ Exa Z Z.heap ms "com/example/plantilla/plantilla/ScriptText$Mode" ∧ Exa Z Z.heap mt "com/example/plantilla/plantilla/ScriptText$Mode" ∧ Exa Z Z.heap md "com/example/plantilla/plantilla/ScriptText$Mode" ∧ Fld Z Z.heap mc "java/lang/Enum" "ordinal" "I" (.int 0) ∧ Fld Z Z.heap ms "java/lang/Enum" "ordinal" "I" (.int 2) ∧ Fld Z Z.heap mt "java/lang/Enum" "ordinal" "I" (.int 4) ∧ Fld Z Z.heap md "java/lang/Enum" "ordinal" "I" (.int 5) ∧ Sta Z Z.heap "com/example/plantilla/plantilla/ScriptText" "BEFORE_EXPRESSIONS" "[J" (.ref be) ∧ La Z Z.heap be .long [.long 19416568974, .long 21898482630, .long 166155174841963462, .long 590, .long 966, .long 57687, .long 4382020869, .long 5829188, .long 337716183, .long 791749, .long 271, .long 1361093, .long 421810948, .long 22811220] ∧ ¬ cs = 0 ∧ Sta Z Z.heap "java/lang/String" "COMPACT_STRINGS" "Z" (.int cs) ∧ fv.isRef = true ∧ Sta Z Z.heap "jdk/internal/util/Preconditions" "SIOOBE_FORMATTER" "Ljava/util/function/BiFunction;" fv
def own_asc (bs : List Int32) : Prop := ∀ z ∈ bs, 0 ≤ z.toInt ∧ z.toInt < 128
theorem own_nc {c : Int32} (h0 : 0 ≤ c.toInt) (h1 : c.toInt < 128) : nar .char c = c := by
  have e1 := c_i2c c
  apply i_eq
  show c.toUInt32.toUInt16.toUInt32.toInt32.toInt = c.toInt
  omega
theorem own_ca {c : Int32} (h0 : 0 ≤ c.toInt) (h1 : c.toInt < 128) : (c &&& 255).toUInt32.toUInt16.toUInt32.toInt32 = c := by
  have e := c_mask c 255 8 (by decide) (by decide)
  have e1 : (c &&& 255) = c := i_eq (by omega)
  rw [e1]
  exact own_nc h0 h1
theorem own_at_ok {xs : List Int32} {i : Int32} (h : own_asc xs) (h0 : 0 ≤ i.toInt) (h1 : i.toInt < xs.length) : 0 ≤ (at32 xs i).toInt ∧ (at32 xs i).toInt < 128 := by
  have e := clamp_eq h0
  have hl : i.toNatClampNeg < xs.length := by omega
  have q : at32 xs i = xs[i.toNatClampNeg] := by unfold at32; simp [hl]
  rw [q]
  exact h _ (List.getElem_mem hl)
theorem own_l32 {n : Nat} (h : n < 2 ^ 31) : n.toInt32.toInt = n := Int32.toInt_ofNat_of_lt h
theorem own_shr (x : Int32) : x >>> ((0 : Int32) &&& 31) = x := by simp
theorem own_drop {xs : List Int32} {i : Int32} (h0 : 0 ≤ i.toInt) (h1 : i.toInt < xs.length) (hl : xs.length < 2 ^ 31) : xs.drop i.toNatClampNeg = at32 xs i :: xs.drop (i + 1).toNatClampNeg := by
  have e := clamp_eq h0
  have e1 : (i + 1).toInt = i.toInt + 1 := i_add rfl rfl (by omega) (by omega)
  have e2 := clamp_eq (j := i + 1) (by omega)
  have hl : i.toNatClampNeg < xs.length := by omega
  have q : at32 xs i = xs[i.toNatClampNeg] := by unfold at32; simp [hl]
  have q2 : (i + 1).toNatClampNeg = i.toNatClampNeg + 1 := by omega
  rw [q, q2]
  exact List.drop_eq_getElem_cons hl
def own_code (c : Int32) : Int32 := (c - (97 : Int32)) + (1 : Int32)
def own_ap (w : Int64) (c : Int32) : Int64 := (w <<< ((6 : Int32) &&& 0x3f).toInt64) ||| (own_code c).toInt64
theorem own_cne {c : Int32} (hc : 97 ≤ c.toInt ∧ c.toInt ≤ 122) (q : (own_code c).toInt64 = 0) : False := by
  have e1 := i_sub (a := c) (b := 97) (y := 97) rfl rfl (by omega) (by omega)
  have e2 := i_add (b := 1) (y := 1) e1 rfl (by omega) (by omega)
  have e3 := c_i2l (own_code c)
  rw [q] at e3
  have e4 : (0 : Int64).toInt = 0 := rfl
  have e5 : (own_code c).toInt = c.toInt - 97 + 1 := e2
  omega
theorem own_la (x : Int64) : (0 : Int64) &&& x = 0 := by simp
theorem own_60 {c : Int32} (hc : 97 ≤ c.toInt ∧ c.toInt ≤ 122) (q : c = 60) : False := by
  have e := congrArg Int32.toInt q
  have z : (60 : Int32).toInt = 60 := rfl
  omega
theorem d6_0 : decode jdk_42_method_152_code 0 = .ok (.getstatic 38, 3) := by decide +kernel
theorem d6_3 : decode jdk_42_method_152_code 3 = .ok (.ifCond .eq 10, 3) := by decide +kernel
theorem d6_6 : decode jdk_42_method_152_code 6 = .ok (.aload_n 0, 1) := by decide +kernel
theorem d6_7 : decode jdk_42_method_152_code 7 = .ok (.getfield 15, 3) := by decide +kernel
theorem d6_10 : decode jdk_42_method_152_code 10 = .ok (.goto 4, 3) := by decide +kernel
theorem d6_14 : decode jdk_42_method_152_code 14 = .ok (.ireturn, 1) := by decide +kernel
theorem pn_java_lang_String : plainName "java/lang/String" = true := by first | (simp [plainName, overriddenIn]; done) | decide +kernel
theorem ef_own_cod (m : MethodId) (sa : Addr)  : entryFrame m #[(.ref sa)] 1 = mkF m 0 #[rv sa] [] := by
  first | (simp [entryFrame, mkF, argsToLocals, Value.category]; done) | rfl
set_option maxRecDepth 65536 in
set_option maxHeartbeats 40000000 in
theorem own_cod (l : Launch) (Z : State) (a0 : Array Value) (hw : ∀ d ∈ tables_1, d.before a0 Z = true) (sa : Addr) (cs : Int32) (fv : Value) (h : Heap) (n0 : Nat) (hn0 : Old Z n0 h) (G1 : Fld Z h sa "java/lang/String" "coder" "B" (.int 0)) (hcs : ¬ cs = 0) (S1 : Sta Z Z.heap "java/lang/String" "COMPACT_STRINGS" "Z" (.int cs)) (hfv : fv.isRef = true) (S2 : Sta Z Z.heap "jdk/internal/util/Preconditions" "SIOOBE_FORMATTER" "Ljava/util/function/BiFunction;" fv) :
    Con l Z (⟨"java/lang/String", "coder", "()B"⟩ : MethodName) jdk_42_method_152_code 1 (some .byte) ({ frames := 0, cells := 0, slots := 0, locals := 0 } : Room) #[(.ref sa)] h n0 (fun v h' => v = some (.int 0) ∧ h = h') := by
  refine con_of hw (plainFor_of_name pn_java_lang_String) hn0 ?_
  intro p e s m below meth c T0 C X0
  refine Go.cast (congrArg T0.setTop (ef_own_cod m sa)) ?_
  refine go_getS C X0 (C.w 74 rfl) (S1.ext X0.old.2) (pc' := 3) rfl d6_0 (fun T1 X2 => ?_)
  refine go_if_eq C X2 d6_3 (pc' := 6) (pc2 := 13) rfl (by decide) (by decide) (fun (c3 : cs = (0 : Int32)) => False.elim (hcs c3)) (fun (c3 : ¬ cs = (0 : Int32)) => ?_)
  refine go_aloadN C X2 7 rfl d6_6 rfl rfl ?_
  refine go_getF C X2 (C.w 75 rfl) Via.refl G1 (pc' := 10) rfl d6_7 (fun T3 X4 => ?_)
  refine go_goto C X4 d6_10 (pc' := 14) (by decide) (by decide) ?_
  exact go_retN C X4 (by simp) (z' := 0) rfl d6_14 ⟨rfl, rfl⟩ (by decide) (by decide)
theorem d8_0 : decode jdk_42_method_154_code 0 = .ok (.getstatic 38, 3) := by decide +kernel
theorem d8_3 : decode jdk_42_method_154_code 3 = .ok (.ifCond .eq 14, 3) := by decide +kernel
theorem d8_6 : decode jdk_42_method_154_code 6 = .ok (.aload_n 0, 1) := by decide +kernel
theorem d8_7 : decode jdk_42_method_154_code 7 = .ok (.getfield 15, 3) := by decide +kernel
theorem d8_10 : decode jdk_42_method_154_code 10 = .ok (.ifCond .ne 7, 3) := by decide +kernel
theorem d8_13 : decode jdk_42_method_154_code 13 = .ok (.iconst 1, 1) := by decide +kernel
theorem d8_14 : decode jdk_42_method_154_code 14 = .ok (.goto 4, 3) := by decide +kernel
theorem d8_18 : decode jdk_42_method_154_code 18 = .ok (.ireturn, 1) := by decide +kernel
theorem ef_own_lat (m : MethodId) (sa : Addr)  : entryFrame m #[(.ref sa)] 1 = mkF m 0 #[rv sa] [] := by
  first | (simp [entryFrame, mkF, argsToLocals, Value.category]; done) | rfl
set_option maxRecDepth 65536 in
set_option maxHeartbeats 40000000 in
theorem own_lat (l : Launch) (Z : State) (a0 : Array Value) (hw : ∀ d ∈ tables_1, d.before a0 Z = true) (sa : Addr) (cs : Int32) (fv : Value) (h : Heap) (n0 : Nat) (hn0 : Old Z n0 h) (G1 : Fld Z h sa "java/lang/String" "coder" "B" (.int 0)) (hcs : ¬ cs = 0) (S1 : Sta Z Z.heap "java/lang/String" "COMPACT_STRINGS" "Z" (.int cs)) (hfv : fv.isRef = true) (S2 : Sta Z Z.heap "jdk/internal/util/Preconditions" "SIOOBE_FORMATTER" "Ljava/util/function/BiFunction;" fv) :
    Con l Z (⟨"java/lang/String", "isLatin1", "()Z"⟩ : MethodName) jdk_42_method_154_code 1 (some .boolean) ({ frames := 0, cells := 0, slots := 0, locals := 0 } : Room) #[(.ref sa)] h n0 (fun v h' => v = some (.int 1) ∧ h = h') := by
  refine con_of hw (plainFor_of_name pn_java_lang_String) hn0 ?_
  intro p e s m below meth c T0 C X0
  refine Go.cast (congrArg T0.setTop (ef_own_lat m sa)) ?_
  refine go_getS C X0 (C.w 74 rfl) (S1.ext X0.old.2) (pc' := 3) rfl d8_0 (fun T1 X2 => ?_)
  refine go_if_eq C X2 d8_3 (pc' := 6) (pc2 := 17) rfl (by decide) (by decide) (fun (c3 : cs = (0 : Int32)) => False.elim (hcs c3)) (fun (c3 : ¬ cs = (0 : Int32)) => ?_)
  refine go_aloadN C X2 7 rfl d8_6 rfl rfl ?_
  refine go_getF C X2 (C.w 75 rfl) Via.refl G1 (pc' := 10) rfl d8_7 (fun T3 X4 => ?_)
  refine go_if_ne C X4 d8_10 (pc' := 13) (pc2 := 17) rfl (by decide) (by decide) (fun (c10 : ¬ (0 : Int32) = (0 : Int32)) => False.elim (by first | omega | exact absurd c10 (by decide))) (fun (c10 : (0 : Int32) = (0 : Int32)) => ?_)
  refine go_iconst C X4 14 rfl d8_13 (z := 1) rfl ?_
  refine go_goto C X4 d8_14 (pc' := 18) (by decide) (by decide) ?_
  exact go_retN C X4 (by simp) (z' := 1) rfl d8_18 ⟨rfl, rfl⟩ (by decide) (by decide)
theorem d5_0 : decode jdk_42_method_54_code 0 = .ok (.aload_n 0, 1) := by decide +kernel
theorem d5_1 : decode jdk_42_method_54_code 1 = .ok (.getfield 9, 3) := by decide +kernel
theorem d5_4 : decode jdk_42_method_54_code 4 = .ok (.arraylength, 1) := by decide +kernel
theorem d5_5 : decode jdk_42_method_54_code 5 = .ok (.aload_n 0, 1) := by decide +kernel
theorem pd_0 : parseMethodDescriptor "()B" = some ⟨[], some .byte⟩ := by decide +kernel
theorem d5_6 : decode jdk_42_method_54_code 6 = .ok (.invokevirtual 335, 3) := by decide +kernel
theorem d5_9 : decode jdk_42_method_54_code 9 = .ok (.ishr, 1) := by decide +kernel
theorem d5_10 : decode jdk_42_method_54_code 10 = .ok (.ireturn, 1) := by decide +kernel
theorem ef_own_len (m : MethodId) (sa : Addr)  : entryFrame m #[(.ref sa)] 1 = mkF m 0 #[rv sa] [] := by
  first | (simp [entryFrame, mkF, argsToLocals, Value.category]; done) | rfl
set_option maxRecDepth 65536 in
set_option maxHeartbeats 40000000 in
theorem own_len (l : Launch) (Z : State) (a0 : Array Value) (hw : ∀ d ∈ tables_1, d.before a0 Z = true) (sa : Addr) (sb : Addr) (bs : List Int32) (z : Int32) (cs : Int32) (fv : Value) (h : Heap) (n0 : Nat) (hn0 : Old Z n0 h) (ES : Exa Z h sa "java/lang/String") (G1 : Fld Z h sa "java/lang/String" "coder" "B" (.int 0)) (G2 : Fld Z h sa "java/lang/String" "value" "[B" (.ref sb)) (AS : La Z h sb .byte (ia bs)) (hz : bs.length.toInt32 = z) (hcs : ¬ cs = 0) (S1 : Sta Z Z.heap "java/lang/String" "COMPACT_STRINGS" "Z" (.int cs)) (hfv : fv.isRef = true) (S2 : Sta Z Z.heap "jdk/internal/util/Preconditions" "SIOOBE_FORMATTER" "Ljava/util/function/BiFunction;" fv) :
    Con l Z (⟨"java/lang/String", "length", "()I"⟩ : MethodName) jdk_42_method_54_code 1 (some .int) ({ frames := 1, cells := 0, slots := 0, locals := 13 } : Room) #[(.ref sa)] h n0 (fun v h' => v = some (.int z) ∧ h = h') := by
  refine con_of hw (plainFor_of_name pn_java_lang_String) hn0 ?_
  intro p e s m below meth c T0 C X0
  refine Go.cast (congrArg T0.setTop (ef_own_len m sa)) ?_
  refine go_aloadN C X0 1 rfl d5_0 rfl rfl ?_
  refine go_getF C X0 (C.w 68 rfl) Via.refl G2 (pc' := 4) rfl d5_1 (fun T1 X2 => ?_)
  refine go_alen C X2 AS (z := z) (by rw [ia_len]; exact hz) (pc' := 5) rfl d5_4 ?_
  refine go_aloadN C X2 6 rfl d5_5 rfl rfl ?_
  refine go_virtual C X2 ES (C.w 69 rfl) (C.w 70 rfl) (notFace_of_selects (args := #[]) (mvT C.hZ (C.w 72 rfl))) (C.w 72 rfl) (C.w 71 rfl) (C.w 3 rfl) (C.w 73 rfl) (own_cod l Z a0 C.ws sa cs fv h n0 X2.old G1 hcs S1 hfv S2) (argsL := []) (rest := [(.int z)]) (lenOf pd_0 rfl) rfl (by decide) (by decide) (Nat.le_of_ble_eq_true rfl) (by decide) (by decide) rfl rfl (pc' := 9) rfl d5_6 ?_
  rintro T3 _ _ ⟨rfl, rfl⟩ X4
  show Go p e below _ (T3.setTop (mkF m 9 #[rv sa] [(.int (0 : Int32)), (.int z)]))
  refine go_ishr C X4 10 rfl d5_9 ?_
  rw [own_shr]
  exact go_retI C X4 d5_10 ⟨rfl, rfl⟩ (by decide) (by decide)
theorem d11_0 : decode jdk_41_method_11_code 0 = .ok (.iload_n 0, 1) := by decide +kernel
theorem d11_1 : decode jdk_41_method_11_code 1 = .ok (.ifCond .lt 8, 3) := by decide +kernel
theorem d11_4 : decode jdk_41_method_11_code 4 = .ok (.iload_n 0, 1) := by decide +kernel
theorem d11_5 : decode jdk_41_method_11_code 5 = .ok (.iload_n 1, 1) := by decide +kernel
theorem d11_6 : decode jdk_41_method_11_code 6 = .ok (.if_icmp .lt 10, 3) := by decide +kernel
theorem d11_16 : decode jdk_41_method_11_code 16 = .ok (.iload_n 0, 1) := by decide +kernel
theorem d11_17 : decode jdk_41_method_11_code 17 = .ok (.ireturn, 1) := by decide +kernel
theorem pn_jdk_internal_util_Preconditions : plainName "jdk/internal/util/Preconditions" = true := by first | (simp [plainName, overriddenIn]; done) | decide +kernel
theorem ef_own_pc (m : MethodId) (i : Int32) (n : Int32) (fv : Value) (hfv : fv.isRef = true) : entryFrame m #[(.int i), (.int n), fv] 3 = mkF m 0 #[iv i, iv n, .val fv] [] := by
  cases fv <;> first | (cases hfv; done) | skip
  all_goals first | (simp [entryFrame, mkF, argsToLocals, Value.category]; done) | rfl
set_option maxRecDepth 65536 in
set_option maxHeartbeats 40000000 in
theorem own_pc (l : Launch) (Z : State) (a0 : Array Value) (hw : ∀ d ∈ tables_1, d.before a0 Z = true) (i : Int32) (n : Int32) (fv : Value)  (h : Heap) (n0 : Nat) (hn0 : Old Z n0 h) (hfv : fv.isRef = true) (h0 : 0 ≤ i.toInt) (h1 : i.toInt < n.toInt) :
    Con l Z (⟨"jdk/internal/util/Preconditions", "checkIndex", "(IILjava/util/function/BiFunction;)I"⟩ : MethodName) jdk_41_method_11_code 3 (some .int) ({ frames := 0, cells := 0, slots := 0, locals := 0 } : Room) #[(.int i), (.int n), fv] h n0 (fun v h' => v = some (.int i) ∧ h = h') := by
  refine con_of hw (plainFor_of_name pn_jdk_internal_util_Preconditions) hn0 ?_
  intro p e s m below meth c T0 C X0
  refine Go.cast (congrArg T0.setTop (ef_own_pc m i n fv hfv)) ?_
  refine go_iloadN C X0 1 rfl d11_0 rfl ?_
  refine go_if_lt C X0 d11_1 (pc' := 4) (pc2 := 9) rfl (by decide) (by decide) (fun (c1 : i.toInt < 0) => False.elim (by omega)) (fun (c1 : 0 ≤ i.toInt) => ?_)
  refine go_iloadN C X0 5 rfl d11_4 rfl ?_
  refine go_iloadN C X0 6 rfl d11_5 rfl ?_
  refine go_icmp_lt C X0 d11_6 (pc' := 9) (pc2 := 16) rfl (by decide) (by decide) (fun (c6 : i.toInt < n.toInt) => ?_) (fun (c6 : n.toInt ≤ i.toInt) => False.elim (by omega))
  refine go_iloadN C X0 17 rfl d11_16 rfl ?_
  exact go_retI C X0 d11_17 ⟨rfl, rfl⟩ (by decide) (by decide)
theorem d10_0 : decode jdk_42_method_155_code 0 = .ok (.iload_n 0, 1) := by decide +kernel
theorem d10_1 : decode jdk_42_method_155_code 1 = .ok (.iload_n 1, 1) := by decide +kernel
theorem d10_2 : decode jdk_42_method_155_code 2 = .ok (.getstatic 1053, 3) := by decide +kernel
theorem pd_1 : parseMethodDescriptor "(IILjava/util/function/BiFunction;)I" = some ⟨[.int, .int, (.object "java/util/function/BiFunction")], some .int⟩ := by decide +kernel
theorem d10_5 : decode jdk_42_method_155_code 5 = .ok (.invokestatic 1059, 3) := by decide +kernel
theorem d10_8 : decode jdk_42_method_155_code 8 = .ok (.pop, 1) := by decide +kernel
theorem d10_9 : decode jdk_42_method_155_code 9 = .ok (.return_, 1) := by decide +kernel
theorem ef_own_sc (m : MethodId) (i : Int32) (n : Int32)  : entryFrame m #[(.int i), (.int n)] 2 = mkF m 0 #[iv i, iv n] [] := by
  first | (simp [entryFrame, mkF, argsToLocals, Value.category]; done) | rfl
set_option maxRecDepth 65536 in
set_option maxHeartbeats 40000000 in
theorem own_sc (l : Launch) (Z : State) (a0 : Array Value) (hw : ∀ d ∈ tables_1, d.before a0 Z = true) (i : Int32) (n : Int32) (cs : Int32) (fv : Value) (h : Heap) (n0 : Nat) (hn0 : Old Z n0 h) (h0 : 0 ≤ i.toInt) (h1 : i.toInt < n.toInt) (hcs : ¬ cs = 0) (S1 : Sta Z Z.heap "java/lang/String" "COMPACT_STRINGS" "Z" (.int cs)) (hfv : fv.isRef = true) (S2 : Sta Z Z.heap "jdk/internal/util/Preconditions" "SIOOBE_FORMATTER" "Ljava/util/function/BiFunction;" fv) :
    Con l Z (⟨"java/lang/String", "checkIndex", "(II)V"⟩ : MethodName) jdk_42_method_155_code 2 none ({ frames := 1, cells := 0, slots := 0, locals := 14 } : Room) #[(.int i), (.int n)] h n0 (fun v h' => v = none ∧ h = h') := by
  refine con_of hw (plainFor_of_name pn_java_lang_String) hn0 ?_
  intro p e s m below meth c T0 C X0
  refine Go.cast (congrArg T0.setTop (ef_own_sc m i n)) ?_
  refine go_iloadN C X0 1 rfl d10_0 rfl ?_
  refine go_iloadN C X0 2 rfl d10_1 rfl ?_
  refine go_getS C X0 (C.w 93 rfl) (S2.ext X0.old.2) (pc' := 5) rfl d10_2 (fun T1 X2 => ?_)
  refine go_callS C X2 (C.w 95 rfl) (C.w 96 rfl) (C.w 94 rfl) (C.w 97 rfl) (own_pc l Z a0 C.ws i n fv h n0 X2.old hfv h0 h1) (argsL := [(.int i), (.int n), fv]) (rest := []) (lenOf pd_1 rfl) rfl (by decide) (by decide) (Nat.le_of_ble_eq_true rfl) (by decide) (by decide) rfl rfl (pc' := 8) rfl d10_5 ?_
  rintro T3 _ _ ⟨rfl, rfl⟩ X4
  show Go p e below _ (T3.setTop (mkF m 8 #[iv i, iv n] [(.int i)]))
  refine go_pop C X4 9 rfl d10_8 rfl ?_
  exact go_ret0 C X4 d10_9 ⟨rfl, rfl⟩ (by decide) (by decide)
theorem d9_0 : decode jdk_43_method_2_code 0 = .ok (.iload_n 1, 1) := by decide +kernel
theorem d9_1 : decode jdk_43_method_2_code 1 = .ok (.aload_n 0, 1) := by decide +kernel
theorem d9_2 : decode jdk_43_method_2_code 2 = .ok (.arraylength, 1) := by decide +kernel
theorem pd_2 : parseMethodDescriptor "(II)V" = some ⟨[.int, .int], none⟩ := by decide +kernel
theorem d9_3 : decode jdk_43_method_2_code 3 = .ok (.invokestatic 9, 3) := by decide +kernel
theorem d9_6 : decode jdk_43_method_2_code 6 = .ok (.aload_n 0, 1) := by decide +kernel
theorem d9_7 : decode jdk_43_method_2_code 7 = .ok (.iload_n 1, 1) := by decide +kernel
theorem d9_8 : decode jdk_43_method_2_code 8 = .ok (.baload, 1) := by decide +kernel
theorem d9_9 : decode jdk_43_method_2_code 9 = .ok (.sipush 255, 3) := by decide +kernel
theorem d9_12 : decode jdk_43_method_2_code 12 = .ok (.iand, 1) := by decide +kernel
theorem d9_13 : decode jdk_43_method_2_code 13 = .ok (.i2c, 1) := by decide +kernel
theorem d9_14 : decode jdk_43_method_2_code 14 = .ok (.ireturn, 1) := by decide +kernel
theorem pn_java_lang_StringLatin1 : plainName "java/lang/StringLatin1" = true := by first | (simp [plainName, overriddenIn]; done) | decide +kernel
theorem ef_own_lch (m : MethodId) (sb : Addr) (i : Int32)  : entryFrame m #[(.ref sb), (.int i)] 2 = mkF m 0 #[rv sb, iv i] [] := by
  first | (simp [entryFrame, mkF, argsToLocals, Value.category]; done) | rfl
set_option maxRecDepth 65536 in
set_option maxHeartbeats 40000000 in
theorem own_lch (l : Launch) (Z : State) (a0 : Array Value) (hw : ∀ d ∈ tables_1, d.before a0 Z = true) (sb : Addr) (i : Int32) (bs : List Int32) (cs : Int32) (fv : Value) (h : Heap) (n0 : Nat) (hn0 : Old Z n0 h) (AS : La Z h sb .byte (ia bs)) (hb : own_asc bs) (hi : 0 ≤ i.toInt ∧ i.toInt < bs.length) (hcs : ¬ cs = 0) (S1 : Sta Z Z.heap "java/lang/String" "COMPACT_STRINGS" "Z" (.int cs)) (hfv : fv.isRef = true) (S2 : Sta Z Z.heap "jdk/internal/util/Preconditions" "SIOOBE_FORMATTER" "Ljava/util/function/BiFunction;" fv) :
    Con l Z (⟨"java/lang/StringLatin1", "charAt", "([BI)C"⟩ : MethodName) jdk_43_method_2_code 2 (some .char) ({ frames := 2, cells := 0, slots := 0, locals := 27 } : Room) #[(.ref sb), (.int i)] h n0 (fun v h' => v = some (.int (at32 bs i)) ∧ h = h') := by
  refine con_of hw (plainFor_of_name pn_java_lang_StringLatin1) hn0 ?_
  intro p e s m below meth c T0 C X0
  refine Go.cast (congrArg T0.setTop (ef_own_lch m sb i)) ?_
  have hl31 := AS.len
  rw [ia_len] at hl31
  have ho := own_at_ok hb hi.1 hi.2
  refine go_iloadN C X0 1 rfl d9_0 rfl ?_
  refine go_aloadN C X0 2 rfl d9_1 rfl rfl ?_
  refine go_alen C X0 AS (z := bs.length.toInt32) (by rw [ia_len]) (pc' := 3) rfl d9_2 ?_
  refine go_callS C X0 (C.w 90 rfl) (C.w 91 rfl) (C.w 3 rfl) (C.w 92 rfl) (own_sc l Z a0 C.ws i bs.length.toInt32 cs fv h n0 X0.old hi.1 (by rw [own_l32 hl31]; exact hi.2) hcs S1 hfv S2) (argsL := [(.int i), (.int bs.length.toInt32)]) (rest := []) (lenOf pd_2 rfl) rfl (by decide) (by decide) (Nat.le_of_ble_eq_true rfl) (by decide) (by decide) rfl rfl (pc' := 6) rfl d9_3 ?_
  rintro T1 _ _ ⟨rfl, rfl⟩ X2
  show Go p e below _ (T1.setTop (mkF m 6 #[rv sb, iv i] []))
  refine go_aloadN C X2 7 rfl d9_6 rfl rfl ?_
  refine go_iloadN C X2 8 rfl d9_7 rfl ?_
  refine go_baloadBytes C X2 AS hi.1 (v := (.int (at32 bs i))) (ia_at hi.1 hi.2) (pc' := 9) rfl d9_8 ?_
  refine go_sipush C X2 12 rfl d9_9 (z := 255) rfl ?_
  refine go_iand C X2 13 rfl d9_12 ?_
  refine go_i2c C X2 14 rfl d9_13 ?_
  rw [own_ca ho.1 ho.2]
  exact go_retN C X2 (by simp) (z' := at32 bs i) (own_nc ho.1 ho.2) d9_14 ⟨rfl, rfl⟩ (by decide) (by decide)
theorem d7_0 : decode jdk_42_method_56_code 0 = .ok (.aload_n 0, 1) := by decide +kernel
theorem pd_3 : parseMethodDescriptor "()Z" = some ⟨[], some .boolean⟩ := by decide +kernel
theorem d7_1 : decode jdk_42_method_56_code 1 = .ok (.invokevirtual 492, 3) := by decide +kernel
theorem d7_4 : decode jdk_42_method_56_code 4 = .ok (.ifCond .eq 12, 3) := by decide +kernel
theorem d7_7 : decode jdk_42_method_56_code 7 = .ok (.aload_n 0, 1) := by decide +kernel
theorem d7_8 : decode jdk_42_method_56_code 8 = .ok (.getfield 9, 3) := by decide +kernel
theorem d7_11 : decode jdk_42_method_56_code 11 = .ok (.iload_n 1, 1) := by decide +kernel
theorem pd_4 : parseMethodDescriptor "([BI)C" = some ⟨[(.array .byte), .int], some .char⟩ := by decide +kernel
theorem d7_12 : decode jdk_42_method_56_code 12 = .ok (.invokestatic 495, 3) := by decide +kernel
theorem d7_15 : decode jdk_42_method_56_code 15 = .ok (.ireturn, 1) := by decide +kernel
theorem ef_own_chr (m : MethodId) (sa : Addr) (i : Int32)  : entryFrame m #[(.ref sa), (.int i)] 2 = mkF m 0 #[rv sa, iv i] [] := by
  first | (simp [entryFrame, mkF, argsToLocals, Value.category]; done) | rfl
set_option maxRecDepth 65536 in
set_option maxHeartbeats 40000000 in
theorem own_chr (l : Launch) (Z : State) (a0 : Array Value) (hw : ∀ d ∈ tables_1, d.before a0 Z = true) (sa : Addr) (i : Int32) (sb : Addr) (bs : List Int32) (cs : Int32) (fv : Value) (h : Heap) (n0 : Nat) (hn0 : Old Z n0 h) (ES : Exa Z h sa "java/lang/String") (G1 : Fld Z h sa "java/lang/String" "coder" "B" (.int 0)) (G2 : Fld Z h sa "java/lang/String" "value" "[B" (.ref sb)) (AS : La Z h sb .byte (ia bs)) (hb : own_asc bs) (hi : 0 ≤ i.toInt ∧ i.toInt < bs.length) (hcs : ¬ cs = 0) (S1 : Sta Z Z.heap "java/lang/String" "COMPACT_STRINGS" "Z" (.int cs)) (hfv : fv.isRef = true) (S2 : Sta Z Z.heap "jdk/internal/util/Preconditions" "SIOOBE_FORMATTER" "Ljava/util/function/BiFunction;" fv) :
    Con l Z (⟨"java/lang/String", "charAt", "(I)C"⟩ : MethodName) jdk_42_method_56_code 2 (some .char) ({ frames := 3, cells := 0, slots := 0, locals := 40 } : Room) #[(.ref sa), (.int i)] h n0 (fun v h' => v = some (.int (at32 bs i)) ∧ h = h') := by
  refine con_of hw (plainFor_of_name pn_java_lang_String) hn0 ?_
  intro p e s m below meth c T0 C X0
  refine Go.cast (congrArg T0.setTop (ef_own_chr m sa i)) ?_
  have ho := own_at_ok hb hi.1 hi.2
  refine go_aloadN C X0 1 rfl d7_0 rfl rfl ?_
  refine go_virtual C X0 ES (C.w 81 rfl) (C.w 82 rfl) (notFace_of_selects (args := #[]) (mvT C.hZ (C.w 84 rfl))) (C.w 84 rfl) (C.w 83 rfl) (C.w 3 rfl) (C.w 85 rfl) (own_lat l Z a0 C.ws sa cs fv h n0 X0.old G1 hcs S1 hfv S2) (argsL := []) (rest := []) (lenOf pd_3 rfl) rfl (by decide) (by decide) (Nat.le_of_ble_eq_true rfl) (by decide) (by decide) rfl rfl (pc' := 4) rfl d7_1 ?_
  rintro T1 _ _ ⟨rfl, rfl⟩ X2
  show Go p e below _ (T1.setTop (mkF m 4 #[rv sa, iv i] [(.int (1 : Int32))]))
  refine go_if_eq C X2 d7_4 (pc' := 7) (pc2 := 16) rfl (by decide) (by decide) (fun (c4 : (1 : Int32) = (0 : Int32)) => False.elim (by first | omega | exact absurd c4 (by decide))) (fun (c4 : ¬ (1 : Int32) = (0 : Int32)) => ?_)
  refine go_aloadN C X2 8 rfl d7_7 rfl rfl ?_
  refine go_getF C X2 (C.w 68 rfl) Via.refl G2 (pc' := 11) rfl d7_8 (fun T4 X5 => ?_)
  refine go_iloadN C X5 12 rfl d7_11 rfl ?_
  refine go_callS C X5 (C.w 86 rfl) (C.w 87 rfl) (C.w 88 rfl) (C.w 89 rfl) (own_lch l Z a0 C.ws sb i bs cs fv h n0 X5.old AS hb hi hcs S1 hfv S2) (argsL := [(.ref sb), (.int i)]) (rest := []) (lenOf pd_4 rfl) rfl (by decide) (by decide) (Nat.le_of_ble_eq_true rfl) (by decide) (by decide) rfl rfl (pc' := 15) rfl d7_12 ?_
  rintro T6 _ _ ⟨rfl, rfl⟩ X7
  show Go p e below _ (T6.setTop (mkF m 15 #[rv sa, iv i] [(.int (at32 bs i))]))
  exact go_retN C X7 (by simp) (z' := at32 bs i) (own_nc ho.1 ho.2) d7_15 ⟨rfl, rfl⟩ (by decide) (by decide)
theorem d20_0 : decode prog_35_method_2_code 0 = .ok (.iload_n 2, 1) := by decide +kernel
theorem d21_0 : decode prog_35_method_5_code 0 = .ok (.iload_n 0, 1) := by decide +kernel
theorem d21_1 : decode prog_35_method_5_code 1 = .ok (.bipush 97, 2) := by decide +kernel
theorem d21_3 : decode prog_35_method_5_code 3 = .ok (.if_icmp .lt 19, 3) := by decide +kernel
theorem d21_6 : decode prog_35_method_5_code 6 = .ok (.iload_n 0, 1) := by decide +kernel
theorem d21_7 : decode prog_35_method_5_code 7 = .ok (.bipush 122, 2) := by decide +kernel
theorem d21_9 : decode prog_35_method_5_code 9 = .ok (.if_icmp .gt 13, 3) := by decide +kernel
theorem d21_12 : decode prog_35_method_5_code 12 = .ok (.iload_n 0, 1) := by decide +kernel
theorem d21_13 : decode prog_35_method_5_code 13 = .ok (.bipush 97, 2) := by decide +kernel
theorem d21_15 : decode prog_35_method_5_code 15 = .ok (.isub, 1) := by decide +kernel
theorem d21_16 : decode prog_35_method_5_code 16 = .ok (.iconst 1, 1) := by decide +kernel
theorem d21_17 : decode prog_35_method_5_code 17 = .ok (.iadd, 1) := by decide +kernel
theorem d21_18 : decode prog_35_method_5_code 18 = .ok (.istore_n 1, 1) := by decide +kernel
theorem d21_19 : decode prog_35_method_5_code 19 = .ok (.goto 115, 3) := by decide +kernel
theorem d21_134 : decode prog_35_method_5_code 134 = .ok (.iload_n 1, 1) := by decide +kernel
theorem d21_135 : decode prog_35_method_5_code 135 = .ok (.ireturn, 1) := by decide +kernel
theorem pn_com_example_plantilla_plantilla_PackedName : plainName "com/example/plantilla/plantilla/PackedName" = true := by first | (simp [plainName, overriddenIn]; done) | decide +kernel
theorem ef_own_p21_1 (m : MethodId) (cc : Int32)  : entryFrame m #[(.int cc)] 2 = mkF m 0 #[iv cc, un] [] := by
  first | (simp [entryFrame, mkF, argsToLocals, Value.category]; done) | rfl
set_option maxRecDepth 65536 in
set_option maxHeartbeats 40000000 in
theorem own_p21_1 (l : Launch) (Z : State) (a0 : Array Value) (hw : ∀ d ∈ tables_1, d.before a0 Z = true) (cc : Int32)  (h : Heap) (n0 : Nat) (hn0 : Old Z n0 h) (hc : 97 ≤ cc.toInt ∧ cc.toInt ≤ 122) :
    Con l Z (⟨"com/example/plantilla/plantilla/PackedName", "codeOf", "(C)I"⟩ : MethodName) prog_35_method_5_code 2 (some .int) ({ frames := 0, cells := 0, slots := 0, locals := 0 } : Room) #[(.int cc)] h n0 (fun v h' => v = some (.int ((cc - (97 : Int32)) + (1 : Int32))) ∧ h = h') := by
  refine con_of hw (plainFor_of_name pn_com_example_plantilla_plantilla_PackedName) hn0 ?_
  intro p e s m below meth c T0 C X0
  refine Go.cast (congrArg T0.setTop (ef_own_p21_1 m cc)) ?_
  refine go_iloadN C X0 1 rfl d21_0 rfl ?_
  refine go_bipush C X0 3 rfl d21_1 (z := 97) rfl ?_
  refine go_icmp_lt C X0 d21_3 (pc' := 6) (pc2 := 22) rfl (by decide) (by decide) (fun (c3 : cc.toInt < 97) => False.elim (by omega)) (fun (c3 : 97 ≤ cc.toInt) => ?_)
  refine go_iloadN C X0 7 rfl d21_6 rfl ?_
  refine go_bipush C X0 9 rfl d21_7 (z := 122) rfl ?_
  refine go_icmp_gt C X0 d21_9 (pc' := 12) (pc2 := 22) rfl (by decide) (by decide) (fun (c9 : 122 < cc.toInt) => False.elim (by omega)) (fun (c9 : cc.toInt ≤ 122) => ?_)
  refine go_iloadN C X0 13 rfl d21_12 rfl ?_
  refine go_bipush C X0 15 rfl d21_13 (z := 97) rfl ?_
  refine go_isub C X0 16 rfl d21_15 ?_
  refine go_iconst C X0 17 rfl d21_16 (z := 1) rfl ?_
  refine go_iadd C X0 18 rfl d21_17 ?_
  refine go_istoreN C X0 19 rfl d21_18 #[iv cc, iv ((cc - (97 : Int32)) + (1 : Int32))] rfl ?_
  refine go_goto C X0 d21_19 (pc' := 134) (by decide) (by decide) ?_
  refine go_iloadN C X0 135 rfl d21_134 rfl ?_
  exact go_retI C X0 d21_135 ⟨rfl, rfl⟩ (by decide) (by decide)
theorem pd_5 : parseMethodDescriptor "(C)I" = some ⟨[.char], some .int⟩ := by decide +kernel
theorem d20_1 : decode prog_35_method_2_code 1 = .ok (.invokestatic 7, 3) := by decide +kernel
theorem d20_4 : decode prog_35_method_2_code 4 = .ok (.i2l, 1) := by decide +kernel
theorem d20_5 : decode prog_35_method_2_code 5 = .ok (.lstore_n 3, 1) := by decide +kernel
theorem d20_6 : decode prog_35_method_2_code 6 = .ok (.lload_n 0, 1) := by decide +kernel
theorem d20_7 : decode prog_35_method_2_code 7 = .ok (.ldc2_w 13, 3) := by decide +kernel
theorem d20_10 : decode prog_35_method_2_code 10 = .ok (.lcmp, 1) := by decide +kernel
theorem d20_11 : decode prog_35_method_2_code 11 = .ok (.ifCond .lt 7, 3) := by decide +kernel
theorem d20_18 : decode prog_35_method_2_code 18 = .ok (.iconst 0, 1) := by decide +kernel
theorem d20_19 : decode prog_35_method_2_code 19 = .ok (.istore 5, 2) := by decide +kernel
theorem d20_21 : decode prog_35_method_2_code 21 = .ok (.lload_n 0, 1) := by decide +kernel
theorem d20_22 : decode prog_35_method_2_code 22 = .ok (.ldc2_w 15, 3) := by decide +kernel
theorem d20_25 : decode prog_35_method_2_code 25 = .ok (.lcmp, 1) := by decide +kernel
theorem d20_26 : decode prog_35_method_2_code 26 = .ok (.ifCond .eq 14, 3) := by decide +kernel
theorem d20_29 : decode prog_35_method_2_code 29 = .ok (.lload_n 3, 1) := by decide +kernel
theorem d20_30 : decode prog_35_method_2_code 30 = .ok (.lconst 0, 1) := by decide +kernel
theorem d20_31 : decode prog_35_method_2_code 31 = .ok (.lcmp, 1) := by decide +kernel
theorem d20_32 : decode prog_35_method_2_code 32 = .ok (.ifCond .eq 8, 3) := by decide +kernel
theorem d20_35 : decode prog_35_method_2_code 35 = .ok (.iload 5, 2) := by decide +kernel
theorem d20_37 : decode prog_35_method_2_code 37 = .ok (.ifCond .eq 9, 3) := by decide +kernel
theorem d20_46 : decode prog_35_method_2_code 46 = .ok (.lload_n 0, 1) := by decide +kernel
theorem d20_47 : decode prog_35_method_2_code 47 = .ok (.bipush 6, 2) := by decide +kernel
theorem d20_49 : decode prog_35_method_2_code 49 = .ok (.lshl, 1) := by decide +kernel
theorem d20_50 : decode prog_35_method_2_code 50 = .ok (.lload_n 3, 1) := by decide +kernel
theorem d20_51 : decode prog_35_method_2_code 51 = .ok (.lor, 1) := by decide +kernel
theorem d20_52 : decode prog_35_method_2_code 52 = .ok (.lreturn, 1) := by decide +kernel
theorem ef_own_app (m : MethodId) (w : Int64) (cc : Int32)  : entryFrame m #[(.long w), (.int cc)] 6 = mkF m 0 #[jv w, sc, iv cc, un, un, un] [] := by
  first | (simp [entryFrame, mkF, argsToLocals, Value.category]; done) | rfl
set_option maxRecDepth 65536 in
set_option maxHeartbeats 40000000 in
theorem own_app (l : Launch) (Z : State) (a0 : Array Value) (hw : ∀ d ∈ tables_1, d.before a0 Z = true) (w : Int64) (cc : Int32)  (h : Heap) (n0 : Nat) (hn0 : Old Z n0 h) (hw0 : ¬ w = -1) (hw1 : w.toInt < 18014398509481984) (hc : 97 ≤ cc.toInt ∧ cc.toInt ≤ 122) :
    Con l Z (⟨"com/example/plantilla/plantilla/PackedName", "appended", "(JC)J"⟩ : MethodName) prog_35_method_2_code 6 (some .long) ({ frames := 1, cells := 0, slots := 0, locals := 13 } : Room) #[(.long w), (.int cc)] h n0 (fun v h' => v = some (.long (own_ap w cc)) ∧ h = h') := by
  refine con_of hw (plainFor_of_name pn_com_example_plantilla_plantilla_PackedName) hn0 ?_
  intro p e s m below meth c T0 C X0
  refine Go.cast (congrArg T0.setTop (ef_own_app m w cc)) ?_
  refine go_iloadN C X0 1 rfl d20_0 rfl ?_
  refine go_callS C X0 (C.w 142 rfl) (C.w 143 rfl) (C.w 140 rfl) (C.w 144 rfl) (own_p21_1 l Z a0 C.ws cc h n0 X0.old hc) (argsL := [(.int cc)]) (rest := []) (lenOf pd_5 rfl) rfl (by decide) (by decide) (Nat.le_of_ble_eq_true rfl) (by decide) (by decide) rfl rfl (pc' := 4) rfl d20_1 ?_
  rintro T1 _ _ ⟨rfl, rfl⟩ X2
  show Go p e below _ (T1.setTop (mkF m 4 #[jv w, sc, iv cc, un, un, un] [(.int ((cc - (97 : Int32)) + (1 : Int32)))]))
  refine go_i2l C X2 5 rfl d20_4 ?_
  refine go_lstoreN C X2 6 rfl d20_5 #[jv w, sc, iv cc, jv (((cc - (97 : Int32)) + (1 : Int32)).toInt64), sc, un] rfl ?_
  refine go_lloadN C X2 7 rfl d20_6 rfl ?_
  refine go_ldc2Long C X2 (C.w 145 rfl) (pc' := 10) rfl d20_7 ?_
  refine go_lif_lt C X2 (pc1 := 11) rfl d20_10 d20_11 (pc' := 14) (pc2 := 18) rfl (by decide) (by decide) (fun (c11 : w.toInt < 18014398509481984) => ?_) (fun (c11 : 18014398509481984 ≤ w.toInt) => False.elim (by omega))
  refine go_iconst C X2 19 rfl d20_18 (z := 0) rfl ?_
  refine go_istore C X2 21 rfl d20_19 #[jv w, sc, iv cc, jv (((cc - (97 : Int32)) + (1 : Int32)).toInt64), sc, iv (0 : Int32)] rfl ?_
  refine go_lloadN C X2 22 rfl d20_21 rfl ?_
  refine go_ldc2Long C X2 (C.w 146 rfl) (pc' := 25) rfl d20_22 ?_
  refine go_lif_eq C X2 (pc1 := 26) rfl d20_25 d20_26 (pc' := 29) (pc2 := 40) rfl (by decide) (by decide) (fun (c26 : w = (-1 : Int64)) => False.elim (hw0 c26)) (fun (c26 : ¬ w = (-1 : Int64)) => ?_)
  refine go_lloadN C X2 30 rfl d20_29 rfl ?_
  refine go_lconst C X2 31 rfl d20_30 (z := 0) rfl ?_
  refine go_lif_eq C X2 (pc1 := 32) rfl d20_31 d20_32 (pc' := 35) (pc2 := 40) rfl (by decide) (by decide) (fun (c32 : (((cc - (97 : Int32)) + (1 : Int32)).toInt64) = (0 : Int64)) => False.elim (own_cne hc c32)) (fun (c32 : ¬ (((cc - (97 : Int32)) + (1 : Int32)).toInt64) = (0 : Int64)) => ?_)
  refine go_iload C X2 37 rfl d20_35 rfl ?_
  refine go_if_eq C X2 d20_37 (pc' := 40) (pc2 := 46) rfl (by decide) (by decide) (fun (c37 : (0 : Int32) = (0 : Int32)) => ?_) (fun (c37 : ¬ (0 : Int32) = (0 : Int32)) => False.elim (by first | omega | exact absurd c37 (by decide)))
  refine go_lloadN C X2 47 rfl d20_46 rfl ?_
  refine go_bipush C X2 49 rfl d20_47 (z := 6) rfl ?_
  refine go_lshl C X2 50 rfl d20_49 ?_
  refine go_lloadN C X2 51 rfl d20_50 rfl ?_
  refine go_lor C X2 52 rfl d20_51 ?_
  exact go_retJ C X2 d20_52 ⟨rfl, rfl⟩ (by decide) (by decide)
theorem d22_0 : decode prog_35_method_4_code 0 = .ok (.aload_n 2, 1) := by decide +kernel
theorem d22_1 : decode prog_35_method_4_code 1 = .ok (.astore_n 3, 1) := by decide +kernel
theorem d22_2 : decode prog_35_method_4_code 2 = .ok (.aload_n 3, 1) := by decide +kernel
theorem d22_3 : decode prog_35_method_4_code 3 = .ok (.arraylength, 1) := by decide +kernel
theorem d22_4 : decode prog_35_method_4_code 4 = .ok (.istore 4, 2) := by decide +kernel
theorem d22_6 : decode prog_35_method_4_code 6 = .ok (.iconst 0, 1) := by decide +kernel
theorem d22_7 : decode prog_35_method_4_code 7 = .ok (.istore 5, 2) := by decide +kernel
theorem d22_9 : decode prog_35_method_4_code 9 = .ok (.iload 5, 2) := by decide +kernel
theorem d22_11 : decode prog_35_method_4_code 11 = .ok (.iload 4, 2) := by decide +kernel
theorem d22_13 : decode prog_35_method_4_code 13 = .ok (.if_icmp .ge 24, 3) := by decide +kernel
theorem d22_16 : decode prog_35_method_4_code 16 = .ok (.aload_n 3, 1) := by decide +kernel
theorem d22_17 : decode prog_35_method_4_code 17 = .ok (.iload 5, 2) := by decide +kernel
theorem d22_19 : decode prog_35_method_4_code 19 = .ok (.laload, 1) := by decide +kernel
theorem d22_20 : decode prog_35_method_4_code 20 = .ok (.lstore 6, 2) := by decide +kernel
theorem d22_22 : decode prog_35_method_4_code 22 = .ok (.lload 6, 2) := by decide +kernel
theorem d22_24 : decode prog_35_method_4_code 24 = .ok (.lload_n 0, 1) := by decide +kernel
theorem d22_25 : decode prog_35_method_4_code 25 = .ok (.lcmp, 1) := by decide +kernel
theorem d22_26 : decode prog_35_method_4_code 26 = .ok (.ifCond .ne 5, 3) := by decide +kernel
theorem d22_31 : decode prog_35_method_4_code 31 = .ok (.iinc 5 1, 3) := by decide +kernel
theorem d22_34 : decode prog_35_method_4_code 34 = .ok (.goto (-25), 3) := by decide +kernel
theorem d22_37 : decode prog_35_method_4_code 37 = .ok (.iconst 0, 1) := by decide +kernel
theorem d22_38 : decode prog_35_method_4_code 38 = .ok (.ireturn, 1) := by decide +kernel
theorem ef_own_one (m : MethodId) (be : Addr)  : entryFrame m #[(.long (1 : Int64)), (.ref be)] 8 = mkF m 0 #[jv (1 : Int64), sc, rv be, un, un, un, un, un] [] := by
  first | (simp [entryFrame, mkF, argsToLocals, Value.category]; done) | rfl
set_option maxRecDepth 65536 in
set_option maxHeartbeats 40000000 in
theorem own_one (l : Launch) (Z : State) (a0 : Array Value) (hw : ∀ d ∈ tables_1, d.before a0 Z = true) (be : Addr)  (h : Heap) (n0 : Nat) (hn0 : Old Z n0 h) (A1 : La Z h be .long [.long 19416568974, .long 21898482630, .long 166155174841963462, .long 590, .long 966, .long 57687, .long 4382020869, .long 5829188, .long 337716183, .long 791749, .long 271, .long 1361093, .long 421810948, .long 22811220]) :
    Con l Z (⟨"com/example/plantilla/plantilla/PackedName", "isOneOf", "(J[J)Z"⟩ : MethodName) prog_35_method_4_code 8 (some .boolean) ({ frames := 0, cells := 0, slots := 0, locals := 0 } : Room) #[(.long (1 : Int64)), (.ref be)] h n0 (fun v h' => v = some (.int 0) ∧ h = h') := by
  refine con_of hw (plainFor_of_name pn_com_example_plantilla_plantilla_PackedName) hn0 ?_
  intro p e s m below meth c T0 C X0
  refine Go.cast (congrArg T0.setTop (ef_own_one m be)) ?_
  refine go_aloadN C X0 1 rfl d22_0 rfl rfl ?_
  refine go_astoreN C X0 2 rfl d22_1 rfl #[jv (1 : Int64), sc, rv be, rv be, un, un, un, un] rfl ?_
  refine go_aloadN C X0 3 rfl d22_2 rfl rfl ?_
  refine go_alen C X0 A1 (z := (14 : Int32)) rfl (pc' := 4) rfl d22_3 ?_
  refine go_istore C X0 6 rfl d22_4 #[jv (1 : Int64), sc, rv be, rv be, iv (14 : Int32), un, un, un] rfl ?_
  refine go_iconst C X0 7 rfl d22_6 (z := 0) rfl ?_
  refine go_istore C X0 9 rfl d22_7 #[jv (1 : Int64), sc, rv be, rv be, iv (14 : Int32), iv (0 : Int32), un, un] rfl ?_
  refine go_iload C X0 11 rfl d22_9 rfl ?_
  refine go_iload C X0 13 rfl d22_11 rfl ?_
  refine go_icmp_ge C X0 d22_13 (pc' := 16) (pc2 := 37) rfl (by decide) (by decide) (fun (c13 : 14 ≤ 0) => False.elim (by first | omega | exact absurd c13 (by decide))) (fun (c13 : 0 < 14) => ?_)
  refine go_aloadN C X0 17 rfl d22_16 rfl rfl ?_
  refine go_iload C X0 19 rfl d22_17 rfl ?_
  refine go_laload C X0 A1 (by decide) (v := (.long (19416568974 : Int64))) rfl (pc' := 20) rfl d22_19 ?_
  refine go_lstore C X0 22 rfl d22_20 #[jv (1 : Int64), sc, rv be, rv be, iv (14 : Int32), iv (0 : Int32), jv (19416568974 : Int64), sc] rfl ?_
  refine go_lload C X0 24 rfl d22_22 rfl ?_
  refine go_lloadN C X0 25 rfl d22_24 rfl ?_
  refine go_lif_ne C X0 (pc1 := 26) rfl d22_25 d22_26 (pc' := 29) (pc2 := 31) rfl (by decide) (by decide) (fun (c26 : ¬ (19416568974 : Int64) = (1 : Int64)) => ?_) (fun (c26 : (19416568974 : Int64) = (1 : Int64)) => False.elim (by first | omega | exact absurd c26 (by decide)))
  refine go_iinc C X0 34 rfl d22_31 rfl (z := 1) rfl #[jv (1 : Int64), sc, rv be, rv be, iv (14 : Int32), iv (1 : Int32), jv (19416568974 : Int64), sc] rfl ?_
  refine go_goto C X0 d22_34 (pc' := 9) (by decide) (by decide) ?_
  refine go_iload C X0 11 rfl d22_9 rfl ?_
  refine go_iload C X0 13 rfl d22_11 rfl ?_
  refine go_icmp_ge C X0 d22_13 (pc' := 16) (pc2 := 37) rfl (by decide) (by decide) (fun (c13 : 14 ≤ 1) => False.elim (by first | omega | exact absurd c13 (by decide))) (fun (c13 : 1 < 14) => ?_)
  refine go_aloadN C X0 17 rfl d22_16 rfl rfl ?_
  refine go_iload C X0 19 rfl d22_17 rfl ?_
  refine go_laload C X0 A1 (by decide) (v := (.long (21898482630 : Int64))) rfl (pc' := 20) rfl d22_19 ?_
  refine go_lstore C X0 22 rfl d22_20 #[jv (1 : Int64), sc, rv be, rv be, iv (14 : Int32), iv (1 : Int32), jv (21898482630 : Int64), sc] rfl ?_
  refine go_lload C X0 24 rfl d22_22 rfl ?_
  refine go_lloadN C X0 25 rfl d22_24 rfl ?_
  refine go_lif_ne C X0 (pc1 := 26) rfl d22_25 d22_26 (pc' := 29) (pc2 := 31) rfl (by decide) (by decide) (fun (c26 : ¬ (21898482630 : Int64) = (1 : Int64)) => ?_) (fun (c26 : (21898482630 : Int64) = (1 : Int64)) => False.elim (by first | omega | exact absurd c26 (by decide)))
  refine go_iinc C X0 34 rfl d22_31 rfl (z := 1) rfl #[jv (1 : Int64), sc, rv be, rv be, iv (14 : Int32), iv (2 : Int32), jv (21898482630 : Int64), sc] rfl ?_
  refine go_goto C X0 d22_34 (pc' := 9) (by decide) (by decide) ?_
  refine go_iload C X0 11 rfl d22_9 rfl ?_
  refine go_iload C X0 13 rfl d22_11 rfl ?_
  refine go_icmp_ge C X0 d22_13 (pc' := 16) (pc2 := 37) rfl (by decide) (by decide) (fun (c13 : 14 ≤ 2) => False.elim (by first | omega | exact absurd c13 (by decide))) (fun (c13 : 2 < 14) => ?_)
  refine go_aloadN C X0 17 rfl d22_16 rfl rfl ?_
  refine go_iload C X0 19 rfl d22_17 rfl ?_
  refine go_laload C X0 A1 (by decide) (v := (.long (166155174841963462 : Int64))) rfl (pc' := 20) rfl d22_19 ?_
  refine go_lstore C X0 22 rfl d22_20 #[jv (1 : Int64), sc, rv be, rv be, iv (14 : Int32), iv (2 : Int32), jv (166155174841963462 : Int64), sc] rfl ?_
  refine go_lload C X0 24 rfl d22_22 rfl ?_
  refine go_lloadN C X0 25 rfl d22_24 rfl ?_
  refine go_lif_ne C X0 (pc1 := 26) rfl d22_25 d22_26 (pc' := 29) (pc2 := 31) rfl (by decide) (by decide) (fun (c26 : ¬ (166155174841963462 : Int64) = (1 : Int64)) => ?_) (fun (c26 : (166155174841963462 : Int64) = (1 : Int64)) => False.elim (by first | omega | exact absurd c26 (by decide)))
  refine go_iinc C X0 34 rfl d22_31 rfl (z := 1) rfl #[jv (1 : Int64), sc, rv be, rv be, iv (14 : Int32), iv (3 : Int32), jv (166155174841963462 : Int64), sc] rfl ?_
  refine go_goto C X0 d22_34 (pc' := 9) (by decide) (by decide) ?_
  refine go_iload C X0 11 rfl d22_9 rfl ?_
  refine go_iload C X0 13 rfl d22_11 rfl ?_
  refine go_icmp_ge C X0 d22_13 (pc' := 16) (pc2 := 37) rfl (by decide) (by decide) (fun (c13 : 14 ≤ 3) => False.elim (by first | omega | exact absurd c13 (by decide))) (fun (c13 : 3 < 14) => ?_)
  refine go_aloadN C X0 17 rfl d22_16 rfl rfl ?_
  refine go_iload C X0 19 rfl d22_17 rfl ?_
  refine go_laload C X0 A1 (by decide) (v := (.long (590 : Int64))) rfl (pc' := 20) rfl d22_19 ?_
  refine go_lstore C X0 22 rfl d22_20 #[jv (1 : Int64), sc, rv be, rv be, iv (14 : Int32), iv (3 : Int32), jv (590 : Int64), sc] rfl ?_
  refine go_lload C X0 24 rfl d22_22 rfl ?_
  refine go_lloadN C X0 25 rfl d22_24 rfl ?_
  refine go_lif_ne C X0 (pc1 := 26) rfl d22_25 d22_26 (pc' := 29) (pc2 := 31) rfl (by decide) (by decide) (fun (c26 : ¬ (590 : Int64) = (1 : Int64)) => ?_) (fun (c26 : (590 : Int64) = (1 : Int64)) => False.elim (by first | omega | exact absurd c26 (by decide)))
  refine go_iinc C X0 34 rfl d22_31 rfl (z := 1) rfl #[jv (1 : Int64), sc, rv be, rv be, iv (14 : Int32), iv (4 : Int32), jv (590 : Int64), sc] rfl ?_
  refine go_goto C X0 d22_34 (pc' := 9) (by decide) (by decide) ?_
  refine go_iload C X0 11 rfl d22_9 rfl ?_
  refine go_iload C X0 13 rfl d22_11 rfl ?_
  refine go_icmp_ge C X0 d22_13 (pc' := 16) (pc2 := 37) rfl (by decide) (by decide) (fun (c13 : 14 ≤ 4) => False.elim (by first | omega | exact absurd c13 (by decide))) (fun (c13 : 4 < 14) => ?_)
  refine go_aloadN C X0 17 rfl d22_16 rfl rfl ?_
  refine go_iload C X0 19 rfl d22_17 rfl ?_
  refine go_laload C X0 A1 (by decide) (v := (.long (966 : Int64))) rfl (pc' := 20) rfl d22_19 ?_
  refine go_lstore C X0 22 rfl d22_20 #[jv (1 : Int64), sc, rv be, rv be, iv (14 : Int32), iv (4 : Int32), jv (966 : Int64), sc] rfl ?_
  refine go_lload C X0 24 rfl d22_22 rfl ?_
  refine go_lloadN C X0 25 rfl d22_24 rfl ?_
  refine go_lif_ne C X0 (pc1 := 26) rfl d22_25 d22_26 (pc' := 29) (pc2 := 31) rfl (by decide) (by decide) (fun (c26 : ¬ (966 : Int64) = (1 : Int64)) => ?_) (fun (c26 : (966 : Int64) = (1 : Int64)) => False.elim (by first | omega | exact absurd c26 (by decide)))
  refine go_iinc C X0 34 rfl d22_31 rfl (z := 1) rfl #[jv (1 : Int64), sc, rv be, rv be, iv (14 : Int32), iv (5 : Int32), jv (966 : Int64), sc] rfl ?_
  refine go_goto C X0 d22_34 (pc' := 9) (by decide) (by decide) ?_
  refine go_iload C X0 11 rfl d22_9 rfl ?_
  refine go_iload C X0 13 rfl d22_11 rfl ?_
  refine go_icmp_ge C X0 d22_13 (pc' := 16) (pc2 := 37) rfl (by decide) (by decide) (fun (c13 : 14 ≤ 5) => False.elim (by first | omega | exact absurd c13 (by decide))) (fun (c13 : 5 < 14) => ?_)
  refine go_aloadN C X0 17 rfl d22_16 rfl rfl ?_
  refine go_iload C X0 19 rfl d22_17 rfl ?_
  refine go_laload C X0 A1 (by decide) (v := (.long (57687 : Int64))) rfl (pc' := 20) rfl d22_19 ?_
  refine go_lstore C X0 22 rfl d22_20 #[jv (1 : Int64), sc, rv be, rv be, iv (14 : Int32), iv (5 : Int32), jv (57687 : Int64), sc] rfl ?_
  refine go_lload C X0 24 rfl d22_22 rfl ?_
  refine go_lloadN C X0 25 rfl d22_24 rfl ?_
  refine go_lif_ne C X0 (pc1 := 26) rfl d22_25 d22_26 (pc' := 29) (pc2 := 31) rfl (by decide) (by decide) (fun (c26 : ¬ (57687 : Int64) = (1 : Int64)) => ?_) (fun (c26 : (57687 : Int64) = (1 : Int64)) => False.elim (by first | omega | exact absurd c26 (by decide)))
  refine go_iinc C X0 34 rfl d22_31 rfl (z := 1) rfl #[jv (1 : Int64), sc, rv be, rv be, iv (14 : Int32), iv (6 : Int32), jv (57687 : Int64), sc] rfl ?_
  refine go_goto C X0 d22_34 (pc' := 9) (by decide) (by decide) ?_
  refine go_iload C X0 11 rfl d22_9 rfl ?_
  refine go_iload C X0 13 rfl d22_11 rfl ?_
  refine go_icmp_ge C X0 d22_13 (pc' := 16) (pc2 := 37) rfl (by decide) (by decide) (fun (c13 : 14 ≤ 6) => False.elim (by first | omega | exact absurd c13 (by decide))) (fun (c13 : 6 < 14) => ?_)
  refine go_aloadN C X0 17 rfl d22_16 rfl rfl ?_
  refine go_iload C X0 19 rfl d22_17 rfl ?_
  refine go_laload C X0 A1 (by decide) (v := (.long (4382020869 : Int64))) rfl (pc' := 20) rfl d22_19 ?_
  refine go_lstore C X0 22 rfl d22_20 #[jv (1 : Int64), sc, rv be, rv be, iv (14 : Int32), iv (6 : Int32), jv (4382020869 : Int64), sc] rfl ?_
  refine go_lload C X0 24 rfl d22_22 rfl ?_
  refine go_lloadN C X0 25 rfl d22_24 rfl ?_
  refine go_lif_ne C X0 (pc1 := 26) rfl d22_25 d22_26 (pc' := 29) (pc2 := 31) rfl (by decide) (by decide) (fun (c26 : ¬ (4382020869 : Int64) = (1 : Int64)) => ?_) (fun (c26 : (4382020869 : Int64) = (1 : Int64)) => False.elim (by first | omega | exact absurd c26 (by decide)))
  refine go_iinc C X0 34 rfl d22_31 rfl (z := 1) rfl #[jv (1 : Int64), sc, rv be, rv be, iv (14 : Int32), iv (7 : Int32), jv (4382020869 : Int64), sc] rfl ?_
  refine go_goto C X0 d22_34 (pc' := 9) (by decide) (by decide) ?_
  refine go_iload C X0 11 rfl d22_9 rfl ?_
  refine go_iload C X0 13 rfl d22_11 rfl ?_
  refine go_icmp_ge C X0 d22_13 (pc' := 16) (pc2 := 37) rfl (by decide) (by decide) (fun (c13 : 14 ≤ 7) => False.elim (by first | omega | exact absurd c13 (by decide))) (fun (c13 : 7 < 14) => ?_)
  refine go_aloadN C X0 17 rfl d22_16 rfl rfl ?_
  refine go_iload C X0 19 rfl d22_17 rfl ?_
  refine go_laload C X0 A1 (by decide) (v := (.long (5829188 : Int64))) rfl (pc' := 20) rfl d22_19 ?_
  refine go_lstore C X0 22 rfl d22_20 #[jv (1 : Int64), sc, rv be, rv be, iv (14 : Int32), iv (7 : Int32), jv (5829188 : Int64), sc] rfl ?_
  refine go_lload C X0 24 rfl d22_22 rfl ?_
  refine go_lloadN C X0 25 rfl d22_24 rfl ?_
  refine go_lif_ne C X0 (pc1 := 26) rfl d22_25 d22_26 (pc' := 29) (pc2 := 31) rfl (by decide) (by decide) (fun (c26 : ¬ (5829188 : Int64) = (1 : Int64)) => ?_) (fun (c26 : (5829188 : Int64) = (1 : Int64)) => False.elim (by first | omega | exact absurd c26 (by decide)))
  refine go_iinc C X0 34 rfl d22_31 rfl (z := 1) rfl #[jv (1 : Int64), sc, rv be, rv be, iv (14 : Int32), iv (8 : Int32), jv (5829188 : Int64), sc] rfl ?_
  refine go_goto C X0 d22_34 (pc' := 9) (by decide) (by decide) ?_
  refine go_iload C X0 11 rfl d22_9 rfl ?_
  refine go_iload C X0 13 rfl d22_11 rfl ?_
  refine go_icmp_ge C X0 d22_13 (pc' := 16) (pc2 := 37) rfl (by decide) (by decide) (fun (c13 : 14 ≤ 8) => False.elim (by first | omega | exact absurd c13 (by decide))) (fun (c13 : 8 < 14) => ?_)
  refine go_aloadN C X0 17 rfl d22_16 rfl rfl ?_
  refine go_iload C X0 19 rfl d22_17 rfl ?_
  refine go_laload C X0 A1 (by decide) (v := (.long (337716183 : Int64))) rfl (pc' := 20) rfl d22_19 ?_
  refine go_lstore C X0 22 rfl d22_20 #[jv (1 : Int64), sc, rv be, rv be, iv (14 : Int32), iv (8 : Int32), jv (337716183 : Int64), sc] rfl ?_
  refine go_lload C X0 24 rfl d22_22 rfl ?_
  refine go_lloadN C X0 25 rfl d22_24 rfl ?_
  refine go_lif_ne C X0 (pc1 := 26) rfl d22_25 d22_26 (pc' := 29) (pc2 := 31) rfl (by decide) (by decide) (fun (c26 : ¬ (337716183 : Int64) = (1 : Int64)) => ?_) (fun (c26 : (337716183 : Int64) = (1 : Int64)) => False.elim (by first | omega | exact absurd c26 (by decide)))
  refine go_iinc C X0 34 rfl d22_31 rfl (z := 1) rfl #[jv (1 : Int64), sc, rv be, rv be, iv (14 : Int32), iv (9 : Int32), jv (337716183 : Int64), sc] rfl ?_
  refine go_goto C X0 d22_34 (pc' := 9) (by decide) (by decide) ?_
  refine go_iload C X0 11 rfl d22_9 rfl ?_
  refine go_iload C X0 13 rfl d22_11 rfl ?_
  refine go_icmp_ge C X0 d22_13 (pc' := 16) (pc2 := 37) rfl (by decide) (by decide) (fun (c13 : 14 ≤ 9) => False.elim (by first | omega | exact absurd c13 (by decide))) (fun (c13 : 9 < 14) => ?_)
  refine go_aloadN C X0 17 rfl d22_16 rfl rfl ?_
  refine go_iload C X0 19 rfl d22_17 rfl ?_
  refine go_laload C X0 A1 (by decide) (v := (.long (791749 : Int64))) rfl (pc' := 20) rfl d22_19 ?_
  refine go_lstore C X0 22 rfl d22_20 #[jv (1 : Int64), sc, rv be, rv be, iv (14 : Int32), iv (9 : Int32), jv (791749 : Int64), sc] rfl ?_
  refine go_lload C X0 24 rfl d22_22 rfl ?_
  refine go_lloadN C X0 25 rfl d22_24 rfl ?_
  refine go_lif_ne C X0 (pc1 := 26) rfl d22_25 d22_26 (pc' := 29) (pc2 := 31) rfl (by decide) (by decide) (fun (c26 : ¬ (791749 : Int64) = (1 : Int64)) => ?_) (fun (c26 : (791749 : Int64) = (1 : Int64)) => False.elim (by first | omega | exact absurd c26 (by decide)))
  refine go_iinc C X0 34 rfl d22_31 rfl (z := 1) rfl #[jv (1 : Int64), sc, rv be, rv be, iv (14 : Int32), iv (10 : Int32), jv (791749 : Int64), sc] rfl ?_
  refine go_goto C X0 d22_34 (pc' := 9) (by decide) (by decide) ?_
  refine go_iload C X0 11 rfl d22_9 rfl ?_
  refine go_iload C X0 13 rfl d22_11 rfl ?_
  refine go_icmp_ge C X0 d22_13 (pc' := 16) (pc2 := 37) rfl (by decide) (by decide) (fun (c13 : 14 ≤ 10) => False.elim (by first | omega | exact absurd c13 (by decide))) (fun (c13 : 10 < 14) => ?_)
  refine go_aloadN C X0 17 rfl d22_16 rfl rfl ?_
  refine go_iload C X0 19 rfl d22_17 rfl ?_
  refine go_laload C X0 A1 (by decide) (v := (.long (271 : Int64))) rfl (pc' := 20) rfl d22_19 ?_
  refine go_lstore C X0 22 rfl d22_20 #[jv (1 : Int64), sc, rv be, rv be, iv (14 : Int32), iv (10 : Int32), jv (271 : Int64), sc] rfl ?_
  refine go_lload C X0 24 rfl d22_22 rfl ?_
  refine go_lloadN C X0 25 rfl d22_24 rfl ?_
  refine go_lif_ne C X0 (pc1 := 26) rfl d22_25 d22_26 (pc' := 29) (pc2 := 31) rfl (by decide) (by decide) (fun (c26 : ¬ (271 : Int64) = (1 : Int64)) => ?_) (fun (c26 : (271 : Int64) = (1 : Int64)) => False.elim (by first | omega | exact absurd c26 (by decide)))
  refine go_iinc C X0 34 rfl d22_31 rfl (z := 1) rfl #[jv (1 : Int64), sc, rv be, rv be, iv (14 : Int32), iv (11 : Int32), jv (271 : Int64), sc] rfl ?_
  refine go_goto C X0 d22_34 (pc' := 9) (by decide) (by decide) ?_
  refine go_iload C X0 11 rfl d22_9 rfl ?_
  refine go_iload C X0 13 rfl d22_11 rfl ?_
  refine go_icmp_ge C X0 d22_13 (pc' := 16) (pc2 := 37) rfl (by decide) (by decide) (fun (c13 : 14 ≤ 11) => False.elim (by first | omega | exact absurd c13 (by decide))) (fun (c13 : 11 < 14) => ?_)
  refine go_aloadN C X0 17 rfl d22_16 rfl rfl ?_
  refine go_iload C X0 19 rfl d22_17 rfl ?_
  refine go_laload C X0 A1 (by decide) (v := (.long (1361093 : Int64))) rfl (pc' := 20) rfl d22_19 ?_
  refine go_lstore C X0 22 rfl d22_20 #[jv (1 : Int64), sc, rv be, rv be, iv (14 : Int32), iv (11 : Int32), jv (1361093 : Int64), sc] rfl ?_
  refine go_lload C X0 24 rfl d22_22 rfl ?_
  refine go_lloadN C X0 25 rfl d22_24 rfl ?_
  refine go_lif_ne C X0 (pc1 := 26) rfl d22_25 d22_26 (pc' := 29) (pc2 := 31) rfl (by decide) (by decide) (fun (c26 : ¬ (1361093 : Int64) = (1 : Int64)) => ?_) (fun (c26 : (1361093 : Int64) = (1 : Int64)) => False.elim (by first | omega | exact absurd c26 (by decide)))
  refine go_iinc C X0 34 rfl d22_31 rfl (z := 1) rfl #[jv (1 : Int64), sc, rv be, rv be, iv (14 : Int32), iv (12 : Int32), jv (1361093 : Int64), sc] rfl ?_
  refine go_goto C X0 d22_34 (pc' := 9) (by decide) (by decide) ?_
  refine go_iload C X0 11 rfl d22_9 rfl ?_
  refine go_iload C X0 13 rfl d22_11 rfl ?_
  refine go_icmp_ge C X0 d22_13 (pc' := 16) (pc2 := 37) rfl (by decide) (by decide) (fun (c13 : 14 ≤ 12) => False.elim (by first | omega | exact absurd c13 (by decide))) (fun (c13 : 12 < 14) => ?_)
  refine go_aloadN C X0 17 rfl d22_16 rfl rfl ?_
  refine go_iload C X0 19 rfl d22_17 rfl ?_
  refine go_laload C X0 A1 (by decide) (v := (.long (421810948 : Int64))) rfl (pc' := 20) rfl d22_19 ?_
  refine go_lstore C X0 22 rfl d22_20 #[jv (1 : Int64), sc, rv be, rv be, iv (14 : Int32), iv (12 : Int32), jv (421810948 : Int64), sc] rfl ?_
  refine go_lload C X0 24 rfl d22_22 rfl ?_
  refine go_lloadN C X0 25 rfl d22_24 rfl ?_
  refine go_lif_ne C X0 (pc1 := 26) rfl d22_25 d22_26 (pc' := 29) (pc2 := 31) rfl (by decide) (by decide) (fun (c26 : ¬ (421810948 : Int64) = (1 : Int64)) => ?_) (fun (c26 : (421810948 : Int64) = (1 : Int64)) => False.elim (by first | omega | exact absurd c26 (by decide)))
  refine go_iinc C X0 34 rfl d22_31 rfl (z := 1) rfl #[jv (1 : Int64), sc, rv be, rv be, iv (14 : Int32), iv (13 : Int32), jv (421810948 : Int64), sc] rfl ?_
  refine go_goto C X0 d22_34 (pc' := 9) (by decide) (by decide) ?_
  refine go_iload C X0 11 rfl d22_9 rfl ?_
  refine go_iload C X0 13 rfl d22_11 rfl ?_
  refine go_icmp_ge C X0 d22_13 (pc' := 16) (pc2 := 37) rfl (by decide) (by decide) (fun (c13 : 14 ≤ 13) => False.elim (by first | omega | exact absurd c13 (by decide))) (fun (c13 : 13 < 14) => ?_)
  refine go_aloadN C X0 17 rfl d22_16 rfl rfl ?_
  refine go_iload C X0 19 rfl d22_17 rfl ?_
  refine go_laload C X0 A1 (by decide) (v := (.long (22811220 : Int64))) rfl (pc' := 20) rfl d22_19 ?_
  refine go_lstore C X0 22 rfl d22_20 #[jv (1 : Int64), sc, rv be, rv be, iv (14 : Int32), iv (13 : Int32), jv (22811220 : Int64), sc] rfl ?_
  refine go_lload C X0 24 rfl d22_22 rfl ?_
  refine go_lloadN C X0 25 rfl d22_24 rfl ?_
  refine go_lif_ne C X0 (pc1 := 26) rfl d22_25 d22_26 (pc' := 29) (pc2 := 31) rfl (by decide) (by decide) (fun (c26 : ¬ (22811220 : Int64) = (1 : Int64)) => ?_) (fun (c26 : (22811220 : Int64) = (1 : Int64)) => False.elim (by first | omega | exact absurd c26 (by decide)))
  refine go_iinc C X0 34 rfl d22_31 rfl (z := 1) rfl #[jv (1 : Int64), sc, rv be, rv be, iv (14 : Int32), iv (14 : Int32), jv (22811220 : Int64), sc] rfl ?_
  refine go_goto C X0 d22_34 (pc' := 9) (by decide) (by decide) ?_
  refine go_iload C X0 11 rfl d22_9 rfl ?_
  refine go_iload C X0 13 rfl d22_11 rfl ?_
  refine go_icmp_ge C X0 d22_13 (pc' := 16) (pc2 := 37) rfl (by decide) (by decide) (fun (c13 : 14 ≤ 14) => ?_) (fun (c13 : 14 < 14) => False.elim (by first | omega | exact absurd c13 (by decide)))
  refine go_iconst C X0 38 rfl d22_37 (z := 0) rfl ?_
  exact go_retN C X0 (by simp) (z' := 0) rfl d22_38 ⟨rfl, rfl⟩ (by decide) (by decide)
theorem d13_0 : decode jdk_37_method_2_code 0 = .ok (.aload_n 0, 1) := by decide +kernel
theorem d13_1 : decode jdk_37_method_2_code 1 = .ok (.getfield 7, 3) := by decide +kernel
theorem d13_4 : decode jdk_37_method_2_code 4 = .ok (.ireturn, 1) := by decide +kernel
theorem pn_java_lang_Enum : plainName "java/lang/Enum" = true := by first | (simp [plainName, overriddenIn]; done) | decide +kernel
theorem ef_own_ord (m : MethodId) (a : Addr)  : entryFrame m #[(.ref a)] 1 = mkF m 0 #[rv a] [] := by
  first | (simp [entryFrame, mkF, argsToLocals, Value.category]; done) | rfl
set_option maxRecDepth 65536 in
set_option maxHeartbeats 40000000 in
theorem own_ord (l : Launch) (Z : State) (a0 : Array Value) (hw : ∀ d ∈ tables_1, d.before a0 Z = true) (a : Addr) (z : Int32) (h : Heap) (n0 : Nat) (hn0 : Old Z n0 h) (F1 : Fld Z h a "java/lang/Enum" "ordinal" "I" (.int z)) :
    Con l Z (⟨"java/lang/Enum", "ordinal", "()I"⟩ : MethodName) jdk_37_method_2_code 1 (some .int) ({ frames := 0, cells := 0, slots := 0, locals := 0 } : Room) #[(.ref a)] h n0 (fun v h' => v = some (.int z) ∧ h = h') := by
  refine con_of hw (plainFor_of_name pn_java_lang_Enum) hn0 ?_
  intro p e s m below meth c T0 C X0
  refine Go.cast (congrArg T0.setTop (ef_own_ord m a)) ?_
  refine go_aloadN C X0 1 rfl d13_0 rfl rfl ?_
  refine go_getF C X0 (C.w 110 rfl) Via.refl F1 (pc' := 4) rfl d13_1 (fun T1 X2 => ?_)
  exact go_retI C X2 d13_4 ⟨rfl, rfl⟩ (by decide) (by decide)
theorem own_wS {Z : State} {a0 : Array Value} (hw : ∀ d ∈ tables_1, d.before a0 Z = true) : ∀ a ∈ Bundle.stringAtoms, a.before a0 Z = true := by
  intro a ha
  have e : Bundle.stringAtoms = [.initialized "java/lang/String", .instantiable "java/lang/String" 4, .arrayClass .byte, .laysFinal "java/lang/String" "java/lang/String" "value" "[B", .laysFinal "java/lang/String" "java/lang/String" "coder" "B", .soleField "java/lang/String" "value", .soleField "java/lang/String" "coder"] := rfl
  rw [e] at ha
  simp only [List.mem_cons, List.not_mem_nil, or_false] at ha
  rcases ha with rfl | rfl | rfl | rfl | rfl | rfl | rfl
  · exact hw _ (List.mem_of_getElem? (i := 3) rfl)
  · exact hw _ (List.mem_of_getElem? (i := 4) rfl)
  · exact hw _ (List.mem_of_getElem? (i := 5) rfl)
  · exact hw _ (List.mem_of_getElem? (i := 6) rfl)
  · exact hw _ (List.mem_of_getElem? (i := 7) rfl)
  · exact hw _ (List.mem_of_getElem? (i := 8) rfl)
  · exact hw _ (List.mem_of_getElem? (i := 9) rfl)
theorem own_ch120 : "<!--".toList = ['<', '!', '-', '-'] := by first | rfl | exact String.toList_ofList | decide +kernel | simp
theorem own_lit120 : (∀ c ∈ "<!--".toList, c.toNat < 256) ∧ "<!--".toList.map (fun c => Value.int (Jvm.Lit.byteI c.toNat.toUInt16)) = [.int 60, .int 33, .int 45, .int 45] := by
  rw [own_ch120]
  exact ⟨by decide, by first | rfl | decide +kernel⟩
theorem own_len120 : 4 * "<!--".toList.length ≤ 16 := by rw [own_ch120]; decide
def own_RCX (l : Launch) (Z : State) (q : own_Sv) (ch : Int32) (q' : own_Sv) : Prop := ∀ (h : Heap) (n0 : Nat) (a : Addr), Old Z n0 h → n0 ≤ a → own_S Z h a q → ConX l Z consts_1 (fun _ => True) (⟨"com/example/plantilla/plantilla/ScriptText", "readCode", "(C)V"⟩ : MethodName) prog_37_method_10_code 3 none ({ frames := 3, cells := 2, slots := 20, locals := 60 } : Room) #[.ref a, .int ch] h n0 (fun v h' vm' => v = none ∧ Keep h h' [a] ∧ own_S Z h' a q' ∧ ∃ la lb : Addr, LdV Z "com/example/plantilla/plantilla/ScriptText" 120 la vm' ∧ Sg Z h' la lb own_LT ∧ la ≠ a ∧ lb ≠ a)
def own_RC (l : Launch) (Z : State) (q : own_Sv) (ch : Int32) (q' : own_Sv) : Prop := ∀ (h : Heap) (n0 : Nat) (a la lb : Addr), Old Z n0 h → n0 ≤ a → own_S Z h a q → Sg Z h la lb own_LT → la ≠ a → lb ≠ a → ConP l Z (LdV Z "com/example/plantilla/plantilla/ScriptText" 120 la) (⟨"com/example/plantilla/plantilla/ScriptText", "readCode", "(C)V"⟩ : MethodName) prog_37_method_10_code 3 none ({ frames := 3, cells := 0, slots := 0, locals := 60 } : Room) #[.ref a, .int ch] h n0 (fun v h' => v = none ∧ Keep h h' [a] ∧ own_S Z h' a q')
def own_RX (l : Launch) (Z : State) (q : own_Sv) (ch : Int32) (q' : own_Sv) : Prop := ∀ (h : Heap) (n0 : Nat) (a : Addr), Old Z n0 h → n0 ≤ a → own_S Z h a q → ConX l Z consts_1 (fun _ => True) (⟨"com/example/plantilla/plantilla/ScriptText", "read", "(C)V"⟩ : MethodName) prog_37_method_9_code 2 none ({ frames := 4, cells := 2, slots := 20, locals := 90 } : Room) #[.ref a, .int ch] h n0 (fun v h' vm' => v = none ∧ Keep h h' [a] ∧ own_S Z h' a q' ∧ ∃ la lb : Addr, LdV Z "com/example/plantilla/plantilla/ScriptText" 120 la vm' ∧ Sg Z h' la lb own_LT ∧ la ≠ a ∧ lb ≠ a)
def own_R (l : Launch) (Z : State) (q : own_Sv) (ch : Int32) (q' : own_Sv) : Prop := ∀ (h : Heap) (n0 : Nat) (a la lb : Addr), Old Z n0 h → n0 ≤ a → own_S Z h a q → Sg Z h la lb own_LT → la ≠ a → lb ≠ a → ConP l Z (LdV Z "com/example/plantilla/plantilla/ScriptText" 120 la) (⟨"com/example/plantilla/plantilla/ScriptText", "read", "(C)V"⟩ : MethodName) prog_37_method_9_code 2 none ({ frames := 4, cells := 0, slots := 0, locals := 90 } : Room) #[.ref a, .int ch] h n0 (fun v h' => v = none ∧ Keep h h' [a] ∧ own_S Z h' a q')
theorem d14_0 : decode prog_37_method_10_code 0 = .ok (.aload_n 0, 1) := by decide +kernel
theorem d14_1 : decode prog_37_method_10_code 1 = .ok (.getfield 47, 3) := by decide +kernel
theorem d14_4 : decode prog_37_method_10_code 4 = .ok (.ifCond .le 29, 3) := by decide +kernel
theorem d14_33 : decode prog_37_method_10_code 33 = .ok (.aload_n 0, 1) := by decide +kernel
theorem d14_34 : decode prog_37_method_10_code 34 = .ok (.iload_n 1, 1) := by decide +kernel
theorem d14_35 : decode prog_37_method_10_code 35 = .ok (.bipush 60, 2) := by decide +kernel
theorem d14_37 : decode prog_37_method_10_code 37 = .ok (.if_icmp .ne 7, 3) := by decide +kernel
theorem d14_44 : decode prog_37_method_10_code 44 = .ok (.iconst 0, 1) := by decide +kernel
theorem d14_45 : decode prog_37_method_10_code 45 = .ok (.putfield 47, 3) := by decide +kernel
theorem d14_48 : decode prog_37_method_10_code 48 = .ok (.iload_n 1, 1) := by decide +kernel
theorem d15_0 : decode prog_37_method_21_code 0 = .ok (.iload_n 0, 1) := by decide +kernel
theorem d15_1 : decode prog_37_method_21_code 1 = .ok (.bipush 97, 2) := by decide +kernel
theorem d15_3 : decode prog_37_method_21_code 3 = .ok (.if_icmp .lt 9, 3) := by decide +kernel
theorem d15_12 : decode prog_37_method_21_code 12 = .ok (.iload_n 0, 1) := by decide +kernel
theorem d15_13 : decode prog_37_method_21_code 13 = .ok (.bipush 65, 2) := by decide +kernel
theorem d15_15 : decode prog_37_method_21_code 15 = .ok (.if_icmp .lt 9, 3) := by decide +kernel
theorem d15_24 : decode prog_37_method_21_code 24 = .ok (.iload_n 0, 1) := by decide +kernel
theorem d15_25 : decode prog_37_method_21_code 25 = .ok (.bipush 48, 2) := by decide +kernel
theorem d15_27 : decode prog_37_method_21_code 27 = .ok (.if_icmp .lt 9, 3) := by decide +kernel
theorem d15_36 : decode prog_37_method_21_code 36 = .ok (.iload_n 0, 1) := by decide +kernel
theorem d15_37 : decode prog_37_method_21_code 37 = .ok (.bipush 95, 2) := by decide +kernel
theorem d15_39 : decode prog_37_method_21_code 39 = .ok (.if_icmp .eq 9, 3) := by decide +kernel
theorem d15_42 : decode prog_37_method_21_code 42 = .ok (.iload_n 0, 1) := by decide +kernel
theorem d15_43 : decode prog_37_method_21_code 43 = .ok (.bipush 36, 2) := by decide +kernel
theorem d15_45 : decode prog_37_method_21_code 45 = .ok (.if_icmp .ne 7, 3) := by decide +kernel
theorem d15_52 : decode prog_37_method_21_code 52 = .ok (.iconst 0, 1) := by decide +kernel
theorem d15_53 : decode prog_37_method_21_code 53 = .ok (.istore_n 1, 1) := by decide +kernel
theorem d15_54 : decode prog_37_method_21_code 54 = .ok (.iload_n 1, 1) := by decide +kernel
theorem d15_55 : decode prog_37_method_21_code 55 = .ok (.ifCond .ne 17, 3) := by decide +kernel
theorem d15_58 : decode prog_37_method_21_code 58 = .ok (.iload_n 0, 1) := by decide +kernel
theorem d15_59 : decode prog_37_method_21_code 59 = .ok (.sipush 128, 3) := by decide +kernel
theorem d15_62 : decode prog_37_method_21_code 62 = .ok (.if_icmp .lt 14, 3) := by decide +kernel
theorem d15_76 : decode prog_37_method_21_code 76 = .ok (.iconst 0, 1) := by decide +kernel
theorem d15_77 : decode prog_37_method_21_code 77 = .ok (.ireturn, 1) := by decide +kernel
theorem pn_com_example_plantilla_plantilla_ScriptText : plainName "com/example/plantilla/plantilla/ScriptText" = true := by first | (simp [plainName, overriddenIn]; done) | decide +kernel
theorem ef_own_p15_2 (m : MethodId)   : entryFrame m #[(.int (39 : Int32))] 2 = mkF m 0 #[iv (39 : Int32), un] [] := by
  first | (simp [entryFrame, mkF, argsToLocals, Value.category]; done) | rfl
set_option maxRecDepth 65536 in
set_option maxHeartbeats 40000000 in
theorem own_p15_2 (l : Launch) (Z : State) (a0 : Array Value) (hw : ∀ d ∈ tables_1, d.before a0 Z = true)   (h : Heap) (n0 : Nat) (hn0 : Old Z n0 h)  :
    Con l Z (⟨"com/example/plantilla/plantilla/ScriptText", "isWordCharacter", "(C)Z"⟩ : MethodName) prog_37_method_21_code 2 (some .boolean) ({ frames := 0, cells := 0, slots := 0, locals := 0 } : Room) #[(.int (39 : Int32))] h n0 (fun v h' => v = some (.int (0 : Int32)) ∧ h = h') := by
  refine con_of hw (plainFor_of_name pn_com_example_plantilla_plantilla_ScriptText) hn0 ?_
  intro p e s m below meth c T0 C X0
  refine Go.cast (congrArg T0.setTop (ef_own_p15_2 m )) ?_
  refine go_iloadN C X0 1 rfl d15_0 rfl ?_
  refine go_bipush C X0 3 rfl d15_1 (z := 97) rfl ?_
  refine go_icmp_lt C X0 d15_3 (pc' := 6) (pc2 := 12) rfl (by decide) (by decide) (fun (c3 : 39 < 97) => ?_) (fun (c3 : 97 ≤ 39) => False.elim (by first | omega | exact absurd c3 (by decide)))
  refine go_iloadN C X0 13 rfl d15_12 rfl ?_
  refine go_bipush C X0 15 rfl d15_13 (z := 65) rfl ?_
  refine go_icmp_lt C X0 d15_15 (pc' := 18) (pc2 := 24) rfl (by decide) (by decide) (fun (c15 : 39 < 65) => ?_) (fun (c15 : 65 ≤ 39) => False.elim (by first | omega | exact absurd c15 (by decide)))
  refine go_iloadN C X0 25 rfl d15_24 rfl ?_
  refine go_bipush C X0 27 rfl d15_25 (z := 48) rfl ?_
  refine go_icmp_lt C X0 d15_27 (pc' := 30) (pc2 := 36) rfl (by decide) (by decide) (fun (c27 : 39 < 48) => ?_) (fun (c27 : 48 ≤ 39) => False.elim (by first | omega | exact absurd c27 (by decide)))
  refine go_iloadN C X0 37 rfl d15_36 rfl ?_
  refine go_bipush C X0 39 rfl d15_37 (z := 95) rfl ?_
  refine go_icmp_eq C X0 d15_39 (pc' := 42) (pc2 := 48) rfl (by decide) (by decide) (fun (c39 : (39 : Int32) = (95 : Int32)) => False.elim (by first | omega | exact absurd c39 (by decide))) (fun (c39 : ¬ (39 : Int32) = (95 : Int32)) => ?_)
  refine go_iloadN C X0 43 rfl d15_42 rfl ?_
  refine go_bipush C X0 45 rfl d15_43 (z := 36) rfl ?_
  refine go_icmp_ne C X0 d15_45 (pc' := 48) (pc2 := 52) rfl (by decide) (by decide) (fun (c45 : ¬ (39 : Int32) = (36 : Int32)) => ?_) (fun (c45 : (39 : Int32) = (36 : Int32)) => False.elim (by first | omega | exact absurd c45 (by decide)))
  refine go_iconst C X0 53 rfl d15_52 (z := 0) rfl ?_
  refine go_istoreN C X0 54 rfl d15_53 #[iv (39 : Int32), iv (0 : Int32)] rfl ?_
  refine go_iloadN C X0 55 rfl d15_54 rfl ?_
  refine go_if_ne C X0 d15_55 (pc' := 58) (pc2 := 72) rfl (by decide) (by decide) (fun (c55 : ¬ (0 : Int32) = (0 : Int32)) => False.elim (by first | omega | exact absurd c55 (by decide))) (fun (c55 : (0 : Int32) = (0 : Int32)) => ?_)
  refine go_iloadN C X0 59 rfl d15_58 rfl ?_
  refine go_sipush C X0 62 rfl d15_59 (z := 128) rfl ?_
  refine go_icmp_lt C X0 d15_62 (pc' := 65) (pc2 := 76) rfl (by decide) (by decide) (fun (c62 : 39 < 128) => ?_) (fun (c62 : 128 ≤ 39) => False.elim (by first | omega | exact absurd c62 (by decide)))
  refine go_iconst C X0 77 rfl d15_76 (z := 0) rfl ?_
  exact go_retN C X0 (by simp) (z' := 0) rfl d15_77 ⟨rfl, rfl⟩ (by decide) (by decide)
theorem pd_6 : parseMethodDescriptor "(C)Z" = some ⟨[.char], some .boolean⟩ := by decide +kernel
theorem d14_49 : decode prog_37_method_10_code 49 = .ok (.invokestatic 122, 3) := by decide +kernel
theorem d14_52 : decode prog_37_method_10_code 52 = .ok (.ifCond .eq 53, 3) := by decide +kernel
theorem d14_105 : decode prog_37_method_10_code 105 = .ok (.aload_n 0, 1) := by decide +kernel
theorem d14_106 : decode prog_37_method_10_code 106 = .ok (.getfield 33, 3) := by decide +kernel
theorem d14_109 : decode prog_37_method_10_code 109 = .ok (.lconst 0, 1) := by decide +kernel
theorem d14_110 : decode prog_37_method_10_code 110 = .ok (.lcmp, 1) := by decide +kernel
theorem d14_111 : decode prog_37_method_10_code 111 = .ok (.ifCond .eq 17, 3) := by decide +kernel
theorem d14_128 : decode prog_37_method_10_code 128 = .ok (.aload_n 0, 1) := by decide +kernel
theorem d14_129 : decode prog_37_method_10_code 129 = .ok (.lconst 0, 1) := by decide +kernel
theorem d14_130 : decode prog_37_method_10_code 130 = .ok (.putfield 33, 3) := by decide +kernel
theorem d14_133 : decode prog_37_method_10_code 133 = .ok (.iload_n 1, 1) := by decide +kernel
theorem d16_0 : decode prog_37_method_22_code 0 = .ok (.iload_n 0, 1) := by decide +kernel
theorem d16_1 : decode prog_37_method_22_code 1 = .ok (.bipush 32, 2) := by decide +kernel
theorem d16_3 : decode prog_37_method_22_code 3 = .ok (.if_icmp .eq 33, 3) := by decide +kernel
theorem d16_6 : decode prog_37_method_22_code 6 = .ok (.iload_n 0, 1) := by decide +kernel
theorem d16_7 : decode prog_37_method_22_code 7 = .ok (.bipush 9, 2) := by decide +kernel
theorem d16_9 : decode prog_37_method_22_code 9 = .ok (.if_icmp .eq 27, 3) := by decide +kernel
theorem d16_12 : decode prog_37_method_22_code 12 = .ok (.iload_n 0, 1) := by decide +kernel
theorem d16_13 : decode prog_37_method_22_code 13 = .ok (.bipush 10, 2) := by decide +kernel
theorem d16_15 : decode prog_37_method_22_code 15 = .ok (.if_icmp .eq 21, 3) := by decide +kernel
theorem d16_18 : decode prog_37_method_22_code 18 = .ok (.iload_n 0, 1) := by decide +kernel
theorem d16_19 : decode prog_37_method_22_code 19 = .ok (.bipush 13, 2) := by decide +kernel
theorem d16_21 : decode prog_37_method_22_code 21 = .ok (.if_icmp .eq 15, 3) := by decide +kernel
theorem d16_24 : decode prog_37_method_22_code 24 = .ok (.iload_n 0, 1) := by decide +kernel
theorem d16_25 : decode prog_37_method_22_code 25 = .ok (.bipush 12, 2) := by decide +kernel
theorem d16_27 : decode prog_37_method_22_code 27 = .ok (.if_icmp .eq 9, 3) := by decide +kernel
theorem d16_30 : decode prog_37_method_22_code 30 = .ok (.iload_n 0, 1) := by decide +kernel
theorem d16_31 : decode prog_37_method_22_code 31 = .ok (.bipush 11, 2) := by decide +kernel
theorem d16_33 : decode prog_37_method_22_code 33 = .ok (.if_icmp .ne 7, 3) := by decide +kernel
theorem d16_40 : decode prog_37_method_22_code 40 = .ok (.iconst 0, 1) := by decide +kernel
theorem d16_41 : decode prog_37_method_22_code 41 = .ok (.istore_n 1, 1) := by decide +kernel
theorem d16_42 : decode prog_37_method_22_code 42 = .ok (.iload_n 1, 1) := by decide +kernel
theorem d16_43 : decode prog_37_method_22_code 43 = .ok (.ifCond .ne 23, 3) := by decide +kernel
theorem d16_46 : decode prog_37_method_22_code 46 = .ok (.iload_n 0, 1) := by decide +kernel
theorem d16_47 : decode prog_37_method_22_code 47 = .ok (.sipush 128, 3) := by decide +kernel
theorem d16_50 : decode prog_37_method_22_code 50 = .ok (.if_icmp .lt 20, 3) := by decide +kernel
theorem d16_70 : decode prog_37_method_22_code 70 = .ok (.iconst 0, 1) := by decide +kernel
theorem d16_71 : decode prog_37_method_22_code 71 = .ok (.ireturn, 1) := by decide +kernel
theorem ef_own_p16_3 (m : MethodId)   : entryFrame m #[(.int (39 : Int32))] 2 = mkF m 0 #[iv (39 : Int32), un] [] := by
  first | (simp [entryFrame, mkF, argsToLocals, Value.category]; done) | rfl
set_option maxRecDepth 65536 in
set_option maxHeartbeats 40000000 in
theorem own_p16_3 (l : Launch) (Z : State) (a0 : Array Value) (hw : ∀ d ∈ tables_1, d.before a0 Z = true)   (h : Heap) (n0 : Nat) (hn0 : Old Z n0 h)  :
    Con l Z (⟨"com/example/plantilla/plantilla/ScriptText", "isSpace", "(C)Z"⟩ : MethodName) prog_37_method_22_code 2 (some .boolean) ({ frames := 0, cells := 0, slots := 0, locals := 0 } : Room) #[(.int (39 : Int32))] h n0 (fun v h' => v = some (.int (0 : Int32)) ∧ h = h') := by
  refine con_of hw (plainFor_of_name pn_com_example_plantilla_plantilla_ScriptText) hn0 ?_
  intro p e s m below meth c T0 C X0
  refine Go.cast (congrArg T0.setTop (ef_own_p16_3 m )) ?_
  refine go_iloadN C X0 1 rfl d16_0 rfl ?_
  refine go_bipush C X0 3 rfl d16_1 (z := 32) rfl ?_
  refine go_icmp_eq C X0 d16_3 (pc' := 6) (pc2 := 36) rfl (by decide) (by decide) (fun (c3 : (39 : Int32) = (32 : Int32)) => False.elim (by first | omega | exact absurd c3 (by decide))) (fun (c3 : ¬ (39 : Int32) = (32 : Int32)) => ?_)
  refine go_iloadN C X0 7 rfl d16_6 rfl ?_
  refine go_bipush C X0 9 rfl d16_7 (z := 9) rfl ?_
  refine go_icmp_eq C X0 d16_9 (pc' := 12) (pc2 := 36) rfl (by decide) (by decide) (fun (c9 : (39 : Int32) = (9 : Int32)) => False.elim (by first | omega | exact absurd c9 (by decide))) (fun (c9 : ¬ (39 : Int32) = (9 : Int32)) => ?_)
  refine go_iloadN C X0 13 rfl d16_12 rfl ?_
  refine go_bipush C X0 15 rfl d16_13 (z := 10) rfl ?_
  refine go_icmp_eq C X0 d16_15 (pc' := 18) (pc2 := 36) rfl (by decide) (by decide) (fun (c15 : (39 : Int32) = (10 : Int32)) => False.elim (by first | omega | exact absurd c15 (by decide))) (fun (c15 : ¬ (39 : Int32) = (10 : Int32)) => ?_)
  refine go_iloadN C X0 19 rfl d16_18 rfl ?_
  refine go_bipush C X0 21 rfl d16_19 (z := 13) rfl ?_
  refine go_icmp_eq C X0 d16_21 (pc' := 24) (pc2 := 36) rfl (by decide) (by decide) (fun (c21 : (39 : Int32) = (13 : Int32)) => False.elim (by first | omega | exact absurd c21 (by decide))) (fun (c21 : ¬ (39 : Int32) = (13 : Int32)) => ?_)
  refine go_iloadN C X0 25 rfl d16_24 rfl ?_
  refine go_bipush C X0 27 rfl d16_25 (z := 12) rfl ?_
  refine go_icmp_eq C X0 d16_27 (pc' := 30) (pc2 := 36) rfl (by decide) (by decide) (fun (c27 : (39 : Int32) = (12 : Int32)) => False.elim (by first | omega | exact absurd c27 (by decide))) (fun (c27 : ¬ (39 : Int32) = (12 : Int32)) => ?_)
  refine go_iloadN C X0 31 rfl d16_30 rfl ?_
  refine go_bipush C X0 33 rfl d16_31 (z := 11) rfl ?_
  refine go_icmp_ne C X0 d16_33 (pc' := 36) (pc2 := 40) rfl (by decide) (by decide) (fun (c33 : ¬ (39 : Int32) = (11 : Int32)) => ?_) (fun (c33 : (39 : Int32) = (11 : Int32)) => False.elim (by first | omega | exact absurd c33 (by decide)))
  refine go_iconst C X0 41 rfl d16_40 (z := 0) rfl ?_
  refine go_istoreN C X0 42 rfl d16_41 #[iv (39 : Int32), iv (0 : Int32)] rfl ?_
  refine go_iloadN C X0 43 rfl d16_42 rfl ?_
  refine go_if_ne C X0 d16_43 (pc' := 46) (pc2 := 66) rfl (by decide) (by decide) (fun (c43 : ¬ (0 : Int32) = (0 : Int32)) => False.elim (by first | omega | exact absurd c43 (by decide))) (fun (c43 : (0 : Int32) = (0 : Int32)) => ?_)
  refine go_iloadN C X0 47 rfl d16_46 rfl ?_
  refine go_sipush C X0 50 rfl d16_47 (z := 128) rfl ?_
  refine go_icmp_lt C X0 d16_50 (pc' := 53) (pc2 := 70) rfl (by decide) (by decide) (fun (c50 : 39 < 128) => ?_) (fun (c50 : 128 ≤ 39) => False.elim (by first | omega | exact absurd c50 (by decide)))
  refine go_iconst C X0 71 rfl d16_70 (z := 0) rfl ?_
  exact go_retN C X0 (by simp) (z' := 0) rfl d16_71 ⟨rfl, rfl⟩ (by decide) (by decide)
theorem d14_134 : decode prog_37_method_10_code 134 = .ok (.invokestatic 139, 3) := by decide +kernel
theorem d14_137 : decode prog_37_method_10_code 137 = .ok (.ifCond .ne 8, 3) := by decide +kernel
theorem d14_140 : decode prog_37_method_10_code 140 = .ok (.aload_n 0, 1) := by decide +kernel
theorem d14_141 : decode prog_37_method_10_code 141 = .ok (.iload_n 1, 1) := by decide +kernel
theorem d17_0 : decode prog_37_method_11_code 0 = .ok (.iload_n 1, 1) := by decide +kernel
theorem d17_1 : decode prog_37_method_11_code 1 = .ok (.lookupswitch 138 #[(34, 85), (39, 75), (41, 130), (47, 105), (93, 130), (96, 95), (123, 115), (125, 123)], 75) := by decide +kernel
theorem d17_76 : decode prog_37_method_11_code 76 = .ok (.aload_n 0, 1) := by decide +kernel
theorem d17_77 : decode prog_37_method_11_code 77 = .ok (.getstatic 145, 3) := by decide +kernel
theorem d17_80 : decode prog_37_method_11_code 80 = .ok (.putfield 24, 3) := by decide +kernel
theorem d17_83 : decode prog_37_method_11_code 83 = .ok (.goto 61, 3) := by decide +kernel
theorem d17_144 : decode prog_37_method_11_code 144 = .ok (.return_, 1) := by decide +kernel
theorem ef_own_m17_4 (m : MethodId) (a : Addr)  : entryFrame m #[(.ref a), (.int (39 : Int32))] 2 = mkF m 0 #[rv a, iv (39 : Int32)] [] := by
  first | (simp [entryFrame, mkF, argsToLocals, Value.category]; done) | rfl
set_option maxRecDepth 65536 in
set_option maxHeartbeats 40000000 in
theorem own_m17_4 (l : Launch) (Z : State) (a0 : Array Value) (hw : ∀ d ∈ tables_1, d.before a0 Z = true) (a : Addr) (mc ms mt md be : Addr) (cs : Int32) (fv : Value)  (h : Heap) (n0 : Nat) (hn0 : Old Z n0 h) (hE : own_E Z mc ms mt md be cs fv)  (hS : own_F Z h a mc (1 : Int32) (0 : Int64) (0 : Int32) (0 : Int32) (0 : Int64) (0 : Int32)) (ga : n0 ≤ a) :
    Con l Z (⟨"com/example/plantilla/plantilla/ScriptText", "readPunctuator", "(C)V"⟩ : MethodName) prog_37_method_11_code 2 none ({ frames := 0, cells := 0, slots := 0, locals := 0 } : Room) #[(.ref a), (.int (39 : Int32))] h n0 (fun v h' => v = none ∧ Keep h h' [a] ∧ own_F Z h' a ms (1 : Int32) (0 : Int64) (0 : Int32) (0 : Int32) (0 : Int64) (0 : Int32)) := by
  refine con_of hw (plainFor_of_name pn_com_example_plantilla_plantilla_ScriptText) hn0 ?_
  intro p e s m below meth c T0 C X0
  refine Go.cast (congrArg T0.setTop (ef_own_m17_4 m a)) ?_
  have hE1 := hE
  obtain ⟨SM0, SM1, SM2, SM3, EM0, EM1, EM2, EM3, FM0, FM1, FM2, FM3, SB, AB, hcs, S1, hfv, S2⟩ := hE1
  obtain ⟨E0, FF0, FF1, FF2, FF3, FF4, FF5, FF6⟩ := hS
  refine go_iloadN C X0 1 rfl d17_0 rfl ?_
  refine go_lookHit C X0 d17_1 (by first | decide | (simp; done)) (q := 39) (off := 75) (by first | decide | rfl | (simp; done)) (pc2 := 76) (by decide) (by decide) ?_
  refine go_aloadN C X0 77 rfl d17_76 rfl rfl ?_
  refine go_getS C X0 (C.w 136 rfl) (SM1.ext X0.old.2) (pc' := 80) rfl d17_77 (fun T1 X2 => ?_)
  refine go_putF C X2 (C.w 44 rfl) Via.refl FF0 E0 (Or.inl (C.w 45 rfl)) (C.w 28 rfl) ga (ty := (.object "com/example/plantilla/plantilla/ScriptText$Mode")) (by decide) rfl rfl (pc' := 83) rfl d17_80 (fun T3 h5 W6 X4 => ?_)
  have F7 := FF0.same W6
  have E8 := E0.wr W6
  have F9 := FF1.other W6 (Or.inr (slot_ne (Or.inl (C.w 47 rfl)) (Or.inl (C.w 45 rfl)) (by decide) (t := .boolean) (t' := (.object "com/example/plantilla/plantilla/ScriptText$Mode")) (by decide) (by decide)))
  have F10 := FF2.other W6 (Or.inr (slot_ne (Or.inl (C.w 49 rfl)) (Or.inl (C.w 45 rfl)) (by decide) (t := .long) (t' := (.object "com/example/plantilla/plantilla/ScriptText$Mode")) (by decide) (by decide)))
  have F11 := FF3.other W6 (Or.inr (slot_ne (Or.inl (C.w 51 rfl)) (Or.inl (C.w 45 rfl)) (by decide) (t := .boolean) (t' := (.object "com/example/plantilla/plantilla/ScriptText$Mode")) (by decide) (by decide)))
  have F12 := FF4.other W6 (Or.inr (slot_ne (Or.inl (C.w 53 rfl)) (Or.inl (C.w 45 rfl)) (by decide) (t := .int) (t' := (.object "com/example/plantilla/plantilla/ScriptText$Mode")) (by decide) (by decide)))
  have F13 := FF5.other W6 (Or.inr (slot_ne (Or.inl (C.w 55 rfl)) (Or.inl (C.w 45 rfl)) (by decide) (t := .long) (t' := (.object "com/example/plantilla/plantilla/ScriptText$Mode")) (by decide) (by decide)))
  have F14 := FF6.other W6 (Or.inr (slot_ne (Or.inl (C.w 57 rfl)) (Or.inl (C.w 45 rfl)) (by decide) (t := .int) (t' := (.object "com/example/plantilla/plantilla/ScriptText$Mode")) (by decide) (by decide)))
  have K15 := (Keep.refl h [a]).wr W6 (Or.inl (List.mem_of_getElem? (i := 0) rfl))
  refine go_goto C X4 d17_83 (pc' := 144) (by decide) (by decide) ?_
  exact go_ret0 C X4 d17_144 ⟨rfl, K15, E8, F7, F9, F10, F11, F12, F13, F14⟩ (by decide) (by decide)
theorem pd_7 : parseMethodDescriptor "(C)V" = some ⟨[.char], none⟩ := by decide +kernel
theorem d14_142 : decode prog_37_method_10_code 142 = .ok (.invokevirtual 142, 3) := by decide +kernel
theorem d14_145 : decode prog_37_method_10_code 145 = .ok (.aload_n 0, 1) := by decide +kernel
theorem d14_146 : decode prog_37_method_10_code 146 = .ok (.getfield 47, 3) := by decide +kernel
theorem d14_149 : decode prog_37_method_10_code 149 = .ok (.ldc 120, 2) := by decide +kernel
theorem pd_8 : parseMethodDescriptor "()I" = some ⟨[], some .int⟩ := by decide +kernel
theorem d14_151 : decode prog_37_method_10_code 151 = .ok (.invokevirtual 61, 3) := by decide +kernel
theorem d14_154 : decode prog_37_method_10_code 154 = .ok (.if_icmp .ne 15, 3) := by decide +kernel
theorem d14_169 : decode prog_37_method_10_code 169 = .ok (.return_, 1) := by decide +kernel
theorem ef_own_cold39 (m : MethodId) (a : Addr)  : entryFrame m #[(.ref a), (.int (39 : Int32))] 3 = mkF m 0 #[rv a, iv (39 : Int32), un] [] := by
  first | (simp [entryFrame, mkF, argsToLocals, Value.category]; done) | rfl
set_option maxRecDepth 65536 in
set_option maxHeartbeats 40000000 in
theorem own_cold39 (l : Launch) (Z : State) (a0 : Array Value) (hw : ∀ d ∈ tables_1, d.before a0 Z = true) (a : Addr) (mc ms mt md be : Addr) (cs : Int32) (fv : Value)  (h : Heap) (n0 : Nat) (hn0 : Old Z n0 h) (hEL : EW Z a0 consts_1) (hE : own_E Z mc ms mt md be cs fv)  (hS : own_F Z h a mc (1 : Int32) (0 : Int64) (0 : Int32) (0 : Int32) (0 : Int64) (0 : Int32)) (ga : n0 ≤ a) :
    ConX l Z consts_1 (fun _ => True) (⟨"com/example/plantilla/plantilla/ScriptText", "readCode", "(C)V"⟩ : MethodName) prog_37_method_10_code 3 none ({ frames := 3, cells := 2, slots := 20, locals := 60 } : Room) #[(.ref a), (.int (39 : Int32))] h n0 (fun v h' vm' => v = none ∧ Keep h h' [a] ∧ own_F Z h' a ms (1 : Int32) (0 : Int64) (0 : Int32) (0 : Int32) (0 : Int64) (0 : Int32) ∧ ∃ la lb : Addr, LdV Z "com/example/plantilla/plantilla/ScriptText" 120 la vm' ∧ Sg Z h' la lb own_LT ∧ la ≠ a ∧ lb ≠ a) := by
  refine conX_of hw (plainFor_of_name pn_com_example_plantilla_plantilla_ScriptText) hn0 ?_
  intro p e sv0 s m below meth c T0 C _ WI0 X0
  refine Go.cast (congrArg T0.setTop (ef_own_cold39 m a)) ?_
  have hE1 := hE
  obtain ⟨SM0, SM1, SM2, SM3, EM0, EM1, EM2, EM3, FM0, FM1, FM2, FM3, SB, AB, hcs, S1, hfv, S2⟩ := hE1
  obtain ⟨E0, FF0, FF1, FF2, FF3, FF4, FF5, FF6⟩ := hS
  refine go_aloadN C X0 1 rfl d14_0 rfl rfl ?_
  refine go_getF C X0 (C.w 56 rfl) Via.refl FF6 (pc' := 4) rfl d14_1 (fun T1 X2 => ?_)
  refine go_if_le C X2 d14_4 (pc' := 7) (pc2 := 33) rfl (by decide) (by decide) (fun (c4 : 0 ≤ 0) => ?_) (fun (c4 : 0 < 0) => False.elim (by first | omega | exact absurd c4 (by decide)))
  refine go_aloadN C X2 34 rfl d14_33 rfl rfl ?_
  refine go_iloadN C X2 35 rfl d14_34 rfl ?_
  refine go_bipush C X2 37 rfl d14_35 (z := 60) rfl ?_
  refine go_icmp_ne C X2 d14_37 (pc' := 40) (pc2 := 44) rfl (by decide) (by decide) (fun (c37 : ¬ (39 : Int32) = (60 : Int32)) => ?_) (fun (c37 : (39 : Int32) = (60 : Int32)) => False.elim (by first | omega | exact absurd c37 (by decide)))
  refine go_iconst C X2 45 rfl d14_44 (z := 0) rfl ?_
  refine go_putF C X2 (C.w 56 rfl) Via.refl FF6 E0 (Or.inl (C.w 57 rfl)) (C.w 28 rfl) ga (ty := .int) (by decide) rfl rfl (pc' := 48) rfl d14_45 (fun T3 h5 W6 X4 => ?_)
  have F7 := FF6.same W6
  have SQ8 : Safe Z consts_1 s.vm _ a := (safeE C E0 (by decide) (by decide))
  have WI9 := WI0.wr W6 SQ8
  have E10 := E0.wr W6
  have F11 := FF0.other W6 (Or.inr (slot_ne (Or.inl (C.w 45 rfl)) (Or.inl (C.w 57 rfl)) (by decide) (t := (.object "com/example/plantilla/plantilla/ScriptText$Mode")) (t' := .int) (by decide) (by decide)))
  have F12 := FF1.other W6 (Or.inr (slot_ne (Or.inl (C.w 47 rfl)) (Or.inl (C.w 57 rfl)) (by decide) (t := .boolean) (t' := .int) (by decide) (by decide)))
  have F13 := FF2.other W6 (Or.inr (slot_ne (Or.inl (C.w 49 rfl)) (Or.inl (C.w 57 rfl)) (by decide) (t := .long) (t' := .int) (by decide) (by decide)))
  have F14 := FF3.other W6 (Or.inr (slot_ne (Or.inl (C.w 51 rfl)) (Or.inl (C.w 57 rfl)) (by decide) (t := .boolean) (t' := .int) (by decide) (by decide)))
  have F15 := FF4.other W6 (Or.inr (slot_ne (Or.inl (C.w 53 rfl)) (Or.inl (C.w 57 rfl)) (by decide) (t := .int) (t' := .int) (by decide) (by decide)))
  have F16 := FF5.other W6 (Or.inr (slot_ne (Or.inl (C.w 55 rfl)) (Or.inl (C.w 57 rfl)) (by decide) (t := .long) (t' := .int) (by decide) (by decide)))
  have K17 := (Keep.refl h [a]).wr W6 (Or.inl (List.mem_of_getElem? (i := 0) rfl))
  refine go_iloadN C X4 49 rfl d14_48 rfl ?_
  refine go_callS C X4 (C.w 116 rfl) (C.w 117 rfl) (C.w 29 rfl) (C.w 118 rfl) (own_p15_2 l Z a0 C.ws  h5 n0 X4.old ) (argsL := [(.int (39 : Int32))]) (rest := []) (lenOf pd_6 rfl) rfl (by decide) (by decide) (Nat.le_of_ble_eq_true rfl) (by decide) (by decide) rfl rfl (pc' := 52) rfl d14_49 ?_
  rintro T18 _ _ ⟨rfl, rfl⟩ X19
  show Go p e below _ (T18.setTop (mkF m 52 #[rv a, iv (39 : Int32), un] [(.int (0 : Int32))]))
  refine go_if_eq C X19 d14_52 (pc' := 55) (pc2 := 105) rfl (by decide) (by decide) (fun (c52 : (0 : Int32) = (0 : Int32)) => ?_) (fun (c52 : ¬ (0 : Int32) = (0 : Int32)) => False.elim (by first | omega | exact absurd c52 (by decide)))
  refine go_aloadN C X19 106 rfl d14_105 rfl rfl ?_
  refine go_getF C X19 (C.w 48 rfl) Via.refl F13 (pc' := 109) rfl d14_106 (fun T21 X22 => ?_)
  refine go_lconst C X22 110 rfl d14_109 (z := 0) rfl ?_
  refine go_lif_eq C X22 (pc1 := 111) rfl d14_110 d14_111 (pc' := 114) (pc2 := 128) rfl (by decide) (by decide) (fun (c111 : (0 : Int64) = (0 : Int64)) => ?_) (fun (c111 : ¬ (0 : Int64) = (0 : Int64)) => False.elim (by first | omega | exact absurd c111 (by decide)))
  refine go_aloadN C X22 129 rfl d14_128 rfl rfl ?_
  refine go_lconst C X22 130 rfl d14_129 (z := 0) rfl ?_
  refine go_putF C X22 (C.w 48 rfl) Via.refl F13 E10 (Or.inl (C.w 49 rfl)) (C.w 28 rfl) ga (ty := .long) (by decide) rfl rfl (pc' := 133) rfl d14_130 (fun T23 h25 W26 X24 => ?_)
  have F27 := F13.same W26
  have SQ28 : Safe Z consts_1 s.vm _ a := (safeE C E10 (by decide) (by decide))
  have WI29 := WI9.wr W26 SQ28
  have E30 := E10.wr W26
  have F31 := F11.other W26 (Or.inr (slot_ne (Or.inl (C.w 45 rfl)) (Or.inl (C.w 49 rfl)) (by decide) (t := (.object "com/example/plantilla/plantilla/ScriptText$Mode")) (t' := .long) (by decide) (by decide)))
  have F32 := F12.other W26 (Or.inr (slot_ne (Or.inl (C.w 47 rfl)) (Or.inl (C.w 49 rfl)) (by decide) (t := .boolean) (t' := .long) (by decide) (by decide)))
  have F33 := F14.other W26 (Or.inr (slot_ne (Or.inl (C.w 51 rfl)) (Or.inl (C.w 49 rfl)) (by decide) (t := .boolean) (t' := .long) (by decide) (by decide)))
  have F34 := F15.other W26 (Or.inr (slot_ne (Or.inl (C.w 53 rfl)) (Or.inl (C.w 49 rfl)) (by decide) (t := .int) (t' := .long) (by decide) (by decide)))
  have F35 := F16.other W26 (Or.inr (slot_ne (Or.inl (C.w 55 rfl)) (Or.inl (C.w 49 rfl)) (by decide) (t := .long) (t' := .long) (by decide) (by decide)))
  have F36 := F7.other W26 (Or.inr (slot_ne (Or.inl (C.w 57 rfl)) (Or.inl (C.w 49 rfl)) (by decide) (t := .int) (t' := .long) (by decide) (by decide)))
  have K37 := K17.wr W26 (Or.inl (List.mem_of_getElem? (i := 0) rfl))
  refine go_iloadN C X24 134 rfl d14_133 rfl ?_
  refine go_callS C X24 (C.w 119 rfl) (C.w 120 rfl) (C.w 29 rfl) (C.w 121 rfl) (own_p16_3 l Z a0 C.ws  h25 n0 X24.old ) (argsL := [(.int (39 : Int32))]) (rest := []) (lenOf pd_6 rfl) rfl (by decide) (by decide) (Nat.le_of_ble_eq_true rfl) (by decide) (by decide) rfl rfl (pc' := 137) rfl d14_134 ?_
  rintro T38 _ _ ⟨rfl, rfl⟩ X39
  show Go p e below _ (T38.setTop (mkF m 137 #[rv a, iv (39 : Int32), un] [(.int (0 : Int32))]))
  refine go_if_ne C X39 d14_137 (pc' := 140) (pc2 := 145) rfl (by decide) (by decide) (fun (c137 : ¬ (0 : Int32) = (0 : Int32)) => False.elim (by first | omega | exact absurd c137 (by decide))) (fun (c137 : (0 : Int32) = (0 : Int32)) => ?_)
  refine go_aloadN C X39 141 rfl d14_140 rfl rfl ?_
  refine go_iloadN C X39 142 rfl d14_141 rfl ?_
  refine go_private C X39 E30 (C.w 122 rfl) (C.w 123 rfl) (Jvm.Kit.selects_private (by decide) (C.w 28 rfl) (C.w 124 rfl) (C.w 123 rfl)) (C.w 124 rfl) (C.w 29 rfl) (C.w 125 rfl) (own_m17_4 l Z a0 C.ws a mc ms mt md be cs fv  h25 n0 X39.old hE  ⟨E30, F31, F32, F27, F33, F34, F35, F36⟩ ga) (argsL := [(.int (39 : Int32))]) (rest := []) (lenOf pd_7 rfl) rfl (by decide) (by decide) (Nat.le_of_ble_eq_true rfl) (by decide) (by decide) rfl rfl (pc' := 145) rfl d14_142 ?_
  rintro T41 h43 _ ⟨rfl, Kq44, Eq44, Fq440, Fq441, Fq442, Fq443, Fq444, Fq445, Fq446⟩ X42
  show Go p e below _ (T41.setTop (mkF m 145 #[rv a, iv (39 : Int32), un] []))
  have WI45 := WI29.keep Kq44 (sfS (safeE C E30 (by decide) (by decide)) sf0)
  have E46 := E30.keep Kq44
  have K47 := K37.trans Kq44 (allS (Or.inl (List.mem_of_getElem? (i := 0) rfl)) all0)
  refine go_aloadN C X42 146 rfl d14_145 rfl rfl ?_
  refine go_getF C X42 (C.w 56 rfl) Via.refl Fq446 (pc' := 149) rfl d14_146 (fun T48 X49 => ?_)
  refine go_ldcHX C X49 WI45 hEL (C.w 126 rfl) (own_wS C.ws) (List.mem_of_getElem? (i := 0) rfl) (vs := [.int 60, .int 33, .int 45, .int 45]) (z := 4) own_lit120 (by decide) (by decide) (q := 16) own_len120 (by decide) (by decide) (by decide) (pc' := 151) rfl d14_149 ?_
  intro s T50 h52 la lb C WI54 E53 EL0 GL1 GL2 AL SF hLd X51
  have E55 := Eq44.ext E53
  have F56 := Fq440.ext E53
  have F57 := Fq441.ext E53
  have F58 := Fq442.ext E53
  have F59 := Fq443.ext E53
  have F60 := Fq444.ext E53
  have F61 := Fq445.ext E53
  have F62 := Fq446.ext E53
  have K63 := K47.ext E53
  have nab := SF a (safeE C E55 (by decide) (by decide))
  replace AL : La Z h52 lb .byte (ia [60, 33, 45, 45]) := AL
  refine go_virtual C X51 EL0 (C.w 63 rfl) (C.w 64 rfl) (notFace_of_selects (args := #[]) (mvT C.hZ (C.w 66 rfl))) (C.w 66 rfl) (C.w 65 rfl) (C.w 3 rfl) (C.w 67 rfl) (own_len l Z a0 C.ws la lb [60, 33, 45, 45] (4 : Int32) cs fv h52 n0 X51.old EL0 GL1 GL2 AL rfl hcs S1 hfv S2) (argsL := []) (rest := [(.int (0 : Int32))]) (lenOf pd_8 rfl) rfl (by decide) (by decide) (Nat.le_of_ble_eq_true rfl) (by decide) (by decide) rfl rfl (pc' := 154) rfl d14_151 ?_
  rintro T64 _ _ ⟨rfl, rfl⟩ X65
  show Go p e below _ (T64.setTop (mkF m 154 #[rv a, iv (39 : Int32), un] [(.int (4 : Int32)), (.int (0 : Int32))]))
  refine go_icmp_ne C X65 d14_154 (pc' := 157) (pc2 := 169) rfl (by decide) (by decide) (fun (c154 : ¬ (0 : Int32) = (4 : Int32)) => ?_) (fun (c154 : (0 : Int32) = (4 : Int32)) => False.elim (by first | omega | exact absurd c154 (by decide)))
  exact go_ret0X C X65 WI54 hEL d14_169 (fun vm' W9 => ⟨rfl, K63, ⟨E55, F56, F57, F58, F59, F60, F61, F62⟩, la, lb, hLd.warm W9, ⟨EL0, GL1, GL2, AL⟩, Ne.symm nab.1, Ne.symm nab.2⟩) (by decide) (by decide)
theorem own_cold39_r (l : Launch) (Z : State) (a0 : Array Value) (hw : ∀ d ∈ tables_1, d.before a0 Z = true) (mc ms mt md be : Addr) (cs : Int32) (fv : Value)  (hEL : EW Z a0 consts_1) (hE : own_E Z mc ms mt md be cs fv) : own_RCX l Z (mc, 1, 0, 0, 0, 0, 0) (39 : Int32) (ms, 1, 0, 0, 0, 0, 0) := fun h n0 a ho ga hS => own_cold39 l Z a0 hw a  mc ms mt md be cs fv  h n0 ho hEL hE  hS ga
theorem ef_own_p15_5 (m : MethodId)   : entryFrame m #[(.int (41 : Int32))] 2 = mkF m 0 #[iv (41 : Int32), un] [] := by
  first | (simp [entryFrame, mkF, argsToLocals, Value.category]; done) | rfl
set_option maxRecDepth 65536 in
set_option maxHeartbeats 40000000 in
theorem own_p15_5 (l : Launch) (Z : State) (a0 : Array Value) (hw : ∀ d ∈ tables_1, d.before a0 Z = true)   (h : Heap) (n0 : Nat) (hn0 : Old Z n0 h)  :
    Con l Z (⟨"com/example/plantilla/plantilla/ScriptText", "isWordCharacter", "(C)Z"⟩ : MethodName) prog_37_method_21_code 2 (some .boolean) ({ frames := 0, cells := 0, slots := 0, locals := 0 } : Room) #[(.int (41 : Int32))] h n0 (fun v h' => v = some (.int (0 : Int32)) ∧ h = h') := by
  refine con_of hw (plainFor_of_name pn_com_example_plantilla_plantilla_ScriptText) hn0 ?_
  intro p e s m below meth c T0 C X0
  refine Go.cast (congrArg T0.setTop (ef_own_p15_5 m )) ?_
  refine go_iloadN C X0 1 rfl d15_0 rfl ?_
  refine go_bipush C X0 3 rfl d15_1 (z := 97) rfl ?_
  refine go_icmp_lt C X0 d15_3 (pc' := 6) (pc2 := 12) rfl (by decide) (by decide) (fun (c3 : 41 < 97) => ?_) (fun (c3 : 97 ≤ 41) => False.elim (by first | omega | exact absurd c3 (by decide)))
  refine go_iloadN C X0 13 rfl d15_12 rfl ?_
  refine go_bipush C X0 15 rfl d15_13 (z := 65) rfl ?_
  refine go_icmp_lt C X0 d15_15 (pc' := 18) (pc2 := 24) rfl (by decide) (by decide) (fun (c15 : 41 < 65) => ?_) (fun (c15 : 65 ≤ 41) => False.elim (by first | omega | exact absurd c15 (by decide)))
  refine go_iloadN C X0 25 rfl d15_24 rfl ?_
  refine go_bipush C X0 27 rfl d15_25 (z := 48) rfl ?_
  refine go_icmp_lt C X0 d15_27 (pc' := 30) (pc2 := 36) rfl (by decide) (by decide) (fun (c27 : 41 < 48) => ?_) (fun (c27 : 48 ≤ 41) => False.elim (by first | omega | exact absurd c27 (by decide)))
  refine go_iloadN C X0 37 rfl d15_36 rfl ?_
  refine go_bipush C X0 39 rfl d15_37 (z := 95) rfl ?_
  refine go_icmp_eq C X0 d15_39 (pc' := 42) (pc2 := 48) rfl (by decide) (by decide) (fun (c39 : (41 : Int32) = (95 : Int32)) => False.elim (by first | omega | exact absurd c39 (by decide))) (fun (c39 : ¬ (41 : Int32) = (95 : Int32)) => ?_)
  refine go_iloadN C X0 43 rfl d15_42 rfl ?_
  refine go_bipush C X0 45 rfl d15_43 (z := 36) rfl ?_
  refine go_icmp_ne C X0 d15_45 (pc' := 48) (pc2 := 52) rfl (by decide) (by decide) (fun (c45 : ¬ (41 : Int32) = (36 : Int32)) => ?_) (fun (c45 : (41 : Int32) = (36 : Int32)) => False.elim (by first | omega | exact absurd c45 (by decide)))
  refine go_iconst C X0 53 rfl d15_52 (z := 0) rfl ?_
  refine go_istoreN C X0 54 rfl d15_53 #[iv (41 : Int32), iv (0 : Int32)] rfl ?_
  refine go_iloadN C X0 55 rfl d15_54 rfl ?_
  refine go_if_ne C X0 d15_55 (pc' := 58) (pc2 := 72) rfl (by decide) (by decide) (fun (c55 : ¬ (0 : Int32) = (0 : Int32)) => False.elim (by first | omega | exact absurd c55 (by decide))) (fun (c55 : (0 : Int32) = (0 : Int32)) => ?_)
  refine go_iloadN C X0 59 rfl d15_58 rfl ?_
  refine go_sipush C X0 62 rfl d15_59 (z := 128) rfl ?_
  refine go_icmp_lt C X0 d15_62 (pc' := 65) (pc2 := 76) rfl (by decide) (by decide) (fun (c62 : 41 < 128) => ?_) (fun (c62 : 128 ≤ 41) => False.elim (by first | omega | exact absurd c62 (by decide)))
  refine go_iconst C X0 77 rfl d15_76 (z := 0) rfl ?_
  exact go_retN C X0 (by simp) (z' := 0) rfl d15_77 ⟨rfl, rfl⟩ (by decide) (by decide)
theorem ef_own_p16_6 (m : MethodId)   : entryFrame m #[(.int (41 : Int32))] 2 = mkF m 0 #[iv (41 : Int32), un] [] := by
  first | (simp [entryFrame, mkF, argsToLocals, Value.category]; done) | rfl
set_option maxRecDepth 65536 in
set_option maxHeartbeats 40000000 in
theorem own_p16_6 (l : Launch) (Z : State) (a0 : Array Value) (hw : ∀ d ∈ tables_1, d.before a0 Z = true)   (h : Heap) (n0 : Nat) (hn0 : Old Z n0 h)  :
    Con l Z (⟨"com/example/plantilla/plantilla/ScriptText", "isSpace", "(C)Z"⟩ : MethodName) prog_37_method_22_code 2 (some .boolean) ({ frames := 0, cells := 0, slots := 0, locals := 0 } : Room) #[(.int (41 : Int32))] h n0 (fun v h' => v = some (.int (0 : Int32)) ∧ h = h') := by
  refine con_of hw (plainFor_of_name pn_com_example_plantilla_plantilla_ScriptText) hn0 ?_
  intro p e s m below meth c T0 C X0
  refine Go.cast (congrArg T0.setTop (ef_own_p16_6 m )) ?_
  refine go_iloadN C X0 1 rfl d16_0 rfl ?_
  refine go_bipush C X0 3 rfl d16_1 (z := 32) rfl ?_
  refine go_icmp_eq C X0 d16_3 (pc' := 6) (pc2 := 36) rfl (by decide) (by decide) (fun (c3 : (41 : Int32) = (32 : Int32)) => False.elim (by first | omega | exact absurd c3 (by decide))) (fun (c3 : ¬ (41 : Int32) = (32 : Int32)) => ?_)
  refine go_iloadN C X0 7 rfl d16_6 rfl ?_
  refine go_bipush C X0 9 rfl d16_7 (z := 9) rfl ?_
  refine go_icmp_eq C X0 d16_9 (pc' := 12) (pc2 := 36) rfl (by decide) (by decide) (fun (c9 : (41 : Int32) = (9 : Int32)) => False.elim (by first | omega | exact absurd c9 (by decide))) (fun (c9 : ¬ (41 : Int32) = (9 : Int32)) => ?_)
  refine go_iloadN C X0 13 rfl d16_12 rfl ?_
  refine go_bipush C X0 15 rfl d16_13 (z := 10) rfl ?_
  refine go_icmp_eq C X0 d16_15 (pc' := 18) (pc2 := 36) rfl (by decide) (by decide) (fun (c15 : (41 : Int32) = (10 : Int32)) => False.elim (by first | omega | exact absurd c15 (by decide))) (fun (c15 : ¬ (41 : Int32) = (10 : Int32)) => ?_)
  refine go_iloadN C X0 19 rfl d16_18 rfl ?_
  refine go_bipush C X0 21 rfl d16_19 (z := 13) rfl ?_
  refine go_icmp_eq C X0 d16_21 (pc' := 24) (pc2 := 36) rfl (by decide) (by decide) (fun (c21 : (41 : Int32) = (13 : Int32)) => False.elim (by first | omega | exact absurd c21 (by decide))) (fun (c21 : ¬ (41 : Int32) = (13 : Int32)) => ?_)
  refine go_iloadN C X0 25 rfl d16_24 rfl ?_
  refine go_bipush C X0 27 rfl d16_25 (z := 12) rfl ?_
  refine go_icmp_eq C X0 d16_27 (pc' := 30) (pc2 := 36) rfl (by decide) (by decide) (fun (c27 : (41 : Int32) = (12 : Int32)) => False.elim (by first | omega | exact absurd c27 (by decide))) (fun (c27 : ¬ (41 : Int32) = (12 : Int32)) => ?_)
  refine go_iloadN C X0 31 rfl d16_30 rfl ?_
  refine go_bipush C X0 33 rfl d16_31 (z := 11) rfl ?_
  refine go_icmp_ne C X0 d16_33 (pc' := 36) (pc2 := 40) rfl (by decide) (by decide) (fun (c33 : ¬ (41 : Int32) = (11 : Int32)) => ?_) (fun (c33 : (41 : Int32) = (11 : Int32)) => False.elim (by first | omega | exact absurd c33 (by decide)))
  refine go_iconst C X0 41 rfl d16_40 (z := 0) rfl ?_
  refine go_istoreN C X0 42 rfl d16_41 #[iv (41 : Int32), iv (0 : Int32)] rfl ?_
  refine go_iloadN C X0 43 rfl d16_42 rfl ?_
  refine go_if_ne C X0 d16_43 (pc' := 46) (pc2 := 66) rfl (by decide) (by decide) (fun (c43 : ¬ (0 : Int32) = (0 : Int32)) => False.elim (by first | omega | exact absurd c43 (by decide))) (fun (c43 : (0 : Int32) = (0 : Int32)) => ?_)
  refine go_iloadN C X0 47 rfl d16_46 rfl ?_
  refine go_sipush C X0 50 rfl d16_47 (z := 128) rfl ?_
  refine go_icmp_lt C X0 d16_50 (pc' := 53) (pc2 := 70) rfl (by decide) (by decide) (fun (c50 : 41 < 128) => ?_) (fun (c50 : 128 ≤ 41) => False.elim (by first | omega | exact absurd c50 (by decide)))
  refine go_iconst C X0 71 rfl d16_70 (z := 0) rfl ?_
  exact go_retN C X0 (by simp) (z' := 0) rfl d16_71 ⟨rfl, rfl⟩ (by decide) (by decide)
theorem d17_131 : decode prog_37_method_11_code 131 = .ok (.aload_n 0, 1) := by decide +kernel
theorem d17_132 : decode prog_37_method_11_code 132 = .ok (.iconst 0, 1) := by decide +kernel
theorem d17_133 : decode prog_37_method_11_code 133 = .ok (.putfield 27, 3) := by decide +kernel
theorem d17_136 : decode prog_37_method_11_code 136 = .ok (.goto 8, 3) := by decide +kernel
theorem ef_own_m17_7 (m : MethodId) (a : Addr)  : entryFrame m #[(.ref a), (.int (41 : Int32))] 2 = mkF m 0 #[rv a, iv (41 : Int32)] [] := by
  first | (simp [entryFrame, mkF, argsToLocals, Value.category]; done) | rfl
set_option maxRecDepth 65536 in
set_option maxHeartbeats 40000000 in
theorem own_m17_7 (l : Launch) (Z : State) (a0 : Array Value) (hw : ∀ d ∈ tables_1, d.before a0 Z = true) (a : Addr) (mc ms mt md be : Addr) (cs : Int32) (fv : Value)  (h : Heap) (n0 : Nat) (hn0 : Old Z n0 h) (hE : own_E Z mc ms mt md be cs fv)  (hS : own_F Z h a mc (1 : Int32) (0 : Int64) (0 : Int32) (0 : Int32) (0 : Int64) (0 : Int32)) (ga : n0 ≤ a) :
    Con l Z (⟨"com/example/plantilla/plantilla/ScriptText", "readPunctuator", "(C)V"⟩ : MethodName) prog_37_method_11_code 2 none ({ frames := 0, cells := 0, slots := 0, locals := 0 } : Room) #[(.ref a), (.int (41 : Int32))] h n0 (fun v h' => v = none ∧ Keep h h' [a] ∧ own_F Z h' a mc (0 : Int32) (0 : Int64) (0 : Int32) (0 : Int32) (0 : Int64) (0 : Int32)) := by
  refine con_of hw (plainFor_of_name pn_com_example_plantilla_plantilla_ScriptText) hn0 ?_
  intro p e s m below meth c T0 C X0
  refine Go.cast (congrArg T0.setTop (ef_own_m17_7 m a)) ?_
  have hE1 := hE
  obtain ⟨SM0, SM1, SM2, SM3, EM0, EM1, EM2, EM3, FM0, FM1, FM2, FM3, SB, AB, hcs, S1, hfv, S2⟩ := hE1
  obtain ⟨E0, FF0, FF1, FF2, FF3, FF4, FF5, FF6⟩ := hS
  refine go_iloadN C X0 1 rfl d17_0 rfl ?_
  refine go_lookHit C X0 d17_1 (by first | decide | (simp; done)) (q := 41) (off := 130) (by first | decide | rfl | (simp; done)) (pc2 := 131) (by decide) (by decide) ?_
  refine go_aloadN C X0 132 rfl d17_131 rfl rfl ?_
  refine go_iconst C X0 133 rfl d17_132 (z := 0) rfl ?_
  refine go_putFN C X0 (C.w 46 rfl) Via.refl FF1 E0 (Or.inl (C.w 47 rfl)) (C.w 28 rfl) ga (ty := .boolean) (by decide) (v' := (.int (0 : Int32))) rfl rfl (pc' := 136) rfl d17_133 (fun T1 h3 W4 X2 => ?_)
  have F5 := FF1.same W4
  have E6 := E0.wr W4
  have F7 := FF0.other W4 (Or.inr (slot_ne (Or.inl (C.w 45 rfl)) (Or.inl (C.w 47 rfl)) (by decide) (t := (.object "com/example/plantilla/plantilla/ScriptText$Mode")) (t' := .boolean) (by decide) (by decide)))
  have F8 := FF2.other W4 (Or.inr (slot_ne (Or.inl (C.w 49 rfl)) (Or.inl (C.w 47 rfl)) (by decide) (t := .long) (t' := .boolean) (by decide) (by decide)))
  have F9 := FF3.other W4 (Or.inr (slot_ne (Or.inl (C.w 51 rfl)) (Or.inl (C.w 47 rfl)) (by decide) (t := .boolean) (t' := .boolean) (by decide) (by decide)))
  have F10 := FF4.other W4 (Or.inr (slot_ne (Or.inl (C.w 53 rfl)) (Or.inl (C.w 47 rfl)) (by decide) (t := .int) (t' := .boolean) (by decide) (by decide)))
  have F11 := FF5.other W4 (Or.inr (slot_ne (Or.inl (C.w 55 rfl)) (Or.inl (C.w 47 rfl)) (by decide) (t := .long) (t' := .boolean) (by decide) (by decide)))
  have F12 := FF6.other W4 (Or.inr (slot_ne (Or.inl (C.w 57 rfl)) (Or.inl (C.w 47 rfl)) (by decide) (t := .int) (t' := .boolean) (by decide) (by decide)))
  have K13 := (Keep.refl h [a]).wr W4 (Or.inl (List.mem_of_getElem? (i := 0) rfl))
  refine go_goto C X2 d17_136 (pc' := 144) (by decide) (by decide) ?_
  exact go_ret0 C X2 d17_144 ⟨rfl, K13, E6, F7, F5, F8, F9, F10, F11, F12⟩ (by decide) (by decide)
theorem ef_own_cold41 (m : MethodId) (a : Addr)  : entryFrame m #[(.ref a), (.int (41 : Int32))] 3 = mkF m 0 #[rv a, iv (41 : Int32), un] [] := by
  first | (simp [entryFrame, mkF, argsToLocals, Value.category]; done) | rfl
set_option maxRecDepth 65536 in
set_option maxHeartbeats 40000000 in
theorem own_cold41 (l : Launch) (Z : State) (a0 : Array Value) (hw : ∀ d ∈ tables_1, d.before a0 Z = true) (a : Addr) (mc ms mt md be : Addr) (cs : Int32) (fv : Value)  (h : Heap) (n0 : Nat) (hn0 : Old Z n0 h) (hEL : EW Z a0 consts_1) (hE : own_E Z mc ms mt md be cs fv)  (hS : own_F Z h a mc (1 : Int32) (0 : Int64) (0 : Int32) (0 : Int32) (0 : Int64) (0 : Int32)) (ga : n0 ≤ a) :
    ConX l Z consts_1 (fun _ => True) (⟨"com/example/plantilla/plantilla/ScriptText", "readCode", "(C)V"⟩ : MethodName) prog_37_method_10_code 3 none ({ frames := 3, cells := 2, slots := 20, locals := 60 } : Room) #[(.ref a), (.int (41 : Int32))] h n0 (fun v h' vm' => v = none ∧ Keep h h' [a] ∧ own_F Z h' a mc (0 : Int32) (0 : Int64) (0 : Int32) (0 : Int32) (0 : Int64) (0 : Int32) ∧ ∃ la lb : Addr, LdV Z "com/example/plantilla/plantilla/ScriptText" 120 la vm' ∧ Sg Z h' la lb own_LT ∧ la ≠ a ∧ lb ≠ a) := by
  refine conX_of hw (plainFor_of_name pn_com_example_plantilla_plantilla_ScriptText) hn0 ?_
  intro p e sv0 s m below meth c T0 C _ WI0 X0
  refine Go.cast (congrArg T0.setTop (ef_own_cold41 m a)) ?_
  have hE1 := hE
  obtain ⟨SM0, SM1, SM2, SM3, EM0, EM1, EM2, EM3, FM0, FM1, FM2, FM3, SB, AB, hcs, S1, hfv, S2⟩ := hE1
  obtain ⟨E0, FF0, FF1, FF2, FF3, FF4, FF5, FF6⟩ := hS
  refine go_aloadN C X0 1 rfl d14_0 rfl rfl ?_
  refine go_getF C X0 (C.w 56 rfl) Via.refl FF6 (pc' := 4) rfl d14_1 (fun T1 X2 => ?_)
  refine go_if_le C X2 d14_4 (pc' := 7) (pc2 := 33) rfl (by decide) (by decide) (fun (c4 : 0 ≤ 0) => ?_) (fun (c4 : 0 < 0) => False.elim (by first | omega | exact absurd c4 (by decide)))
  refine go_aloadN C X2 34 rfl d14_33 rfl rfl ?_
  refine go_iloadN C X2 35 rfl d14_34 rfl ?_
  refine go_bipush C X2 37 rfl d14_35 (z := 60) rfl ?_
  refine go_icmp_ne C X2 d14_37 (pc' := 40) (pc2 := 44) rfl (by decide) (by decide) (fun (c37 : ¬ (41 : Int32) = (60 : Int32)) => ?_) (fun (c37 : (41 : Int32) = (60 : Int32)) => False.elim (by first | omega | exact absurd c37 (by decide)))
  refine go_iconst C X2 45 rfl d14_44 (z := 0) rfl ?_
  refine go_putF C X2 (C.w 56 rfl) Via.refl FF6 E0 (Or.inl (C.w 57 rfl)) (C.w 28 rfl) ga (ty := .int) (by decide) rfl rfl (pc' := 48) rfl d14_45 (fun T3 h5 W6 X4 => ?_)
  have F7 := FF6.same W6
  have SQ8 : Safe Z consts_1 s.vm _ a := (safeE C E0 (by decide) (by decide))
  have WI9 := WI0.wr W6 SQ8
  have E10 := E0.wr W6
  have F11 := FF0.other W6 (Or.inr (slot_ne (Or.inl (C.w 45 rfl)) (Or.inl (C.w 57 rfl)) (by decide) (t := (.object "com/example/plantilla/plantilla/ScriptText$Mode")) (t' := .int) (by decide) (by decide)))
  have F12 := FF1.other W6 (Or.inr (slot_ne (Or.inl (C.w 47 rfl)) (Or.inl (C.w 57 rfl)) (by decide) (t := .boolean) (t' := .int) (by decide) (by decide)))
  have F13 := FF2.other W6 (Or.inr (slot_ne (Or.inl (C.w 49 rfl)) (Or.inl (C.w 57 rfl)) (by decide) (t := .long) (t' := .int) (by decide) (by decide)))
  have F14 := FF3.other W6 (Or.inr (slot_ne (Or.inl (C.w 51 rfl)) (Or.inl (C.w 57 rfl)) (by decide) (t := .boolean) (t' := .int) (by decide) (by decide)))
  have F15 := FF4.other W6 (Or.inr (slot_ne (Or.inl (C.w 53 rfl)) (Or.inl (C.w 57 rfl)) (by decide) (t := .int) (t' := .int) (by decide) (by decide)))
  have F16 := FF5.other W6 (Or.inr (slot_ne (Or.inl (C.w 55 rfl)) (Or.inl (C.w 57 rfl)) (by decide) (t := .long) (t' := .int) (by decide) (by decide)))
  have K17 := (Keep.refl h [a]).wr W6 (Or.inl (List.mem_of_getElem? (i := 0) rfl))
  refine go_iloadN C X4 49 rfl d14_48 rfl ?_
  refine go_callS C X4 (C.w 116 rfl) (C.w 117 rfl) (C.w 29 rfl) (C.w 118 rfl) (own_p15_5 l Z a0 C.ws  h5 n0 X4.old ) (argsL := [(.int (41 : Int32))]) (rest := []) (lenOf pd_6 rfl) rfl (by decide) (by decide) (Nat.le_of_ble_eq_true rfl) (by decide) (by decide) rfl rfl (pc' := 52) rfl d14_49 ?_
  rintro T18 _ _ ⟨rfl, rfl⟩ X19
  show Go p e below _ (T18.setTop (mkF m 52 #[rv a, iv (41 : Int32), un] [(.int (0 : Int32))]))
  refine go_if_eq C X19 d14_52 (pc' := 55) (pc2 := 105) rfl (by decide) (by decide) (fun (c52 : (0 : Int32) = (0 : Int32)) => ?_) (fun (c52 : ¬ (0 : Int32) = (0 : Int32)) => False.elim (by first | omega | exact absurd c52 (by decide)))
  refine go_aloadN C X19 106 rfl d14_105 rfl rfl ?_
  refine go_getF C X19 (C.w 48 rfl) Via.refl F13 (pc' := 109) rfl d14_106 (fun T21 X22 => ?_)
  refine go_lconst C X22 110 rfl d14_109 (z := 0) rfl ?_
  refine go_lif_eq C X22 (pc1 := 111) rfl d14_110 d14_111 (pc' := 114) (pc2 := 128) rfl (by decide) (by decide) (fun (c111 : (0 : Int64) = (0 : Int64)) => ?_) (fun (c111 : ¬ (0 : Int64) = (0 : Int64)) => False.elim (by first | omega | exact absurd c111 (by decide)))
  refine go_aloadN C X22 129 rfl d14_128 rfl rfl ?_
  refine go_lconst C X22 130 rfl d14_129 (z := 0) rfl ?_
  refine go_putF C X22 (C.w 48 rfl) Via.refl F13 E10 (Or.inl (C.w 49 rfl)) (C.w 28 rfl) ga (ty := .long) (by decide) rfl rfl (pc' := 133) rfl d14_130 (fun T23 h25 W26 X24 => ?_)
  have F27 := F13.same W26
  have SQ28 : Safe Z consts_1 s.vm _ a := (safeE C E10 (by decide) (by decide))
  have WI29 := WI9.wr W26 SQ28
  have E30 := E10.wr W26
  have F31 := F11.other W26 (Or.inr (slot_ne (Or.inl (C.w 45 rfl)) (Or.inl (C.w 49 rfl)) (by decide) (t := (.object "com/example/plantilla/plantilla/ScriptText$Mode")) (t' := .long) (by decide) (by decide)))
  have F32 := F12.other W26 (Or.inr (slot_ne (Or.inl (C.w 47 rfl)) (Or.inl (C.w 49 rfl)) (by decide) (t := .boolean) (t' := .long) (by decide) (by decide)))
  have F33 := F14.other W26 (Or.inr (slot_ne (Or.inl (C.w 51 rfl)) (Or.inl (C.w 49 rfl)) (by decide) (t := .boolean) (t' := .long) (by decide) (by decide)))
  have F34 := F15.other W26 (Or.inr (slot_ne (Or.inl (C.w 53 rfl)) (Or.inl (C.w 49 rfl)) (by decide) (t := .int) (t' := .long) (by decide) (by decide)))
  have F35 := F16.other W26 (Or.inr (slot_ne (Or.inl (C.w 55 rfl)) (Or.inl (C.w 49 rfl)) (by decide) (t := .long) (t' := .long) (by decide) (by decide)))
  have F36 := F7.other W26 (Or.inr (slot_ne (Or.inl (C.w 57 rfl)) (Or.inl (C.w 49 rfl)) (by decide) (t := .int) (t' := .long) (by decide) (by decide)))
  have K37 := K17.wr W26 (Or.inl (List.mem_of_getElem? (i := 0) rfl))
  refine go_iloadN C X24 134 rfl d14_133 rfl ?_
  refine go_callS C X24 (C.w 119 rfl) (C.w 120 rfl) (C.w 29 rfl) (C.w 121 rfl) (own_p16_6 l Z a0 C.ws  h25 n0 X24.old ) (argsL := [(.int (41 : Int32))]) (rest := []) (lenOf pd_6 rfl) rfl (by decide) (by decide) (Nat.le_of_ble_eq_true rfl) (by decide) (by decide) rfl rfl (pc' := 137) rfl d14_134 ?_
  rintro T38 _ _ ⟨rfl, rfl⟩ X39
  show Go p e below _ (T38.setTop (mkF m 137 #[rv a, iv (41 : Int32), un] [(.int (0 : Int32))]))
  refine go_if_ne C X39 d14_137 (pc' := 140) (pc2 := 145) rfl (by decide) (by decide) (fun (c137 : ¬ (0 : Int32) = (0 : Int32)) => False.elim (by first | omega | exact absurd c137 (by decide))) (fun (c137 : (0 : Int32) = (0 : Int32)) => ?_)
  refine go_aloadN C X39 141 rfl d14_140 rfl rfl ?_
  refine go_iloadN C X39 142 rfl d14_141 rfl ?_
  refine go_private C X39 E30 (C.w 122 rfl) (C.w 123 rfl) (Jvm.Kit.selects_private (by decide) (C.w 28 rfl) (C.w 124 rfl) (C.w 123 rfl)) (C.w 124 rfl) (C.w 29 rfl) (C.w 125 rfl) (own_m17_7 l Z a0 C.ws a mc ms mt md be cs fv  h25 n0 X39.old hE  ⟨E30, F31, F32, F27, F33, F34, F35, F36⟩ ga) (argsL := [(.int (41 : Int32))]) (rest := []) (lenOf pd_7 rfl) rfl (by decide) (by decide) (Nat.le_of_ble_eq_true rfl) (by decide) (by decide) rfl rfl (pc' := 145) rfl d14_142 ?_
  rintro T41 h43 _ ⟨rfl, Kq44, Eq44, Fq440, Fq441, Fq442, Fq443, Fq444, Fq445, Fq446⟩ X42
  show Go p e below _ (T41.setTop (mkF m 145 #[rv a, iv (41 : Int32), un] []))
  have WI45 := WI29.keep Kq44 (sfS (safeE C E30 (by decide) (by decide)) sf0)
  have E46 := E30.keep Kq44
  have K47 := K37.trans Kq44 (allS (Or.inl (List.mem_of_getElem? (i := 0) rfl)) all0)
  refine go_aloadN C X42 146 rfl d14_145 rfl rfl ?_
  refine go_getF C X42 (C.w 56 rfl) Via.refl Fq446 (pc' := 149) rfl d14_146 (fun T48 X49 => ?_)
  refine go_ldcHX C X49 WI45 hEL (C.w 126 rfl) (own_wS C.ws) (List.mem_of_getElem? (i := 0) rfl) (vs := [.int 60, .int 33, .int 45, .int 45]) (z := 4) own_lit120 (by decide) (by decide) (q := 16) own_len120 (by decide) (by decide) (by decide) (pc' := 151) rfl d14_149 ?_
  intro s T50 h52 la lb C WI54 E53 EL0 GL1 GL2 AL SF hLd X51
  have E55 := Eq44.ext E53
  have F56 := Fq440.ext E53
  have F57 := Fq441.ext E53
  have F58 := Fq442.ext E53
  have F59 := Fq443.ext E53
  have F60 := Fq444.ext E53
  have F61 := Fq445.ext E53
  have F62 := Fq446.ext E53
  have K63 := K47.ext E53
  have nab := SF a (safeE C E55 (by decide) (by decide))
  replace AL : La Z h52 lb .byte (ia [60, 33, 45, 45]) := AL
  refine go_virtual C X51 EL0 (C.w 63 rfl) (C.w 64 rfl) (notFace_of_selects (args := #[]) (mvT C.hZ (C.w 66 rfl))) (C.w 66 rfl) (C.w 65 rfl) (C.w 3 rfl) (C.w 67 rfl) (own_len l Z a0 C.ws la lb [60, 33, 45, 45] (4 : Int32) cs fv h52 n0 X51.old EL0 GL1 GL2 AL rfl hcs S1 hfv S2) (argsL := []) (rest := [(.int (0 : Int32))]) (lenOf pd_8 rfl) rfl (by decide) (by decide) (Nat.le_of_ble_eq_true rfl) (by decide) (by decide) rfl rfl (pc' := 154) rfl d14_151 ?_
  rintro T64 _ _ ⟨rfl, rfl⟩ X65
  show Go p e below _ (T64.setTop (mkF m 154 #[rv a, iv (41 : Int32), un] [(.int (4 : Int32)), (.int (0 : Int32))]))
  refine go_icmp_ne C X65 d14_154 (pc' := 157) (pc2 := 169) rfl (by decide) (by decide) (fun (c154 : ¬ (0 : Int32) = (4 : Int32)) => ?_) (fun (c154 : (0 : Int32) = (4 : Int32)) => False.elim (by first | omega | exact absurd c154 (by decide)))
  exact go_ret0X C X65 WI54 hEL d14_169 (fun vm' W9 => ⟨rfl, K63, ⟨E55, F56, F57, F58, F59, F60, F61, F62⟩, la, lb, hLd.warm W9, ⟨EL0, GL1, GL2, AL⟩, Ne.symm nab.1, Ne.symm nab.2⟩) (by decide) (by decide)
theorem own_cold41_r (l : Launch) (Z : State) (a0 : Array Value) (hw : ∀ d ∈ tables_1, d.before a0 Z = true) (mc ms mt md be : Addr) (cs : Int32) (fv : Value)  (hEL : EW Z a0 consts_1) (hE : own_E Z mc ms mt md be cs fv) : own_RCX l Z (mc, 1, 0, 0, 0, 0, 0) (41 : Int32) (mc, 0, 0, 0, 0, 0, 0) := fun h n0 a ho ga hS => own_cold41 l Z a0 hw a  mc ms mt md be cs fv  h n0 ho hEL hE  hS ga
theorem d15_6 : decode prog_37_method_21_code 6 = .ok (.iload_n 0, 1) := by decide +kernel
theorem d15_7 : decode prog_37_method_21_code 7 = .ok (.bipush 122, 2) := by decide +kernel
theorem d15_9 : decode prog_37_method_21_code 9 = .ok (.if_icmp .le 39, 3) := by decide +kernel
theorem d15_18 : decode prog_37_method_21_code 18 = .ok (.iload_n 0, 1) := by decide +kernel
theorem d15_19 : decode prog_37_method_21_code 19 = .ok (.bipush 90, 2) := by decide +kernel
theorem d15_21 : decode prog_37_method_21_code 21 = .ok (.if_icmp .le 27, 3) := by decide +kernel
theorem d15_30 : decode prog_37_method_21_code 30 = .ok (.iload_n 0, 1) := by decide +kernel
theorem d15_31 : decode prog_37_method_21_code 31 = .ok (.bipush 57, 2) := by decide +kernel
theorem d15_33 : decode prog_37_method_21_code 33 = .ok (.if_icmp .le 15, 3) := by decide +kernel
theorem ef_own_p15_8 (m : MethodId)   : entryFrame m #[(.int (123 : Int32))] 2 = mkF m 0 #[iv (123 : Int32), un] [] := by
  first | (simp [entryFrame, mkF, argsToLocals, Value.category]; done) | rfl
set_option maxRecDepth 65536 in
set_option maxHeartbeats 40000000 in
theorem own_p15_8 (l : Launch) (Z : State) (a0 : Array Value) (hw : ∀ d ∈ tables_1, d.before a0 Z = true)   (h : Heap) (n0 : Nat) (hn0 : Old Z n0 h)  :
    Con l Z (⟨"com/example/plantilla/plantilla/ScriptText", "isWordCharacter", "(C)Z"⟩ : MethodName) prog_37_method_21_code 2 (some .boolean) ({ frames := 0, cells := 0, slots := 0, locals := 0 } : Room) #[(.int (123 : Int32))] h n0 (fun v h' => v = some (.int (0 : Int32)) ∧ h = h') := by
  refine con_of hw (plainFor_of_name pn_com_example_plantilla_plantilla_ScriptText) hn0 ?_
  intro p e s m below meth c T0 C X0
  refine Go.cast (congrArg T0.setTop (ef_own_p15_8 m )) ?_
  refine go_iloadN C X0 1 rfl d15_0 rfl ?_
  refine go_bipush C X0 3 rfl d15_1 (z := 97) rfl ?_
  refine go_icmp_lt C X0 d15_3 (pc' := 6) (pc2 := 12) rfl (by decide) (by decide) (fun (c3 : 123 < 97) => False.elim (by first | omega | exact absurd c3 (by decide))) (fun (c3 : 97 ≤ 123) => ?_)
  refine go_iloadN C X0 7 rfl d15_6 rfl ?_
  refine go_bipush C X0 9 rfl d15_7 (z := 122) rfl ?_
  refine go_icmp_le C X0 d15_9 (pc' := 12) (pc2 := 48) rfl (by decide) (by decide) (fun (c9 : 123 ≤ 122) => False.elim (by first | omega | exact absurd c9 (by decide))) (fun (c9 : 122 < 123) => ?_)
  refine go_iloadN C X0 13 rfl d15_12 rfl ?_
  refine go_bipush C X0 15 rfl d15_13 (z := 65) rfl ?_
  refine go_icmp_lt C X0 d15_15 (pc' := 18) (pc2 := 24) rfl (by decide) (by decide) (fun (c15 : 123 < 65) => False.elim (by first | omega | exact absurd c15 (by decide))) (fun (c15 : 65 ≤ 123) => ?_)
  refine go_iloadN C X0 19 rfl d15_18 rfl ?_
  refine go_bipush C X0 21 rfl d15_19 (z := 90) rfl ?_
  refine go_icmp_le C X0 d15_21 (pc' := 24) (pc2 := 48) rfl (by decide) (by decide) (fun (c21 : 123 ≤ 90) => False.elim (by first | omega | exact absurd c21 (by decide))) (fun (c21 : 90 < 123) => ?_)
  refine go_iloadN C X0 25 rfl d15_24 rfl ?_
  refine go_bipush C X0 27 rfl d15_25 (z := 48) rfl ?_
  refine go_icmp_lt C X0 d15_27 (pc' := 30) (pc2 := 36) rfl (by decide) (by decide) (fun (c27 : 123 < 48) => False.elim (by first | omega | exact absurd c27 (by decide))) (fun (c27 : 48 ≤ 123) => ?_)
  refine go_iloadN C X0 31 rfl d15_30 rfl ?_
  refine go_bipush C X0 33 rfl d15_31 (z := 57) rfl ?_
  refine go_icmp_le C X0 d15_33 (pc' := 36) (pc2 := 48) rfl (by decide) (by decide) (fun (c33 : 123 ≤ 57) => False.elim (by first | omega | exact absurd c33 (by decide))) (fun (c33 : 57 < 123) => ?_)
  refine go_iloadN C X0 37 rfl d15_36 rfl ?_
  refine go_bipush C X0 39 rfl d15_37 (z := 95) rfl ?_
  refine go_icmp_eq C X0 d15_39 (pc' := 42) (pc2 := 48) rfl (by decide) (by decide) (fun (c39 : (123 : Int32) = (95 : Int32)) => False.elim (by first | omega | exact absurd c39 (by decide))) (fun (c39 : ¬ (123 : Int32) = (95 : Int32)) => ?_)
  refine go_iloadN C X0 43 rfl d15_42 rfl ?_
  refine go_bipush C X0 45 rfl d15_43 (z := 36) rfl ?_
  refine go_icmp_ne C X0 d15_45 (pc' := 48) (pc2 := 52) rfl (by decide) (by decide) (fun (c45 : ¬ (123 : Int32) = (36 : Int32)) => ?_) (fun (c45 : (123 : Int32) = (36 : Int32)) => False.elim (by first | omega | exact absurd c45 (by decide)))
  refine go_iconst C X0 53 rfl d15_52 (z := 0) rfl ?_
  refine go_istoreN C X0 54 rfl d15_53 #[iv (123 : Int32), iv (0 : Int32)] rfl ?_
  refine go_iloadN C X0 55 rfl d15_54 rfl ?_
  refine go_if_ne C X0 d15_55 (pc' := 58) (pc2 := 72) rfl (by decide) (by decide) (fun (c55 : ¬ (0 : Int32) = (0 : Int32)) => False.elim (by first | omega | exact absurd c55 (by decide))) (fun (c55 : (0 : Int32) = (0 : Int32)) => ?_)
  refine go_iloadN C X0 59 rfl d15_58 rfl ?_
  refine go_sipush C X0 62 rfl d15_59 (z := 128) rfl ?_
  refine go_icmp_lt C X0 d15_62 (pc' := 65) (pc2 := 76) rfl (by decide) (by decide) (fun (c62 : 123 < 128) => ?_) (fun (c62 : 128 ≤ 123) => False.elim (by first | omega | exact absurd c62 (by decide)))
  refine go_iconst C X0 77 rfl d15_76 (z := 0) rfl ?_
  exact go_retN C X0 (by simp) (z' := 0) rfl d15_77 ⟨rfl, rfl⟩ (by decide) (by decide)
theorem ef_own_p16_9 (m : MethodId)   : entryFrame m #[(.int (123 : Int32))] 2 = mkF m 0 #[iv (123 : Int32), un] [] := by
  first | (simp [entryFrame, mkF, argsToLocals, Value.category]; done) | rfl
set_option maxRecDepth 65536 in
set_option maxHeartbeats 40000000 in
theorem own_p16_9 (l : Launch) (Z : State) (a0 : Array Value) (hw : ∀ d ∈ tables_1, d.before a0 Z = true)   (h : Heap) (n0 : Nat) (hn0 : Old Z n0 h)  :
    Con l Z (⟨"com/example/plantilla/plantilla/ScriptText", "isSpace", "(C)Z"⟩ : MethodName) prog_37_method_22_code 2 (some .boolean) ({ frames := 0, cells := 0, slots := 0, locals := 0 } : Room) #[(.int (123 : Int32))] h n0 (fun v h' => v = some (.int (0 : Int32)) ∧ h = h') := by
  refine con_of hw (plainFor_of_name pn_com_example_plantilla_plantilla_ScriptText) hn0 ?_
  intro p e s m below meth c T0 C X0
  refine Go.cast (congrArg T0.setTop (ef_own_p16_9 m )) ?_
  refine go_iloadN C X0 1 rfl d16_0 rfl ?_
  refine go_bipush C X0 3 rfl d16_1 (z := 32) rfl ?_
  refine go_icmp_eq C X0 d16_3 (pc' := 6) (pc2 := 36) rfl (by decide) (by decide) (fun (c3 : (123 : Int32) = (32 : Int32)) => False.elim (by first | omega | exact absurd c3 (by decide))) (fun (c3 : ¬ (123 : Int32) = (32 : Int32)) => ?_)
  refine go_iloadN C X0 7 rfl d16_6 rfl ?_
  refine go_bipush C X0 9 rfl d16_7 (z := 9) rfl ?_
  refine go_icmp_eq C X0 d16_9 (pc' := 12) (pc2 := 36) rfl (by decide) (by decide) (fun (c9 : (123 : Int32) = (9 : Int32)) => False.elim (by first | omega | exact absurd c9 (by decide))) (fun (c9 : ¬ (123 : Int32) = (9 : Int32)) => ?_)
  refine go_iloadN C X0 13 rfl d16_12 rfl ?_
  refine go_bipush C X0 15 rfl d16_13 (z := 10) rfl ?_
  refine go_icmp_eq C X0 d16_15 (pc' := 18) (pc2 := 36) rfl (by decide) (by decide) (fun (c15 : (123 : Int32) = (10 : Int32)) => False.elim (by first | omega | exact absurd c15 (by decide))) (fun (c15 : ¬ (123 : Int32) = (10 : Int32)) => ?_)
  refine go_iloadN C X0 19 rfl d16_18 rfl ?_
  refine go_bipush C X0 21 rfl d16_19 (z := 13) rfl ?_
  refine go_icmp_eq C X0 d16_21 (pc' := 24) (pc2 := 36) rfl (by decide) (by decide) (fun (c21 : (123 : Int32) = (13 : Int32)) => False.elim (by first | omega | exact absurd c21 (by decide))) (fun (c21 : ¬ (123 : Int32) = (13 : Int32)) => ?_)
  refine go_iloadN C X0 25 rfl d16_24 rfl ?_
  refine go_bipush C X0 27 rfl d16_25 (z := 12) rfl ?_
  refine go_icmp_eq C X0 d16_27 (pc' := 30) (pc2 := 36) rfl (by decide) (by decide) (fun (c27 : (123 : Int32) = (12 : Int32)) => False.elim (by first | omega | exact absurd c27 (by decide))) (fun (c27 : ¬ (123 : Int32) = (12 : Int32)) => ?_)
  refine go_iloadN C X0 31 rfl d16_30 rfl ?_
  refine go_bipush C X0 33 rfl d16_31 (z := 11) rfl ?_
  refine go_icmp_ne C X0 d16_33 (pc' := 36) (pc2 := 40) rfl (by decide) (by decide) (fun (c33 : ¬ (123 : Int32) = (11 : Int32)) => ?_) (fun (c33 : (123 : Int32) = (11 : Int32)) => False.elim (by first | omega | exact absurd c33 (by decide)))
  refine go_iconst C X0 41 rfl d16_40 (z := 0) rfl ?_
  refine go_istoreN C X0 42 rfl d16_41 #[iv (123 : Int32), iv (0 : Int32)] rfl ?_
  refine go_iloadN C X0 43 rfl d16_42 rfl ?_
  refine go_if_ne C X0 d16_43 (pc' := 46) (pc2 := 66) rfl (by decide) (by decide) (fun (c43 : ¬ (0 : Int32) = (0 : Int32)) => False.elim (by first | omega | exact absurd c43 (by decide))) (fun (c43 : (0 : Int32) = (0 : Int32)) => ?_)
  refine go_iloadN C X0 47 rfl d16_46 rfl ?_
  refine go_sipush C X0 50 rfl d16_47 (z := 128) rfl ?_
  refine go_icmp_lt C X0 d16_50 (pc' := 53) (pc2 := 70) rfl (by decide) (by decide) (fun (c50 : 123 < 128) => ?_) (fun (c50 : 128 ≤ 123) => False.elim (by first | omega | exact absurd c50 (by decide)))
  refine go_iconst C X0 71 rfl d16_70 (z := 0) rfl ?_
  exact go_retN C X0 (by simp) (z' := 0) rfl d16_71 ⟨rfl, rfl⟩ (by decide) (by decide)
theorem d17_116 : decode prog_37_method_11_code 116 = .ok (.aload_n 0, 1) := by decide +kernel
theorem d17_117 : decode prog_37_method_11_code 117 = .ok (.iconst 0, 1) := by decide +kernel
theorem d25_0 : decode prog_37_method_19_code 0 = .ok (.aload_n 0, 1) := by decide +kernel
theorem d25_1 : decode prog_37_method_19_code 1 = .ok (.getfield 40, 3) := by decide +kernel
theorem d25_4 : decode prog_37_method_19_code 4 = .ok (.bipush 64, 2) := by decide +kernel
theorem d25_6 : decode prog_37_method_19_code 6 = .ok (.if_icmp .lt 17, 3) := by decide +kernel
theorem d25_23 : decode prog_37_method_19_code 23 = .ok (.aload_n 0, 1) := by decide +kernel
theorem d25_24 : decode prog_37_method_19_code 24 = .ok (.getfield 40, 3) := by decide +kernel
theorem d25_27 : decode prog_37_method_19_code 27 = .ok (.bipush 64, 2) := by decide +kernel
theorem d25_29 : decode prog_37_method_19_code 29 = .ok (.if_icmp .ge 37, 3) := by decide +kernel
theorem d25_32 : decode prog_37_method_19_code 32 = .ok (.lconst 1, 1) := by decide +kernel
theorem d25_33 : decode prog_37_method_19_code 33 = .ok (.aload_n 0, 1) := by decide +kernel
theorem d25_34 : decode prog_37_method_19_code 34 = .ok (.getfield 40, 3) := by decide +kernel
theorem d25_37 : decode prog_37_method_19_code 37 = .ok (.lshl, 1) := by decide +kernel
theorem d25_38 : decode prog_37_method_19_code 38 = .ok (.lstore_n 2, 1) := by decide +kernel
theorem d25_39 : decode prog_37_method_19_code 39 = .ok (.aload_n 0, 1) := by decide +kernel
theorem d25_40 : decode prog_37_method_19_code 40 = .ok (.iload_n 1, 1) := by decide +kernel
theorem d25_41 : decode prog_37_method_19_code 41 = .ok (.ifCond .eq 12, 3) := by decide +kernel
theorem d25_53 : decode prog_37_method_19_code 53 = .ok (.aload_n 0, 1) := by decide +kernel
theorem d25_54 : decode prog_37_method_19_code 54 = .ok (.getfield 44, 3) := by decide +kernel
theorem d25_57 : decode prog_37_method_19_code 57 = .ok (.lload_n 2, 1) := by decide +kernel
theorem d25_58 : decode prog_37_method_19_code 58 = .ok (.ldc2_w 129, 3) := by decide +kernel
theorem d25_61 : decode prog_37_method_19_code 61 = .ok (.lxor, 1) := by decide +kernel
theorem d25_62 : decode prog_37_method_19_code 62 = .ok (.land, 1) := by decide +kernel
theorem d25_63 : decode prog_37_method_19_code 63 = .ok (.putfield 44, 3) := by decide +kernel
theorem d25_66 : decode prog_37_method_19_code 66 = .ok (.aload_n 0, 1) := by decide +kernel
theorem d25_67 : decode prog_37_method_19_code 67 = .ok (.dup, 1) := by decide +kernel
theorem d25_68 : decode prog_37_method_19_code 68 = .ok (.getfield 40, 3) := by decide +kernel
theorem d25_71 : decode prog_37_method_19_code 71 = .ok (.iconst 1, 1) := by decide +kernel
theorem d25_72 : decode prog_37_method_19_code 72 = .ok (.iadd, 1) := by decide +kernel
theorem d25_73 : decode prog_37_method_19_code 73 = .ok (.putfield 40, 3) := by decide +kernel
theorem d25_76 : decode prog_37_method_19_code 76 = .ok (.aload_n 0, 1) := by decide +kernel
theorem d25_77 : decode prog_37_method_19_code 77 = .ok (.getstatic 18, 3) := by decide +kernel
theorem d25_80 : decode prog_37_method_19_code 80 = .ok (.putfield 24, 3) := by decide +kernel
theorem d25_83 : decode prog_37_method_19_code 83 = .ok (.aload_n 0, 1) := by decide +kernel
theorem d25_84 : decode prog_37_method_19_code 84 = .ok (.iconst 1, 1) := by decide +kernel
theorem d25_85 : decode prog_37_method_19_code 85 = .ok (.putfield 27, 3) := by decide +kernel
theorem d25_88 : decode prog_37_method_19_code 88 = .ok (.return_, 1) := by decide +kernel
theorem ef_own_m25_11 (m : MethodId) (a : Addr)  : entryFrame m #[(.ref a), (.int (0 : Int32))] 4 = mkF m 0 #[rv a, iv (0 : Int32), un, un] [] := by
  first | (simp [entryFrame, mkF, argsToLocals, Value.category]; done) | rfl
set_option maxRecDepth 65536 in
set_option maxHeartbeats 40000000 in
theorem own_m25_11 (l : Launch) (Z : State) (a0 : Array Value) (hw : ∀ d ∈ tables_1, d.before a0 Z = true) (a : Addr) (mc ms mt md be : Addr) (cs : Int32) (fv : Value)  (h : Heap) (n0 : Nat) (hn0 : Old Z n0 h) (hE : own_E Z mc ms mt md be cs fv)  (hS : own_F Z h a mc (1 : Int32) (0 : Int64) (0 : Int32) (0 : Int32) (0 : Int64) (0 : Int32)) (ga : n0 ≤ a) :
    Con l Z (⟨"com/example/plantilla/plantilla/ScriptText", "openBrace", "(Z)V"⟩ : MethodName) prog_37_method_19_code 4 none ({ frames := 0, cells := 0, slots := 0, locals := 0 } : Room) #[(.ref a), (.int (0 : Int32))] h n0 (fun v h' => v = none ∧ Keep h h' [a] ∧ own_F Z h' a mc (1 : Int32) (0 : Int64) (0 : Int32) (1 : Int32) (0 : Int64) (0 : Int32)) := by
  refine con_of hw (plainFor_of_name pn_com_example_plantilla_plantilla_ScriptText) hn0 ?_
  intro p e s m below meth c T0 C X0
  refine Go.cast (congrArg T0.setTop (ef_own_m25_11 m a)) ?_
  have hE1 := hE
  obtain ⟨SM0, SM1, SM2, SM3, EM0, EM1, EM2, EM3, FM0, FM1, FM2, FM3, SB, AB, hcs, S1, hfv, S2⟩ := hE1
  obtain ⟨E0, FF0, FF1, FF2, FF3, FF4, FF5, FF6⟩ := hS
  refine go_aloadN C X0 1 rfl d25_0 rfl rfl ?_
  refine go_getF C X0 (C.w 52 rfl) Via.refl FF4 (pc' := 4) rfl d25_1 (fun T1 X2 => ?_)
  refine go_bipush C X2 6 rfl d25_4 (z := 64) rfl ?_
  refine go_icmp_lt C X2 d25_6 (pc' := 9) (pc2 := 23) rfl (by decide) (by decide) (fun (c6 : 0 < 64) => ?_) (fun (c6 : 64 ≤ 0) => False.elim (by first | omega | exact absurd c6 (by decide)))
  refine go_aloadN C X2 24 rfl d25_23 rfl rfl ?_
  refine go_getF C X2 (C.w 52 rfl) Via.refl FF4 (pc' := 27) rfl d25_24 (fun T3 X4 => ?_)
  refine go_bipush C X4 29 rfl d25_27 (z := 64) rfl ?_
  refine go_icmp_ge C X4 d25_29 (pc' := 32) (pc2 := 66) rfl (by decide) (by decide) (fun (c29 : 64 ≤ 0) => False.elim (by first | omega | exact absurd c29 (by decide))) (fun (c29 : 0 < 64) => ?_)
  refine go_lconst C X4 33 rfl d25_32 (z := 1) rfl ?_
  refine go_aloadN C X4 34 rfl d25_33 rfl rfl ?_
  refine go_getF C X4 (C.w 52 rfl) Via.refl FF4 (pc' := 37) rfl d25_34 (fun T5 X6 => ?_)
  refine go_lshl C X6 38 rfl d25_37 ?_
  show Go p e below _ (T5.setTop (mkF m 38 #[rv a, iv (0 : Int32), un, un] [(.long (1 : Int64))]))
  refine go_lstoreN C X6 39 rfl d25_38 #[rv a, iv (0 : Int32), jv (1 : Int64), sc] rfl ?_
  refine go_aloadN C X6 40 rfl d25_39 rfl rfl ?_
  refine go_iloadN C X6 41 rfl d25_40 rfl ?_
  refine go_if_eq C X6 d25_41 (pc' := 44) (pc2 := 53) rfl (by decide) (by decide) (fun (c41 : (0 : Int32) = (0 : Int32)) => ?_) (fun (c41 : ¬ (0 : Int32) = (0 : Int32)) => False.elim (by first | omega | exact absurd c41 (by decide)))
  refine go_aloadN C X6 54 rfl d25_53 rfl rfl ?_
  refine go_getF C X6 (C.w 54 rfl) Via.refl FF5 (pc' := 57) rfl d25_54 (fun T7 X8 => ?_)
  refine go_lloadN C X8 58 rfl d25_57 rfl ?_
  refine go_ldc2Long C X8 (C.w 176 rfl) (pc' := 61) rfl d25_58 ?_
  refine go_lxorL C X8 62 rfl d25_61 (z := (-2)) rfl ?_
  refine go_landL C X8 63 rfl d25_62 (z := (0)) rfl ?_
  refine go_putF C X8 (C.w 54 rfl) Via.refl FF5 E0 (Or.inl (C.w 55 rfl)) (C.w 28 rfl) ga (ty := .long) (by decide) rfl rfl (pc' := 66) rfl d25_63 (fun T9 h11 W12 X10 => ?_)
  have F13 := FF5.same W12
  have E14 := E0.wr W12
  have F15 := FF0.other W12 (Or.inr (slot_ne (Or.inl (C.w 45 rfl)) (Or.inl (C.w 55 rfl)) (by decide) (t := (.object "com/example/plantilla/plantilla/ScriptText$Mode")) (t' := .long) (by decide) (by decide)))
  have F16 := FF1.other W12 (Or.inr (slot_ne (Or.inl (C.w 47 rfl)) (Or.inl (C.w 55 rfl)) (by decide) (t := .boolean) (t' := .long) (by decide) (by decide)))
  have F17 := FF2.other W12 (Or.inr (slot_ne (Or.inl (C.w 49 rfl)) (Or.inl (C.w 55 rfl)) (by decide) (t := .long) (t' := .long) (by decide) (by decide)))
  have F18 := FF3.other W12 (Or.inr (slot_ne (Or.inl (C.w 51 rfl)) (Or.inl (C.w 55 rfl)) (by decide) (t := .boolean) (t' := .long) (by decide) (by decide)))
  have F19 := FF4.other W12 (Or.inr (slot_ne (Or.inl (C.w 53 rfl)) (Or.inl (C.w 55 rfl)) (by decide) (t := .int) (t' := .long) (by decide) (by decide)))
  have F20 := FF6.other W12 (Or.inr (slot_ne (Or.inl (C.w 57 rfl)) (Or.inl (C.w 55 rfl)) (by decide) (t := .int) (t' := .long) (by decide) (by decide)))
  have K21 := (Keep.refl h [a]).wr W12 (Or.inl (List.mem_of_getElem? (i := 0) rfl))
  refine go_aloadN C X10 67 rfl d25_66 rfl rfl ?_
  refine go_dup C X10 68 rfl d25_67 rfl ?_
  refine go_getF C X10 (C.w 52 rfl) Via.refl F19 (pc' := 71) rfl d25_68 (fun T22 X23 => ?_)
  refine go_iconst C X23 72 rfl d25_71 (z := 1) rfl ?_
  refine go_iaddL C X23 73 rfl d25_72 (z := (1)) rfl ?_
  refine go_putF C X23 (C.w 52 rfl) Via.refl F19 E14 (Or.inl (C.w 53 rfl)) (C.w 28 rfl) ga (ty := .int) (by decide) rfl rfl (pc' := 76) rfl d25_73 (fun T24 h26 W27 X25 => ?_)
  have F28 := F19.same W27
  have E29 := E14.wr W27
  have F30 := F15.other W27 (Or.inr (slot_ne (Or.inl (C.w 45 rfl)) (Or.inl (C.w 53 rfl)) (by decide) (t := (.object "com/example/plantilla/plantilla/ScriptText$Mode")) (t' := .int) (by decide) (by decide)))
  have F31 := F16.other W27 (Or.inr (slot_ne (Or.inl (C.w 47 rfl)) (Or.inl (C.w 53 rfl)) (by decide) (t := .boolean) (t' := .int) (by decide) (by decide)))
  have F32 := F17.other W27 (Or.inr (slot_ne (Or.inl (C.w 49 rfl)) (Or.inl (C.w 53 rfl)) (by decide) (t := .long) (t' := .int) (by decide) (by decide)))
  have F33 := F18.other W27 (Or.inr (slot_ne (Or.inl (C.w 51 rfl)) (Or.inl (C.w 53 rfl)) (by decide) (t := .boolean) (t' := .int) (by decide) (by decide)))
  have F34 := F13.other W27 (Or.inr (slot_ne (Or.inl (C.w 55 rfl)) (Or.inl (C.w 53 rfl)) (by decide) (t := .long) (t' := .int) (by decide) (by decide)))
  have F35 := F20.other W27 (Or.inr (slot_ne (Or.inl (C.w 57 rfl)) (Or.inl (C.w 53 rfl)) (by decide) (t := .int) (t' := .int) (by decide) (by decide)))
  have K36 := K21.wr W27 (Or.inl (List.mem_of_getElem? (i := 0) rfl))
  refine go_aloadN C X25 77 rfl d25_76 rfl rfl ?_
  refine go_getS C X25 (C.w 41 rfl) (SM0.ext X25.old.2) (pc' := 80) rfl d25_77 (fun T37 X38 => ?_)
  refine go_putF C X38 (C.w 44 rfl) Via.refl F30 E29 (Or.inl (C.w 45 rfl)) (C.w 28 rfl) ga (ty := (.object "com/example/plantilla/plantilla/ScriptText$Mode")) (by decide) rfl rfl (pc' := 83) rfl d25_80 (fun T39 h41 W42 X40 => ?_)
  have F43 := F30.same W42
  have E44 := E29.wr W42
  have F45 := F31.other W42 (Or.inr (slot_ne (Or.inl (C.w 47 rfl)) (Or.inl (C.w 45 rfl)) (by decide) (t := .boolean) (t' := (.object "com/example/plantilla/plantilla/ScriptText$Mode")) (by decide) (by decide)))
  have F46 := F32.other W42 (Or.inr (slot_ne (Or.inl (C.w 49 rfl)) (Or.inl (C.w 45 rfl)) (by decide) (t := .long) (t' := (.object "com/example/plantilla/plantilla/ScriptText$Mode")) (by decide) (by decide)))
  have F47 := F33.other W42 (Or.inr (slot_ne (Or.inl (C.w 51 rfl)) (Or.inl (C.w 45 rfl)) (by decide) (t := .boolean) (t' := (.object "com/example/plantilla/plantilla/ScriptText$Mode")) (by decide) (by decide)))
  have F48 := F28.other W42 (Or.inr (slot_ne (Or.inl (C.w 53 rfl)) (Or.inl (C.w 45 rfl)) (by decide) (t := .int) (t' := (.object "com/example/plantilla/plantilla/ScriptText$Mode")) (by decide) (by decide)))
  have F49 := F34.other W42 (Or.inr (slot_ne (Or.inl (C.w 55 rfl)) (Or.inl (C.w 45 rfl)) (by decide) (t := .long) (t' := (.object "com/example/plantilla/plantilla/ScriptText$Mode")) (by decide) (by decide)))
  have F50 := F35.other W42 (Or.inr (slot_ne (Or.inl (C.w 57 rfl)) (Or.inl (C.w 45 rfl)) (by decide) (t := .int) (t' := (.object "com/example/plantilla/plantilla/ScriptText$Mode")) (by decide) (by decide)))
  have K51 := K36.wr W42 (Or.inl (List.mem_of_getElem? (i := 0) rfl))
  refine go_aloadN C X40 84 rfl d25_83 rfl rfl ?_
  refine go_iconst C X40 85 rfl d25_84 (z := 1) rfl ?_
  refine go_putFN C X40 (C.w 46 rfl) Via.refl F45 E44 (Or.inl (C.w 47 rfl)) (C.w 28 rfl) ga (ty := .boolean) (by decide) (v' := (.int (1 : Int32))) rfl rfl (pc' := 88) rfl d25_85 (fun T52 h54 W55 X53 => ?_)
  have F56 := F45.same W55
  have E57 := E44.wr W55
  have F58 := F43.other W55 (Or.inr (slot_ne (Or.inl (C.w 45 rfl)) (Or.inl (C.w 47 rfl)) (by decide) (t := (.object "com/example/plantilla/plantilla/ScriptText$Mode")) (t' := .boolean) (by decide) (by decide)))
  have F59 := F46.other W55 (Or.inr (slot_ne (Or.inl (C.w 49 rfl)) (Or.inl (C.w 47 rfl)) (by decide) (t := .long) (t' := .boolean) (by decide) (by decide)))
  have F60 := F47.other W55 (Or.inr (slot_ne (Or.inl (C.w 51 rfl)) (Or.inl (C.w 47 rfl)) (by decide) (t := .boolean) (t' := .boolean) (by decide) (by decide)))
  have F61 := F48.other W55 (Or.inr (slot_ne (Or.inl (C.w 53 rfl)) (Or.inl (C.w 47 rfl)) (by decide) (t := .int) (t' := .boolean) (by decide) (by decide)))
  have F62 := F49.other W55 (Or.inr (slot_ne (Or.inl (C.w 55 rfl)) (Or.inl (C.w 47 rfl)) (by decide) (t := .long) (t' := .boolean) (by decide) (by decide)))
  have F63 := F50.other W55 (Or.inr (slot_ne (Or.inl (C.w 57 rfl)) (Or.inl (C.w 47 rfl)) (by decide) (t := .int) (t' := .boolean) (by decide) (by decide)))
  have K64 := K51.wr W55 (Or.inl (List.mem_of_getElem? (i := 0) rfl))
  exact go_ret0 C X53 d25_88 ⟨rfl, K64, E57, F58, F56, F59, F60, F61, F62, F63⟩ (by decide) (by decide)
theorem pd_9 : parseMethodDescriptor "(Z)V" = some ⟨[.boolean], none⟩ := by decide +kernel
theorem d17_118 : decode prog_37_method_11_code 118 = .ok (.invokevirtual 154, 3) := by decide +kernel
theorem d17_121 : decode prog_37_method_11_code 121 = .ok (.goto 23, 3) := by decide +kernel
theorem ef_own_m17_10 (m : MethodId) (a : Addr)  : entryFrame m #[(.ref a), (.int (123 : Int32))] 2 = mkF m 0 #[rv a, iv (123 : Int32)] [] := by
  first | (simp [entryFrame, mkF, argsToLocals, Value.category]; done) | rfl
set_option maxRecDepth 65536 in
set_option maxHeartbeats 40000000 in
theorem own_m17_10 (l : Launch) (Z : State) (a0 : Array Value) (hw : ∀ d ∈ tables_1, d.before a0 Z = true) (a : Addr) (mc ms mt md be : Addr) (cs : Int32) (fv : Value)  (h : Heap) (n0 : Nat) (hn0 : Old Z n0 h) (hE : own_E Z mc ms mt md be cs fv)  (hS : own_F Z h a mc (1 : Int32) (0 : Int64) (0 : Int32) (0 : Int32) (0 : Int64) (0 : Int32)) (ga : n0 ≤ a) :
    Con l Z (⟨"com/example/plantilla/plantilla/ScriptText", "readPunctuator", "(C)V"⟩ : MethodName) prog_37_method_11_code 2 none ({ frames := 1, cells := 0, slots := 0, locals := 15 } : Room) #[(.ref a), (.int (123 : Int32))] h n0 (fun v h' => v = none ∧ Keep h h' [a] ∧ own_F Z h' a mc (1 : Int32) (0 : Int64) (0 : Int32) (1 : Int32) (0 : Int64) (0 : Int32)) := by
  refine con_of hw (plainFor_of_name pn_com_example_plantilla_plantilla_ScriptText) hn0 ?_
  intro p e s m below meth c T0 C X0
  refine Go.cast (congrArg T0.setTop (ef_own_m17_10 m a)) ?_
  have hE1 := hE
  obtain ⟨SM0, SM1, SM2, SM3, EM0, EM1, EM2, EM3, FM0, FM1, FM2, FM3, SB, AB, hcs, S1, hfv, S2⟩ := hE1
  obtain ⟨E0, FF0, FF1, FF2, FF3, FF4, FF5, FF6⟩ := hS
  refine go_iloadN C X0 1 rfl d17_0 rfl ?_
  refine go_lookHit C X0 d17_1 (by first | decide | (simp; done)) (q := 123) (off := 115) (by first | decide | rfl | (simp; done)) (pc2 := 116) (by decide) (by decide) ?_
  refine go_aloadN C X0 117 rfl d17_116 rfl rfl ?_
  refine go_iconst C X0 118 rfl d17_117 (z := 0) rfl ?_
  refine go_private C X0 E0 (C.w 164 rfl) (C.w 165 rfl) (Jvm.Kit.selects_private (by decide) (C.w 28 rfl) (C.w 166 rfl) (C.w 165 rfl)) (C.w 166 rfl) (C.w 29 rfl) (C.w 167 rfl) (own_m25_11 l Z a0 C.ws a mc ms mt md be cs fv  h n0 X0.old hE  ⟨E0, FF0, FF1, FF2, FF3, FF4, FF5, FF6⟩ ga) (argsL := [(.int (0 : Int32))]) (rest := []) (lenOf pd_9 rfl) rfl (by decide) (by decide) (Nat.le_of_ble_eq_true rfl) (by decide) (by decide) rfl rfl (pc' := 121) rfl d17_118 ?_
  rintro T1 h3 _ ⟨rfl, Kq4, Eq4, Fq40, Fq41, Fq42, Fq43, Fq44, Fq45, Fq46⟩ X2
  show Go p e below _ (T1.setTop (mkF m 121 #[rv a, iv (123 : Int32)] []))
  have E5 := E0.keep Kq4
  have K6 := (Keep.refl h [a]).trans Kq4 (allS (Or.inl (List.mem_of_getElem? (i := 0) rfl)) all0)
  refine go_goto C X2 d17_121 (pc' := 144) (by decide) (by decide) ?_
  exact go_ret0 C X2 d17_144 ⟨rfl, K6, Eq4, Fq40, Fq41, Fq42, Fq43, Fq44, Fq45, Fq46⟩ (by decide) (by decide)
theorem ef_own_cold123 (m : MethodId) (a : Addr)  : entryFrame m #[(.ref a), (.int (123 : Int32))] 3 = mkF m 0 #[rv a, iv (123 : Int32), un] [] := by
  first | (simp [entryFrame, mkF, argsToLocals, Value.category]; done) | rfl
set_option maxRecDepth 65536 in
set_option maxHeartbeats 40000000 in
theorem own_cold123 (l : Launch) (Z : State) (a0 : Array Value) (hw : ∀ d ∈ tables_1, d.before a0 Z = true) (a : Addr) (mc ms mt md be : Addr) (cs : Int32) (fv : Value)  (h : Heap) (n0 : Nat) (hn0 : Old Z n0 h) (hEL : EW Z a0 consts_1) (hE : own_E Z mc ms mt md be cs fv)  (hS : own_F Z h a mc (1 : Int32) (0 : Int64) (0 : Int32) (0 : Int32) (0 : Int64) (0 : Int32)) (ga : n0 ≤ a) :
    ConX l Z consts_1 (fun _ => True) (⟨"com/example/plantilla/plantilla/ScriptText", "readCode", "(C)V"⟩ : MethodName) prog_37_method_10_code 3 none ({ frames := 3, cells := 2, slots := 20, locals := 60 } : Room) #[(.ref a), (.int (123 : Int32))] h n0 (fun v h' vm' => v = none ∧ Keep h h' [a] ∧ own_F Z h' a mc (1 : Int32) (0 : Int64) (0 : Int32) (1 : Int32) (0 : Int64) (0 : Int32) ∧ ∃ la lb : Addr, LdV Z "com/example/plantilla/plantilla/ScriptText" 120 la vm' ∧ Sg Z h' la lb own_LT ∧ la ≠ a ∧ lb ≠ a) := by
  refine conX_of hw (plainFor_of_name pn_com_example_plantilla_plantilla_ScriptText) hn0 ?_
  intro p e sv0 s m below meth c T0 C _ WI0 X0
  refine Go.cast (congrArg T0.setTop (ef_own_cold123 m a)) ?_
  have hE1 := hE
  obtain ⟨SM0, SM1, SM2, SM3, EM0, EM1, EM2, EM3, FM0, FM1, FM2, FM3, SB, AB, hcs, S1, hfv, S2⟩ := hE1
  obtain ⟨E0, FF0, FF1, FF2, FF3, FF4, FF5, FF6⟩ := hS
  refine go_aloadN C X0 1 rfl d14_0 rfl rfl ?_
  refine go_getF C X0 (C.w 56 rfl) Via.refl FF6 (pc' := 4) rfl d14_1 (fun T1 X2 => ?_)
  refine go_if_le C X2 d14_4 (pc' := 7) (pc2 := 33) rfl (by decide) (by decide) (fun (c4 : 0 ≤ 0) => ?_) (fun (c4 : 0 < 0) => False.elim (by first | omega | exact absurd c4 (by decide)))
  refine go_aloadN C X2 34 rfl d14_33 rfl rfl ?_
  refine go_iloadN C X2 35 rfl d14_34 rfl ?_
  refine go_bipush C X2 37 rfl d14_35 (z := 60) rfl ?_
  refine go_icmp_ne C X2 d14_37 (pc' := 40) (pc2 := 44) rfl (by decide) (by decide) (fun (c37 : ¬ (123 : Int32) = (60 : Int32)) => ?_) (fun (c37 : (123 : Int32) = (60 : Int32)) => False.elim (by first | omega | exact absurd c37 (by decide)))
  refine go_iconst C X2 45 rfl d14_44 (z := 0) rfl ?_
  refine go_putF C X2 (C.w 56 rfl) Via.refl FF6 E0 (Or.inl (C.w 57 rfl)) (C.w 28 rfl) ga (ty := .int) (by decide) rfl rfl (pc' := 48) rfl d14_45 (fun T3 h5 W6 X4 => ?_)
  have F7 := FF6.same W6
  have SQ8 : Safe Z consts_1 s.vm _ a := (safeE C E0 (by decide) (by decide))
  have WI9 := WI0.wr W6 SQ8
  have E10 := E0.wr W6
  have F11 := FF0.other W6 (Or.inr (slot_ne (Or.inl (C.w 45 rfl)) (Or.inl (C.w 57 rfl)) (by decide) (t := (.object "com/example/plantilla/plantilla/ScriptText$Mode")) (t' := .int) (by decide) (by decide)))
  have F12 := FF1.other W6 (Or.inr (slot_ne (Or.inl (C.w 47 rfl)) (Or.inl (C.w 57 rfl)) (by decide) (t := .boolean) (t' := .int) (by decide) (by decide)))
  have F13 := FF2.other W6 (Or.inr (slot_ne (Or.inl (C.w 49 rfl)) (Or.inl (C.w 57 rfl)) (by decide) (t := .long) (t' := .int) (by decide) (by decide)))
  have F14 := FF3.other W6 (Or.inr (slot_ne (Or.inl (C.w 51 rfl)) (Or.inl (C.w 57 rfl)) (by decide) (t := .boolean) (t' := .int) (by decide) (by decide)))
  have F15 := FF4.other W6 (Or.inr (slot_ne (Or.inl (C.w 53 rfl)) (Or.inl (C.w 57 rfl)) (by decide) (t := .int) (t' := .int) (by decide) (by decide)))
  have F16 := FF5.other W6 (Or.inr (slot_ne (Or.inl (C.w 55 rfl)) (Or.inl (C.w 57 rfl)) (by decide) (t := .long) (t' := .int) (by decide) (by decide)))
  have K17 := (Keep.refl h [a]).wr W6 (Or.inl (List.mem_of_getElem? (i := 0) rfl))
  refine go_iloadN C X4 49 rfl d14_48 rfl ?_
  refine go_callS C X4 (C.w 116 rfl) (C.w 117 rfl) (C.w 29 rfl) (C.w 118 rfl) (own_p15_8 l Z a0 C.ws  h5 n0 X4.old ) (argsL := [(.int (123 : Int32))]) (rest := []) (lenOf pd_6 rfl) rfl (by decide) (by decide) (Nat.le_of_ble_eq_true rfl) (by decide) (by decide) rfl rfl (pc' := 52) rfl d14_49 ?_
  rintro T18 _ _ ⟨rfl, rfl⟩ X19
  show Go p e below _ (T18.setTop (mkF m 52 #[rv a, iv (123 : Int32), un] [(.int (0 : Int32))]))
  refine go_if_eq C X19 d14_52 (pc' := 55) (pc2 := 105) rfl (by decide) (by decide) (fun (c52 : (0 : Int32) = (0 : Int32)) => ?_) (fun (c52 : ¬ (0 : Int32) = (0 : Int32)) => False.elim (by first | omega | exact absurd c52 (by decide)))
  refine go_aloadN C X19 106 rfl d14_105 rfl rfl ?_
  refine go_getF C X19 (C.w 48 rfl) Via.refl F13 (pc' := 109) rfl d14_106 (fun T21 X22 => ?_)
  refine go_lconst C X22 110 rfl d14_109 (z := 0) rfl ?_
  refine go_lif_eq C X22 (pc1 := 111) rfl d14_110 d14_111 (pc' := 114) (pc2 := 128) rfl (by decide) (by decide) (fun (c111 : (0 : Int64) = (0 : Int64)) => ?_) (fun (c111 : ¬ (0 : Int64) = (0 : Int64)) => False.elim (by first | omega | exact absurd c111 (by decide)))
  refine go_aloadN C X22 129 rfl d14_128 rfl rfl ?_
  refine go_lconst C X22 130 rfl d14_129 (z := 0) rfl ?_
  refine go_putF C X22 (C.w 48 rfl) Via.refl F13 E10 (Or.inl (C.w 49 rfl)) (C.w 28 rfl) ga (ty := .long) (by decide) rfl rfl (pc' := 133) rfl d14_130 (fun T23 h25 W26 X24 => ?_)
  have F27 := F13.same W26
  have SQ28 : Safe Z consts_1 s.vm _ a := (safeE C E10 (by decide) (by decide))
  have WI29 := WI9.wr W26 SQ28
  have E30 := E10.wr W26
  have F31 := F11.other W26 (Or.inr (slot_ne (Or.inl (C.w 45 rfl)) (Or.inl (C.w 49 rfl)) (by decide) (t := (.object "com/example/plantilla/plantilla/ScriptText$Mode")) (t' := .long) (by decide) (by decide)))
  have F32 := F12.other W26 (Or.inr (slot_ne (Or.inl (C.w 47 rfl)) (Or.inl (C.w 49 rfl)) (by decide) (t := .boolean) (t' := .long) (by decide) (by decide)))
  have F33 := F14.other W26 (Or.inr (slot_ne (Or.inl (C.w 51 rfl)) (Or.inl (C.w 49 rfl)) (by decide) (t := .boolean) (t' := .long) (by decide) (by decide)))
  have F34 := F15.other W26 (Or.inr (slot_ne (Or.inl (C.w 53 rfl)) (Or.inl (C.w 49 rfl)) (by decide) (t := .int) (t' := .long) (by decide) (by decide)))
  have F35 := F16.other W26 (Or.inr (slot_ne (Or.inl (C.w 55 rfl)) (Or.inl (C.w 49 rfl)) (by decide) (t := .long) (t' := .long) (by decide) (by decide)))
  have F36 := F7.other W26 (Or.inr (slot_ne (Or.inl (C.w 57 rfl)) (Or.inl (C.w 49 rfl)) (by decide) (t := .int) (t' := .long) (by decide) (by decide)))
  have K37 := K17.wr W26 (Or.inl (List.mem_of_getElem? (i := 0) rfl))
  refine go_iloadN C X24 134 rfl d14_133 rfl ?_
  refine go_callS C X24 (C.w 119 rfl) (C.w 120 rfl) (C.w 29 rfl) (C.w 121 rfl) (own_p16_9 l Z a0 C.ws  h25 n0 X24.old ) (argsL := [(.int (123 : Int32))]) (rest := []) (lenOf pd_6 rfl) rfl (by decide) (by decide) (Nat.le_of_ble_eq_true rfl) (by decide) (by decide) rfl rfl (pc' := 137) rfl d14_134 ?_
  rintro T38 _ _ ⟨rfl, rfl⟩ X39
  show Go p e below _ (T38.setTop (mkF m 137 #[rv a, iv (123 : Int32), un] [(.int (0 : Int32))]))
  refine go_if_ne C X39 d14_137 (pc' := 140) (pc2 := 145) rfl (by decide) (by decide) (fun (c137 : ¬ (0 : Int32) = (0 : Int32)) => False.elim (by first | omega | exact absurd c137 (by decide))) (fun (c137 : (0 : Int32) = (0 : Int32)) => ?_)
  refine go_aloadN C X39 141 rfl d14_140 rfl rfl ?_
  refine go_iloadN C X39 142 rfl d14_141 rfl ?_
  refine go_private C X39 E30 (C.w 122 rfl) (C.w 123 rfl) (Jvm.Kit.selects_private (by decide) (C.w 28 rfl) (C.w 124 rfl) (C.w 123 rfl)) (C.w 124 rfl) (C.w 29 rfl) (C.w 125 rfl) (own_m17_10 l Z a0 C.ws a mc ms mt md be cs fv  h25 n0 X39.old hE  ⟨E30, F31, F32, F27, F33, F34, F35, F36⟩ ga) (argsL := [(.int (123 : Int32))]) (rest := []) (lenOf pd_7 rfl) rfl (by decide) (by decide) (Nat.le_of_ble_eq_true rfl) (by decide) (by decide) rfl rfl (pc' := 145) rfl d14_142 ?_
  rintro T41 h43 _ ⟨rfl, Kq44, Eq44, Fq440, Fq441, Fq442, Fq443, Fq444, Fq445, Fq446⟩ X42
  show Go p e below _ (T41.setTop (mkF m 145 #[rv a, iv (123 : Int32), un] []))
  have WI45 := WI29.keep Kq44 (sfS (safeE C E30 (by decide) (by decide)) sf0)
  have E46 := E30.keep Kq44
  have K47 := K37.trans Kq44 (allS (Or.inl (List.mem_of_getElem? (i := 0) rfl)) all0)
  refine go_aloadN C X42 146 rfl d14_145 rfl rfl ?_
  refine go_getF C X42 (C.w 56 rfl) Via.refl Fq446 (pc' := 149) rfl d14_146 (fun T48 X49 => ?_)
  refine go_ldcHX C X49 WI45 hEL (C.w 126 rfl) (own_wS C.ws) (List.mem_of_getElem? (i := 0) rfl) (vs := [.int 60, .int 33, .int 45, .int 45]) (z := 4) own_lit120 (by decide) (by decide) (q := 16) own_len120 (by decide) (by decide) (by decide) (pc' := 151) rfl d14_149 ?_
  intro s T50 h52 la lb C WI54 E53 EL0 GL1 GL2 AL SF hLd X51
  have E55 := Eq44.ext E53
  have F56 := Fq440.ext E53
  have F57 := Fq441.ext E53
  have F58 := Fq442.ext E53
  have F59 := Fq443.ext E53
  have F60 := Fq444.ext E53
  have F61 := Fq445.ext E53
  have F62 := Fq446.ext E53
  have K63 := K47.ext E53
  have nab := SF a (safeE C E55 (by decide) (by decide))
  replace AL : La Z h52 lb .byte (ia [60, 33, 45, 45]) := AL
  refine go_virtual C X51 EL0 (C.w 63 rfl) (C.w 64 rfl) (notFace_of_selects (args := #[]) (mvT C.hZ (C.w 66 rfl))) (C.w 66 rfl) (C.w 65 rfl) (C.w 3 rfl) (C.w 67 rfl) (own_len l Z a0 C.ws la lb [60, 33, 45, 45] (4 : Int32) cs fv h52 n0 X51.old EL0 GL1 GL2 AL rfl hcs S1 hfv S2) (argsL := []) (rest := [(.int (0 : Int32))]) (lenOf pd_8 rfl) rfl (by decide) (by decide) (Nat.le_of_ble_eq_true rfl) (by decide) (by decide) rfl rfl (pc' := 154) rfl d14_151 ?_
  rintro T64 _ _ ⟨rfl, rfl⟩ X65
  show Go p e below _ (T64.setTop (mkF m 154 #[rv a, iv (123 : Int32), un] [(.int (4 : Int32)), (.int (0 : Int32))]))
  refine go_icmp_ne C X65 d14_154 (pc' := 157) (pc2 := 169) rfl (by decide) (by decide) (fun (c154 : ¬ (0 : Int32) = (4 : Int32)) => ?_) (fun (c154 : (0 : Int32) = (4 : Int32)) => False.elim (by first | omega | exact absurd c154 (by decide)))
  exact go_ret0X C X65 WI54 hEL d14_169 (fun vm' W9 => ⟨rfl, K63, ⟨E55, F56, F57, F58, F59, F60, F61, F62⟩, la, lb, hLd.warm W9, ⟨EL0, GL1, GL2, AL⟩, Ne.symm nab.1, Ne.symm nab.2⟩) (by decide) (by decide)
theorem own_cold123_r (l : Launch) (Z : State) (a0 : Array Value) (hw : ∀ d ∈ tables_1, d.before a0 Z = true) (mc ms mt md be : Addr) (cs : Int32) (fv : Value)  (hEL : EW Z a0 consts_1) (hE : own_E Z mc ms mt md be cs fv) : own_RCX l Z (mc, 1, 0, 0, 0, 0, 0) (123 : Int32) (mc, 1, 0, 0, 1, 0, 0) := fun h n0 a ho ga hS => own_cold123 l Z a0 hw a  mc ms mt md be cs fv  h n0 ho hEL hE  hS ga
theorem ef_own_p15_12 (m : MethodId)   : entryFrame m #[(.int (96 : Int32))] 2 = mkF m 0 #[iv (96 : Int32), un] [] := by
  first | (simp [entryFrame, mkF, argsToLocals, Value.category]; done) | rfl
set_option maxRecDepth 65536 in
set_option maxHeartbeats 40000000 in
theorem own_p15_12 (l : Launch) (Z : State) (a0 : Array Value) (hw : ∀ d ∈ tables_1, d.before a0 Z = true)   (h : Heap) (n0 : Nat) (hn0 : Old Z n0 h)  :
    Con l Z (⟨"com/example/plantilla/plantilla/ScriptText", "isWordCharacter", "(C)Z"⟩ : MethodName) prog_37_method_21_code 2 (some .boolean) ({ frames := 0, cells := 0, slots := 0, locals := 0 } : Room) #[(.int (96 : Int32))] h n0 (fun v h' => v = some (.int (0 : Int32)) ∧ h = h') := by
  refine con_of hw (plainFor_of_name pn_com_example_plantilla_plantilla_ScriptText) hn0 ?_
  intro p e s m below meth c T0 C X0
  refine Go.cast (congrArg T0.setTop (ef_own_p15_12 m )) ?_
  refine go_iloadN C X0 1 rfl d15_0 rfl ?_
  refine go_bipush C X0 3 rfl d15_1 (z := 97) rfl ?_
  refine go_icmp_lt C X0 d15_3 (pc' := 6) (pc2 := 12) rfl (by decide) (by decide) (fun (c3 : 96 < 97) => ?_) (fun (c3 : 97 ≤ 96) => False.elim (by first | omega | exact absurd c3 (by decide)))
  refine go_iloadN C X0 13 rfl d15_12 rfl ?_
  refine go_bipush C X0 15 rfl d15_13 (z := 65) rfl ?_
  refine go_icmp_lt C X0 d15_15 (pc' := 18) (pc2 := 24) rfl (by decide) (by decide) (fun (c15 : 96 < 65) => False.elim (by first | omega | exact absurd c15 (by decide))) (fun (c15 : 65 ≤ 96) => ?_)
  refine go_iloadN C X0 19 rfl d15_18 rfl ?_
  refine go_bipush C X0 21 rfl d15_19 (z := 90) rfl ?_
  refine go_icmp_le C X0 d15_21 (pc' := 24) (pc2 := 48) rfl (by decide) (by decide) (fun (c21 : 96 ≤ 90) => False.elim (by first | omega | exact absurd c21 (by decide))) (fun (c21 : 90 < 96) => ?_)
  refine go_iloadN C X0 25 rfl d15_24 rfl ?_
  refine go_bipush C X0 27 rfl d15_25 (z := 48) rfl ?_
  refine go_icmp_lt C X0 d15_27 (pc' := 30) (pc2 := 36) rfl (by decide) (by decide) (fun (c27 : 96 < 48) => False.elim (by first | omega | exact absurd c27 (by decide))) (fun (c27 : 48 ≤ 96) => ?_)
  refine go_iloadN C X0 31 rfl d15_30 rfl ?_
  refine go_bipush C X0 33 rfl d15_31 (z := 57) rfl ?_
  refine go_icmp_le C X0 d15_33 (pc' := 36) (pc2 := 48) rfl (by decide) (by decide) (fun (c33 : 96 ≤ 57) => False.elim (by first | omega | exact absurd c33 (by decide))) (fun (c33 : 57 < 96) => ?_)
  refine go_iloadN C X0 37 rfl d15_36 rfl ?_
  refine go_bipush C X0 39 rfl d15_37 (z := 95) rfl ?_
  refine go_icmp_eq C X0 d15_39 (pc' := 42) (pc2 := 48) rfl (by decide) (by decide) (fun (c39 : (96 : Int32) = (95 : Int32)) => False.elim (by first | omega | exact absurd c39 (by decide))) (fun (c39 : ¬ (96 : Int32) = (95 : Int32)) => ?_)
  refine go_iloadN C X0 43 rfl d15_42 rfl ?_
  refine go_bipush C X0 45 rfl d15_43 (z := 36) rfl ?_
  refine go_icmp_ne C X0 d15_45 (pc' := 48) (pc2 := 52) rfl (by decide) (by decide) (fun (c45 : ¬ (96 : Int32) = (36 : Int32)) => ?_) (fun (c45 : (96 : Int32) = (36 : Int32)) => False.elim (by first | omega | exact absurd c45 (by decide)))
  refine go_iconst C X0 53 rfl d15_52 (z := 0) rfl ?_
  refine go_istoreN C X0 54 rfl d15_53 #[iv (96 : Int32), iv (0 : Int32)] rfl ?_
  refine go_iloadN C X0 55 rfl d15_54 rfl ?_
  refine go_if_ne C X0 d15_55 (pc' := 58) (pc2 := 72) rfl (by decide) (by decide) (fun (c55 : ¬ (0 : Int32) = (0 : Int32)) => False.elim (by first | omega | exact absurd c55 (by decide))) (fun (c55 : (0 : Int32) = (0 : Int32)) => ?_)
  refine go_iloadN C X0 59 rfl d15_58 rfl ?_
  refine go_sipush C X0 62 rfl d15_59 (z := 128) rfl ?_
  refine go_icmp_lt C X0 d15_62 (pc' := 65) (pc2 := 76) rfl (by decide) (by decide) (fun (c62 : 96 < 128) => ?_) (fun (c62 : 128 ≤ 96) => False.elim (by first | omega | exact absurd c62 (by decide)))
  refine go_iconst C X0 77 rfl d15_76 (z := 0) rfl ?_
  exact go_retN C X0 (by simp) (z' := 0) rfl d15_77 ⟨rfl, rfl⟩ (by decide) (by decide)
theorem ef_own_p16_13 (m : MethodId)   : entryFrame m #[(.int (96 : Int32))] 2 = mkF m 0 #[iv (96 : Int32), un] [] := by
  first | (simp [entryFrame, mkF, argsToLocals, Value.category]; done) | rfl
set_option maxRecDepth 65536 in
set_option maxHeartbeats 40000000 in
theorem own_p16_13 (l : Launch) (Z : State) (a0 : Array Value) (hw : ∀ d ∈ tables_1, d.before a0 Z = true)   (h : Heap) (n0 : Nat) (hn0 : Old Z n0 h)  :
    Con l Z (⟨"com/example/plantilla/plantilla/ScriptText", "isSpace", "(C)Z"⟩ : MethodName) prog_37_method_22_code 2 (some .boolean) ({ frames := 0, cells := 0, slots := 0, locals := 0 } : Room) #[(.int (96 : Int32))] h n0 (fun v h' => v = some (.int (0 : Int32)) ∧ h = h') := by
  refine con_of hw (plainFor_of_name pn_com_example_plantilla_plantilla_ScriptText) hn0 ?_
  intro p e s m below meth c T0 C X0
  refine Go.cast (congrArg T0.setTop (ef_own_p16_13 m )) ?_
  refine go_iloadN C X0 1 rfl d16_0 rfl ?_
  refine go_bipush C X0 3 rfl d16_1 (z := 32) rfl ?_
  refine go_icmp_eq C X0 d16_3 (pc' := 6) (pc2 := 36) rfl (by decide) (by decide) (fun (c3 : (96 : Int32) = (32 : Int32)) => False.elim (by first | omega | exact absurd c3 (by decide))) (fun (c3 : ¬ (96 : Int32) = (32 : Int32)) => ?_)
  refine go_iloadN C X0 7 rfl d16_6 rfl ?_
  refine go_bipush C X0 9 rfl d16_7 (z := 9) rfl ?_
  refine go_icmp_eq C X0 d16_9 (pc' := 12) (pc2 := 36) rfl (by decide) (by decide) (fun (c9 : (96 : Int32) = (9 : Int32)) => False.elim (by first | omega | exact absurd c9 (by decide))) (fun (c9 : ¬ (96 : Int32) = (9 : Int32)) => ?_)
  refine go_iloadN C X0 13 rfl d16_12 rfl ?_
  refine go_bipush C X0 15 rfl d16_13 (z := 10) rfl ?_
  refine go_icmp_eq C X0 d16_15 (pc' := 18) (pc2 := 36) rfl (by decide) (by decide) (fun (c15 : (96 : Int32) = (10 : Int32)) => False.elim (by first | omega | exact absurd c15 (by decide))) (fun (c15 : ¬ (96 : Int32) = (10 : Int32)) => ?_)
  refine go_iloadN C X0 19 rfl d16_18 rfl ?_
  refine go_bipush C X0 21 rfl d16_19 (z := 13) rfl ?_
  refine go_icmp_eq C X0 d16_21 (pc' := 24) (pc2 := 36) rfl (by decide) (by decide) (fun (c21 : (96 : Int32) = (13 : Int32)) => False.elim (by first | omega | exact absurd c21 (by decide))) (fun (c21 : ¬ (96 : Int32) = (13 : Int32)) => ?_)
  refine go_iloadN C X0 25 rfl d16_24 rfl ?_
  refine go_bipush C X0 27 rfl d16_25 (z := 12) rfl ?_
  refine go_icmp_eq C X0 d16_27 (pc' := 30) (pc2 := 36) rfl (by decide) (by decide) (fun (c27 : (96 : Int32) = (12 : Int32)) => False.elim (by first | omega | exact absurd c27 (by decide))) (fun (c27 : ¬ (96 : Int32) = (12 : Int32)) => ?_)
  refine go_iloadN C X0 31 rfl d16_30 rfl ?_
  refine go_bipush C X0 33 rfl d16_31 (z := 11) rfl ?_
  refine go_icmp_ne C X0 d16_33 (pc' := 36) (pc2 := 40) rfl (by decide) (by decide) (fun (c33 : ¬ (96 : Int32) = (11 : Int32)) => ?_) (fun (c33 : (96 : Int32) = (11 : Int32)) => False.elim (by first | omega | exact absurd c33 (by decide)))
  refine go_iconst C X0 41 rfl d16_40 (z := 0) rfl ?_
  refine go_istoreN C X0 42 rfl d16_41 #[iv (96 : Int32), iv (0 : Int32)] rfl ?_
  refine go_iloadN C X0 43 rfl d16_42 rfl ?_
  refine go_if_ne C X0 d16_43 (pc' := 46) (pc2 := 66) rfl (by decide) (by decide) (fun (c43 : ¬ (0 : Int32) = (0 : Int32)) => False.elim (by first | omega | exact absurd c43 (by decide))) (fun (c43 : (0 : Int32) = (0 : Int32)) => ?_)
  refine go_iloadN C X0 47 rfl d16_46 rfl ?_
  refine go_sipush C X0 50 rfl d16_47 (z := 128) rfl ?_
  refine go_icmp_lt C X0 d16_50 (pc' := 53) (pc2 := 70) rfl (by decide) (by decide) (fun (c50 : 96 < 128) => ?_) (fun (c50 : 128 ≤ 96) => False.elim (by first | omega | exact absurd c50 (by decide)))
  refine go_iconst C X0 71 rfl d16_70 (z := 0) rfl ?_
  exact go_retN C X0 (by simp) (z' := 0) rfl d16_71 ⟨rfl, rfl⟩ (by decide) (by decide)
theorem d17_96 : decode prog_37_method_11_code 96 = .ok (.aload_n 0, 1) := by decide +kernel
theorem d17_97 : decode prog_37_method_11_code 97 = .ok (.getstatic 151, 3) := by decide +kernel
theorem d17_100 : decode prog_37_method_11_code 100 = .ok (.putfield 24, 3) := by decide +kernel
theorem d17_103 : decode prog_37_method_11_code 103 = .ok (.goto 41, 3) := by decide +kernel
theorem ef_own_m17_14 (m : MethodId) (a : Addr)  : entryFrame m #[(.ref a), (.int (96 : Int32))] 2 = mkF m 0 #[rv a, iv (96 : Int32)] [] := by
  first | (simp [entryFrame, mkF, argsToLocals, Value.category]; done) | rfl
set_option maxRecDepth 65536 in
set_option maxHeartbeats 40000000 in
theorem own_m17_14 (l : Launch) (Z : State) (a0 : Array Value) (hw : ∀ d ∈ tables_1, d.before a0 Z = true) (a : Addr) (mc ms mt md be : Addr) (cs : Int32) (fv : Value)  (h : Heap) (n0 : Nat) (hn0 : Old Z n0 h) (hE : own_E Z mc ms mt md be cs fv)  (hS : own_F Z h a mc (1 : Int32) (0 : Int64) (0 : Int32) (0 : Int32) (0 : Int64) (0 : Int32)) (ga : n0 ≤ a) :
    Con l Z (⟨"com/example/plantilla/plantilla/ScriptText", "readPunctuator", "(C)V"⟩ : MethodName) prog_37_method_11_code 2 none ({ frames := 0, cells := 0, slots := 0, locals := 0 } : Room) #[(.ref a), (.int (96 : Int32))] h n0 (fun v h' => v = none ∧ Keep h h' [a] ∧ own_F Z h' a mt (1 : Int32) (0 : Int64) (0 : Int32) (0 : Int32) (0 : Int64) (0 : Int32)) := by
  refine con_of hw (plainFor_of_name pn_com_example_plantilla_plantilla_ScriptText) hn0 ?_
  intro p e s m below meth c T0 C X0
  refine Go.cast (congrArg T0.setTop (ef_own_m17_14 m a)) ?_
  have hE1 := hE
  obtain ⟨SM0, SM1, SM2, SM3, EM0, EM1, EM2, EM3, FM0, FM1, FM2, FM3, SB, AB, hcs, S1, hfv, S2⟩ := hE1
  obtain ⟨E0, FF0, FF1, FF2, FF3, FF4, FF5, FF6⟩ := hS
  refine go_iloadN C X0 1 rfl d17_0 rfl ?_
  refine go_lookHit C X0 d17_1 (by first | decide | (simp; done)) (q := 96) (off := 95) (by first | decide | rfl | (simp; done)) (pc2 := 96) (by decide) (by decide) ?_
  refine go_aloadN C X0 97 rfl d17_96 rfl rfl ?_
  refine go_getS C X0 (C.w 152 rfl) (SM2.ext X0.old.2) (pc' := 100) rfl d17_97 (fun T1 X2 => ?_)
  refine go_putF C X2 (C.w 44 rfl) Via.refl FF0 E0 (Or.inl (C.w 45 rfl)) (C.w 28 rfl) ga (ty := (.object "com/example/plantilla/plantilla/ScriptText$Mode")) (by decide) rfl rfl (pc' := 103) rfl d17_100 (fun T3 h5 W6 X4 => ?_)
  have F7 := FF0.same W6
  have E8 := E0.wr W6
  have F9 := FF1.other W6 (Or.inr (slot_ne (Or.inl (C.w 47 rfl)) (Or.inl (C.w 45 rfl)) (by decide) (t := .boolean) (t' := (.object "com/example/plantilla/plantilla/ScriptText$Mode")) (by decide) (by decide)))
  have F10 := FF2.other W6 (Or.inr (slot_ne (Or.inl (C.w 49 rfl)) (Or.inl (C.w 45 rfl)) (by decide) (t := .long) (t' := (.object "com/example/plantilla/plantilla/ScriptText$Mode")) (by decide) (by decide)))
  have F11 := FF3.other W6 (Or.inr (slot_ne (Or.inl (C.w 51 rfl)) (Or.inl (C.w 45 rfl)) (by decide) (t := .boolean) (t' := (.object "com/example/plantilla/plantilla/ScriptText$Mode")) (by decide) (by decide)))
  have F12 := FF4.other W6 (Or.inr (slot_ne (Or.inl (C.w 53 rfl)) (Or.inl (C.w 45 rfl)) (by decide) (t := .int) (t' := (.object "com/example/plantilla/plantilla/ScriptText$Mode")) (by decide) (by decide)))
  have F13 := FF5.other W6 (Or.inr (slot_ne (Or.inl (C.w 55 rfl)) (Or.inl (C.w 45 rfl)) (by decide) (t := .long) (t' := (.object "com/example/plantilla/plantilla/ScriptText$Mode")) (by decide) (by decide)))
  have F14 := FF6.other W6 (Or.inr (slot_ne (Or.inl (C.w 57 rfl)) (Or.inl (C.w 45 rfl)) (by decide) (t := .int) (t' := (.object "com/example/plantilla/plantilla/ScriptText$Mode")) (by decide) (by decide)))
  have K15 := (Keep.refl h [a]).wr W6 (Or.inl (List.mem_of_getElem? (i := 0) rfl))
  refine go_goto C X4 d17_103 (pc' := 144) (by decide) (by decide) ?_
  exact go_ret0 C X4 d17_144 ⟨rfl, K15, E8, F7, F9, F10, F11, F12, F13, F14⟩ (by decide) (by decide)
theorem ef_own_cold96 (m : MethodId) (a : Addr)  : entryFrame m #[(.ref a), (.int (96 : Int32))] 3 = mkF m 0 #[rv a, iv (96 : Int32), un] [] := by
  first | (simp [entryFrame, mkF, argsToLocals, Value.category]; done) | rfl
set_option maxRecDepth 65536 in
set_option maxHeartbeats 40000000 in
theorem own_cold96 (l : Launch) (Z : State) (a0 : Array Value) (hw : ∀ d ∈ tables_1, d.before a0 Z = true) (a : Addr) (mc ms mt md be : Addr) (cs : Int32) (fv : Value)  (h : Heap) (n0 : Nat) (hn0 : Old Z n0 h) (hEL : EW Z a0 consts_1) (hE : own_E Z mc ms mt md be cs fv)  (hS : own_F Z h a mc (1 : Int32) (0 : Int64) (0 : Int32) (0 : Int32) (0 : Int64) (0 : Int32)) (ga : n0 ≤ a) :
    ConX l Z consts_1 (fun _ => True) (⟨"com/example/plantilla/plantilla/ScriptText", "readCode", "(C)V"⟩ : MethodName) prog_37_method_10_code 3 none ({ frames := 3, cells := 2, slots := 20, locals := 60 } : Room) #[(.ref a), (.int (96 : Int32))] h n0 (fun v h' vm' => v = none ∧ Keep h h' [a] ∧ own_F Z h' a mt (1 : Int32) (0 : Int64) (0 : Int32) (0 : Int32) (0 : Int64) (0 : Int32) ∧ ∃ la lb : Addr, LdV Z "com/example/plantilla/plantilla/ScriptText" 120 la vm' ∧ Sg Z h' la lb own_LT ∧ la ≠ a ∧ lb ≠ a) := by
  refine conX_of hw (plainFor_of_name pn_com_example_plantilla_plantilla_ScriptText) hn0 ?_
  intro p e sv0 s m below meth c T0 C _ WI0 X0
  refine Go.cast (congrArg T0.setTop (ef_own_cold96 m a)) ?_
  have hE1 := hE
  obtain ⟨SM0, SM1, SM2, SM3, EM0, EM1, EM2, EM3, FM0, FM1, FM2, FM3, SB, AB, hcs, S1, hfv, S2⟩ := hE1
  obtain ⟨E0, FF0, FF1, FF2, FF3, FF4, FF5, FF6⟩ := hS
  refine go_aloadN C X0 1 rfl d14_0 rfl rfl ?_
  refine go_getF C X0 (C.w 56 rfl) Via.refl FF6 (pc' := 4) rfl d14_1 (fun T1 X2 => ?_)
  refine go_if_le C X2 d14_4 (pc' := 7) (pc2 := 33) rfl (by decide) (by decide) (fun (c4 : 0 ≤ 0) => ?_) (fun (c4 : 0 < 0) => False.elim (by first | omega | exact absurd c4 (by decide)))
  refine go_aloadN C X2 34 rfl d14_33 rfl rfl ?_
  refine go_iloadN C X2 35 rfl d14_34 rfl ?_
  refine go_bipush C X2 37 rfl d14_35 (z := 60) rfl ?_
  refine go_icmp_ne C X2 d14_37 (pc' := 40) (pc2 := 44) rfl (by decide) (by decide) (fun (c37 : ¬ (96 : Int32) = (60 : Int32)) => ?_) (fun (c37 : (96 : Int32) = (60 : Int32)) => False.elim (by first | omega | exact absurd c37 (by decide)))
  refine go_iconst C X2 45 rfl d14_44 (z := 0) rfl ?_
  refine go_putF C X2 (C.w 56 rfl) Via.refl FF6 E0 (Or.inl (C.w 57 rfl)) (C.w 28 rfl) ga (ty := .int) (by decide) rfl rfl (pc' := 48) rfl d14_45 (fun T3 h5 W6 X4 => ?_)
  have F7 := FF6.same W6
  have SQ8 : Safe Z consts_1 s.vm _ a := (safeE C E0 (by decide) (by decide))
  have WI9 := WI0.wr W6 SQ8
  have E10 := E0.wr W6
  have F11 := FF0.other W6 (Or.inr (slot_ne (Or.inl (C.w 45 rfl)) (Or.inl (C.w 57 rfl)) (by decide) (t := (.object "com/example/plantilla/plantilla/ScriptText$Mode")) (t' := .int) (by decide) (by decide)))
  have F12 := FF1.other W6 (Or.inr (slot_ne (Or.inl (C.w 47 rfl)) (Or.inl (C.w 57 rfl)) (by decide) (t := .boolean) (t' := .int) (by decide) (by decide)))
  have F13 := FF2.other W6 (Or.inr (slot_ne (Or.inl (C.w 49 rfl)) (Or.inl (C.w 57 rfl)) (by decide) (t := .long) (t' := .int) (by decide) (by decide)))
  have F14 := FF3.other W6 (Or.inr (slot_ne (Or.inl (C.w 51 rfl)) (Or.inl (C.w 57 rfl)) (by decide) (t := .boolean) (t' := .int) (by decide) (by decide)))
  have F15 := FF4.other W6 (Or.inr (slot_ne (Or.inl (C.w 53 rfl)) (Or.inl (C.w 57 rfl)) (by decide) (t := .int) (t' := .int) (by decide) (by decide)))
  have F16 := FF5.other W6 (Or.inr (slot_ne (Or.inl (C.w 55 rfl)) (Or.inl (C.w 57 rfl)) (by decide) (t := .long) (t' := .int) (by decide) (by decide)))
  have K17 := (Keep.refl h [a]).wr W6 (Or.inl (List.mem_of_getElem? (i := 0) rfl))
  refine go_iloadN C X4 49 rfl d14_48 rfl ?_
  refine go_callS C X4 (C.w 116 rfl) (C.w 117 rfl) (C.w 29 rfl) (C.w 118 rfl) (own_p15_12 l Z a0 C.ws  h5 n0 X4.old ) (argsL := [(.int (96 : Int32))]) (rest := []) (lenOf pd_6 rfl) rfl (by decide) (by decide) (Nat.le_of_ble_eq_true rfl) (by decide) (by decide) rfl rfl (pc' := 52) rfl d14_49 ?_
  rintro T18 _ _ ⟨rfl, rfl⟩ X19
  show Go p e below _ (T18.setTop (mkF m 52 #[rv a, iv (96 : Int32), un] [(.int (0 : Int32))]))
  refine go_if_eq C X19 d14_52 (pc' := 55) (pc2 := 105) rfl (by decide) (by decide) (fun (c52 : (0 : Int32) = (0 : Int32)) => ?_) (fun (c52 : ¬ (0 : Int32) = (0 : Int32)) => False.elim (by first | omega | exact absurd c52 (by decide)))
  refine go_aloadN C X19 106 rfl d14_105 rfl rfl ?_
  refine go_getF C X19 (C.w 48 rfl) Via.refl F13 (pc' := 109) rfl d14_106 (fun T21 X22 => ?_)
  refine go_lconst C X22 110 rfl d14_109 (z := 0) rfl ?_
  refine go_lif_eq C X22 (pc1 := 111) rfl d14_110 d14_111 (pc' := 114) (pc2 := 128) rfl (by decide) (by decide) (fun (c111 : (0 : Int64) = (0 : Int64)) => ?_) (fun (c111 : ¬ (0 : Int64) = (0 : Int64)) => False.elim (by first | omega | exact absurd c111 (by decide)))
  refine go_aloadN C X22 129 rfl d14_128 rfl rfl ?_
  refine go_lconst C X22 130 rfl d14_129 (z := 0) rfl ?_
  refine go_putF C X22 (C.w 48 rfl) Via.refl F13 E10 (Or.inl (C.w 49 rfl)) (C.w 28 rfl) ga (ty := .long) (by decide) rfl rfl (pc' := 133) rfl d14_130 (fun T23 h25 W26 X24 => ?_)
  have F27 := F13.same W26
  have SQ28 : Safe Z consts_1 s.vm _ a := (safeE C E10 (by decide) (by decide))
  have WI29 := WI9.wr W26 SQ28
  have E30 := E10.wr W26
  have F31 := F11.other W26 (Or.inr (slot_ne (Or.inl (C.w 45 rfl)) (Or.inl (C.w 49 rfl)) (by decide) (t := (.object "com/example/plantilla/plantilla/ScriptText$Mode")) (t' := .long) (by decide) (by decide)))
  have F32 := F12.other W26 (Or.inr (slot_ne (Or.inl (C.w 47 rfl)) (Or.inl (C.w 49 rfl)) (by decide) (t := .boolean) (t' := .long) (by decide) (by decide)))
  have F33 := F14.other W26 (Or.inr (slot_ne (Or.inl (C.w 51 rfl)) (Or.inl (C.w 49 rfl)) (by decide) (t := .boolean) (t' := .long) (by decide) (by decide)))
  have F34 := F15.other W26 (Or.inr (slot_ne (Or.inl (C.w 53 rfl)) (Or.inl (C.w 49 rfl)) (by decide) (t := .int) (t' := .long) (by decide) (by decide)))
  have F35 := F16.other W26 (Or.inr (slot_ne (Or.inl (C.w 55 rfl)) (Or.inl (C.w 49 rfl)) (by decide) (t := .long) (t' := .long) (by decide) (by decide)))
  have F36 := F7.other W26 (Or.inr (slot_ne (Or.inl (C.w 57 rfl)) (Or.inl (C.w 49 rfl)) (by decide) (t := .int) (t' := .long) (by decide) (by decide)))
  have K37 := K17.wr W26 (Or.inl (List.mem_of_getElem? (i := 0) rfl))
  refine go_iloadN C X24 134 rfl d14_133 rfl ?_
  refine go_callS C X24 (C.w 119 rfl) (C.w 120 rfl) (C.w 29 rfl) (C.w 121 rfl) (own_p16_13 l Z a0 C.ws  h25 n0 X24.old ) (argsL := [(.int (96 : Int32))]) (rest := []) (lenOf pd_6 rfl) rfl (by decide) (by decide) (Nat.le_of_ble_eq_true rfl) (by decide) (by decide) rfl rfl (pc' := 137) rfl d14_134 ?_
  rintro T38 _ _ ⟨rfl, rfl⟩ X39
  show Go p e below _ (T38.setTop (mkF m 137 #[rv a, iv (96 : Int32), un] [(.int (0 : Int32))]))
  refine go_if_ne C X39 d14_137 (pc' := 140) (pc2 := 145) rfl (by decide) (by decide) (fun (c137 : ¬ (0 : Int32) = (0 : Int32)) => False.elim (by first | omega | exact absurd c137 (by decide))) (fun (c137 : (0 : Int32) = (0 : Int32)) => ?_)
  refine go_aloadN C X39 141 rfl d14_140 rfl rfl ?_
  refine go_iloadN C X39 142 rfl d14_141 rfl ?_
  refine go_private C X39 E30 (C.w 122 rfl) (C.w 123 rfl) (Jvm.Kit.selects_private (by decide) (C.w 28 rfl) (C.w 124 rfl) (C.w 123 rfl)) (C.w 124 rfl) (C.w 29 rfl) (C.w 125 rfl) (own_m17_14 l Z a0 C.ws a mc ms mt md be cs fv  h25 n0 X39.old hE  ⟨E30, F31, F32, F27, F33, F34, F35, F36⟩ ga) (argsL := [(.int (96 : Int32))]) (rest := []) (lenOf pd_7 rfl) rfl (by decide) (by decide) (Nat.le_of_ble_eq_true rfl) (by decide) (by decide) rfl rfl (pc' := 145) rfl d14_142 ?_
  rintro T41 h43 _ ⟨rfl, Kq44, Eq44, Fq440, Fq441, Fq442, Fq443, Fq444, Fq445, Fq446⟩ X42
  show Go p e below _ (T41.setTop (mkF m 145 #[rv a, iv (96 : Int32), un] []))
  have WI45 := WI29.keep Kq44 (sfS (safeE C E30 (by decide) (by decide)) sf0)
  have E46 := E30.keep Kq44
  have K47 := K37.trans Kq44 (allS (Or.inl (List.mem_of_getElem? (i := 0) rfl)) all0)
  refine go_aloadN C X42 146 rfl d14_145 rfl rfl ?_
  refine go_getF C X42 (C.w 56 rfl) Via.refl Fq446 (pc' := 149) rfl d14_146 (fun T48 X49 => ?_)
  refine go_ldcHX C X49 WI45 hEL (C.w 126 rfl) (own_wS C.ws) (List.mem_of_getElem? (i := 0) rfl) (vs := [.int 60, .int 33, .int 45, .int 45]) (z := 4) own_lit120 (by decide) (by decide) (q := 16) own_len120 (by decide) (by decide) (by decide) (pc' := 151) rfl d14_149 ?_
  intro s T50 h52 la lb C WI54 E53 EL0 GL1 GL2 AL SF hLd X51
  have E55 := Eq44.ext E53
  have F56 := Fq440.ext E53
  have F57 := Fq441.ext E53
  have F58 := Fq442.ext E53
  have F59 := Fq443.ext E53
  have F60 := Fq444.ext E53
  have F61 := Fq445.ext E53
  have F62 := Fq446.ext E53
  have K63 := K47.ext E53
  have nab := SF a (safeE C E55 (by decide) (by decide))
  replace AL : La Z h52 lb .byte (ia [60, 33, 45, 45]) := AL
  refine go_virtual C X51 EL0 (C.w 63 rfl) (C.w 64 rfl) (notFace_of_selects (args := #[]) (mvT C.hZ (C.w 66 rfl))) (C.w 66 rfl) (C.w 65 rfl) (C.w 3 rfl) (C.w 67 rfl) (own_len l Z a0 C.ws la lb [60, 33, 45, 45] (4 : Int32) cs fv h52 n0 X51.old EL0 GL1 GL2 AL rfl hcs S1 hfv S2) (argsL := []) (rest := [(.int (0 : Int32))]) (lenOf pd_8 rfl) rfl (by decide) (by decide) (Nat.le_of_ble_eq_true rfl) (by decide) (by decide) rfl rfl (pc' := 154) rfl d14_151 ?_
  rintro T64 _ _ ⟨rfl, rfl⟩ X65
  show Go p e below _ (T64.setTop (mkF m 154 #[rv a, iv (96 : Int32), un] [(.int (4 : Int32)), (.int (0 : Int32))]))
  refine go_icmp_ne C X65 d14_154 (pc' := 157) (pc2 := 169) rfl (by decide) (by decide) (fun (c154 : ¬ (0 : Int32) = (4 : Int32)) => ?_) (fun (c154 : (0 : Int32) = (4 : Int32)) => False.elim (by first | omega | exact absurd c154 (by decide)))
  exact go_ret0X C X65 WI54 hEL d14_169 (fun vm' W9 => ⟨rfl, K63, ⟨E55, F56, F57, F58, F59, F60, F61, F62⟩, la, lb, hLd.warm W9, ⟨EL0, GL1, GL2, AL⟩, Ne.symm nab.1, Ne.symm nab.2⟩) (by decide) (by decide)
theorem own_cold96_r (l : Launch) (Z : State) (a0 : Array Value) (hw : ∀ d ∈ tables_1, d.before a0 Z = true) (mc ms mt md be : Addr) (cs : Int32) (fv : Value)  (hEL : EW Z a0 consts_1) (hE : own_E Z mc ms mt md be cs fv) : own_RCX l Z (mc, 1, 0, 0, 0, 0, 0) (96 : Int32) (mt, 1, 0, 0, 0, 0, 0) := fun h n0 a ho ga hS => own_cold96 l Z a0 hw a  mc ms mt md be cs fv  h n0 ho hEL hE  hS ga
theorem d14_40 : decode prog_37_method_10_code 40 = .ok (.iconst 1, 1) := by decide +kernel
theorem d14_41 : decode prog_37_method_10_code 41 = .ok (.goto 4, 3) := by decide +kernel
theorem ef_own_p15_15 (m : MethodId)   : entryFrame m #[(.int (60 : Int32))] 2 = mkF m 0 #[iv (60 : Int32), un] [] := by
  first | (simp [entryFrame, mkF, argsToLocals, Value.category]; done) | rfl
set_option maxRecDepth 65536 in
set_option maxHeartbeats 40000000 in
theorem own_p15_15 (l : Launch) (Z : State) (a0 : Array Value) (hw : ∀ d ∈ tables_1, d.before a0 Z = true)   (h : Heap) (n0 : Nat) (hn0 : Old Z n0 h)  :
    Con l Z (⟨"com/example/plantilla/plantilla/ScriptText", "isWordCharacter", "(C)Z"⟩ : MethodName) prog_37_method_21_code 2 (some .boolean) ({ frames := 0, cells := 0, slots := 0, locals := 0 } : Room) #[(.int (60 : Int32))] h n0 (fun v h' => v = some (.int (0 : Int32)) ∧ h = h') := by
  refine con_of hw (plainFor_of_name pn_com_example_plantilla_plantilla_ScriptText) hn0 ?_
  intro p e s m below meth c T0 C X0
  refine Go.cast (congrArg T0.setTop (ef_own_p15_15 m )) ?_
  refine go_iloadN C X0 1 rfl d15_0 rfl ?_
  refine go_bipush C X0 3 rfl d15_1 (z := 97) rfl ?_
  refine go_icmp_lt C X0 d15_3 (pc' := 6) (pc2 := 12) rfl (by decide) (by decide) (fun (c3 : 60 < 97) => ?_) (fun (c3 : 97 ≤ 60) => False.elim (by first | omega | exact absurd c3 (by decide)))
  refine go_iloadN C X0 13 rfl d15_12 rfl ?_
  refine go_bipush C X0 15 rfl d15_13 (z := 65) rfl ?_
  refine go_icmp_lt C X0 d15_15 (pc' := 18) (pc2 := 24) rfl (by decide) (by decide) (fun (c15 : 60 < 65) => ?_) (fun (c15 : 65 ≤ 60) => False.elim (by first | omega | exact absurd c15 (by decide)))
  refine go_iloadN C X0 25 rfl d15_24 rfl ?_
  refine go_bipush C X0 27 rfl d15_25 (z := 48) rfl ?_
  refine go_icmp_lt C X0 d15_27 (pc' := 30) (pc2 := 36) rfl (by decide) (by decide) (fun (c27 : 60 < 48) => False.elim (by first | omega | exact absurd c27 (by decide))) (fun (c27 : 48 ≤ 60) => ?_)
  refine go_iloadN C X0 31 rfl d15_30 rfl ?_
  refine go_bipush C X0 33 rfl d15_31 (z := 57) rfl ?_
  refine go_icmp_le C X0 d15_33 (pc' := 36) (pc2 := 48) rfl (by decide) (by decide) (fun (c33 : 60 ≤ 57) => False.elim (by first | omega | exact absurd c33 (by decide))) (fun (c33 : 57 < 60) => ?_)
  refine go_iloadN C X0 37 rfl d15_36 rfl ?_
  refine go_bipush C X0 39 rfl d15_37 (z := 95) rfl ?_
  refine go_icmp_eq C X0 d15_39 (pc' := 42) (pc2 := 48) rfl (by decide) (by decide) (fun (c39 : (60 : Int32) = (95 : Int32)) => False.elim (by first | omega | exact absurd c39 (by decide))) (fun (c39 : ¬ (60 : Int32) = (95 : Int32)) => ?_)
  refine go_iloadN C X0 43 rfl d15_42 rfl ?_
  refine go_bipush C X0 45 rfl d15_43 (z := 36) rfl ?_
  refine go_icmp_ne C X0 d15_45 (pc' := 48) (pc2 := 52) rfl (by decide) (by decide) (fun (c45 : ¬ (60 : Int32) = (36 : Int32)) => ?_) (fun (c45 : (60 : Int32) = (36 : Int32)) => False.elim (by first | omega | exact absurd c45 (by decide)))
  refine go_iconst C X0 53 rfl d15_52 (z := 0) rfl ?_
  refine go_istoreN C X0 54 rfl d15_53 #[iv (60 : Int32), iv (0 : Int32)] rfl ?_
  refine go_iloadN C X0 55 rfl d15_54 rfl ?_
  refine go_if_ne C X0 d15_55 (pc' := 58) (pc2 := 72) rfl (by decide) (by decide) (fun (c55 : ¬ (0 : Int32) = (0 : Int32)) => False.elim (by first | omega | exact absurd c55 (by decide))) (fun (c55 : (0 : Int32) = (0 : Int32)) => ?_)
  refine go_iloadN C X0 59 rfl d15_58 rfl ?_
  refine go_sipush C X0 62 rfl d15_59 (z := 128) rfl ?_
  refine go_icmp_lt C X0 d15_62 (pc' := 65) (pc2 := 76) rfl (by decide) (by decide) (fun (c62 : 60 < 128) => ?_) (fun (c62 : 128 ≤ 60) => False.elim (by first | omega | exact absurd c62 (by decide)))
  refine go_iconst C X0 77 rfl d15_76 (z := 0) rfl ?_
  exact go_retN C X0 (by simp) (z' := 0) rfl d15_77 ⟨rfl, rfl⟩ (by decide) (by decide)
theorem ef_own_p16_16 (m : MethodId)   : entryFrame m #[(.int (60 : Int32))] 2 = mkF m 0 #[iv (60 : Int32), un] [] := by
  first | (simp [entryFrame, mkF, argsToLocals, Value.category]; done) | rfl
set_option maxRecDepth 65536 in
set_option maxHeartbeats 40000000 in
theorem own_p16_16 (l : Launch) (Z : State) (a0 : Array Value) (hw : ∀ d ∈ tables_1, d.before a0 Z = true)   (h : Heap) (n0 : Nat) (hn0 : Old Z n0 h)  :
    Con l Z (⟨"com/example/plantilla/plantilla/ScriptText", "isSpace", "(C)Z"⟩ : MethodName) prog_37_method_22_code 2 (some .boolean) ({ frames := 0, cells := 0, slots := 0, locals := 0 } : Room) #[(.int (60 : Int32))] h n0 (fun v h' => v = some (.int (0 : Int32)) ∧ h = h') := by
  refine con_of hw (plainFor_of_name pn_com_example_plantilla_plantilla_ScriptText) hn0 ?_
  intro p e s m below meth c T0 C X0
  refine Go.cast (congrArg T0.setTop (ef_own_p16_16 m )) ?_
  refine go_iloadN C X0 1 rfl d16_0 rfl ?_
  refine go_bipush C X0 3 rfl d16_1 (z := 32) rfl ?_
  refine go_icmp_eq C X0 d16_3 (pc' := 6) (pc2 := 36) rfl (by decide) (by decide) (fun (c3 : (60 : Int32) = (32 : Int32)) => False.elim (by first | omega | exact absurd c3 (by decide))) (fun (c3 : ¬ (60 : Int32) = (32 : Int32)) => ?_)
  refine go_iloadN C X0 7 rfl d16_6 rfl ?_
  refine go_bipush C X0 9 rfl d16_7 (z := 9) rfl ?_
  refine go_icmp_eq C X0 d16_9 (pc' := 12) (pc2 := 36) rfl (by decide) (by decide) (fun (c9 : (60 : Int32) = (9 : Int32)) => False.elim (by first | omega | exact absurd c9 (by decide))) (fun (c9 : ¬ (60 : Int32) = (9 : Int32)) => ?_)
  refine go_iloadN C X0 13 rfl d16_12 rfl ?_
  refine go_bipush C X0 15 rfl d16_13 (z := 10) rfl ?_
  refine go_icmp_eq C X0 d16_15 (pc' := 18) (pc2 := 36) rfl (by decide) (by decide) (fun (c15 : (60 : Int32) = (10 : Int32)) => False.elim (by first | omega | exact absurd c15 (by decide))) (fun (c15 : ¬ (60 : Int32) = (10 : Int32)) => ?_)
  refine go_iloadN C X0 19 rfl d16_18 rfl ?_
  refine go_bipush C X0 21 rfl d16_19 (z := 13) rfl ?_
  refine go_icmp_eq C X0 d16_21 (pc' := 24) (pc2 := 36) rfl (by decide) (by decide) (fun (c21 : (60 : Int32) = (13 : Int32)) => False.elim (by first | omega | exact absurd c21 (by decide))) (fun (c21 : ¬ (60 : Int32) = (13 : Int32)) => ?_)
  refine go_iloadN C X0 25 rfl d16_24 rfl ?_
  refine go_bipush C X0 27 rfl d16_25 (z := 12) rfl ?_
  refine go_icmp_eq C X0 d16_27 (pc' := 30) (pc2 := 36) rfl (by decide) (by decide) (fun (c27 : (60 : Int32) = (12 : Int32)) => False.elim (by first | omega | exact absurd c27 (by decide))) (fun (c27 : ¬ (60 : Int32) = (12 : Int32)) => ?_)
  refine go_iloadN C X0 31 rfl d16_30 rfl ?_
  refine go_bipush C X0 33 rfl d16_31 (z := 11) rfl ?_
  refine go_icmp_ne C X0 d16_33 (pc' := 36) (pc2 := 40) rfl (by decide) (by decide) (fun (c33 : ¬ (60 : Int32) = (11 : Int32)) => ?_) (fun (c33 : (60 : Int32) = (11 : Int32)) => False.elim (by first | omega | exact absurd c33 (by decide)))
  refine go_iconst C X0 41 rfl d16_40 (z := 0) rfl ?_
  refine go_istoreN C X0 42 rfl d16_41 #[iv (60 : Int32), iv (0 : Int32)] rfl ?_
  refine go_iloadN C X0 43 rfl d16_42 rfl ?_
  refine go_if_ne C X0 d16_43 (pc' := 46) (pc2 := 66) rfl (by decide) (by decide) (fun (c43 : ¬ (0 : Int32) = (0 : Int32)) => False.elim (by first | omega | exact absurd c43 (by decide))) (fun (c43 : (0 : Int32) = (0 : Int32)) => ?_)
  refine go_iloadN C X0 47 rfl d16_46 rfl ?_
  refine go_sipush C X0 50 rfl d16_47 (z := 128) rfl ?_
  refine go_icmp_lt C X0 d16_50 (pc' := 53) (pc2 := 70) rfl (by decide) (by decide) (fun (c50 : 60 < 128) => ?_) (fun (c50 : 128 ≤ 60) => False.elim (by first | omega | exact absurd c50 (by decide)))
  refine go_iconst C X0 71 rfl d16_70 (z := 0) rfl ?_
  exact go_retN C X0 (by simp) (z' := 0) rfl d16_71 ⟨rfl, rfl⟩ (by decide) (by decide)
theorem d17_139 : decode prog_37_method_11_code 139 = .ok (.aload_n 0, 1) := by decide +kernel
theorem d17_140 : decode prog_37_method_11_code 140 = .ok (.iconst 1, 1) := by decide +kernel
theorem d17_141 : decode prog_37_method_11_code 141 = .ok (.putfield 27, 3) := by decide +kernel
theorem ef_own_m17_17 (m : MethodId) (a : Addr)  : entryFrame m #[(.ref a), (.int (60 : Int32))] 2 = mkF m 0 #[rv a, iv (60 : Int32)] [] := by
  first | (simp [entryFrame, mkF, argsToLocals, Value.category]; done) | rfl
set_option maxRecDepth 65536 in
set_option maxHeartbeats 40000000 in
theorem own_m17_17 (l : Launch) (Z : State) (a0 : Array Value) (hw : ∀ d ∈ tables_1, d.before a0 Z = true) (a : Addr) (mc ms mt md be : Addr) (cs : Int32) (fv : Value)  (h : Heap) (n0 : Nat) (hn0 : Old Z n0 h) (hE : own_E Z mc ms mt md be cs fv)  (hS : own_F Z h a mc (1 : Int32) (0 : Int64) (0 : Int32) (0 : Int32) (0 : Int64) (1 : Int32)) (ga : n0 ≤ a) :
    Con l Z (⟨"com/example/plantilla/plantilla/ScriptText", "readPunctuator", "(C)V"⟩ : MethodName) prog_37_method_11_code 2 none ({ frames := 0, cells := 0, slots := 0, locals := 0 } : Room) #[(.ref a), (.int (60 : Int32))] h n0 (fun v h' => v = none ∧ Keep h h' [a] ∧ own_F Z h' a mc (1 : Int32) (0 : Int64) (0 : Int32) (0 : Int32) (0 : Int64) (1 : Int32)) := by
  refine con_of hw (plainFor_of_name pn_com_example_plantilla_plantilla_ScriptText) hn0 ?_
  intro p e s m below meth c T0 C X0
  refine Go.cast (congrArg T0.setTop (ef_own_m17_17 m a)) ?_
  have hE1 := hE
  obtain ⟨SM0, SM1, SM2, SM3, EM0, EM1, EM2, EM3, FM0, FM1, FM2, FM3, SB, AB, hcs, S1, hfv, S2⟩ := hE1
  obtain ⟨E0, FF0, FF1, FF2, FF3, FF4, FF5, FF6⟩ := hS
  refine go_iloadN C X0 1 rfl d17_0 rfl ?_
  refine go_lookMiss C X0 d17_1 (by first | decide | (simp; done)) (by first | decide | rfl | (simp; done)) (pc2 := 139) (by decide) (by decide) ?_
  refine go_aloadN C X0 140 rfl d17_139 rfl rfl ?_
  refine go_iconst C X0 141 rfl d17_140 (z := 1) rfl ?_
  refine go_putFN C X0 (C.w 46 rfl) Via.refl FF1 E0 (Or.inl (C.w 47 rfl)) (C.w 28 rfl) ga (ty := .boolean) (by decide) (v' := (.int (1 : Int32))) rfl rfl (pc' := 144) rfl d17_141 (fun T1 h3 W4 X2 => ?_)
  have F5 := FF1.same W4
  have E6 := E0.wr W4
  have F7 := FF0.other W4 (Or.inr (slot_ne (Or.inl (C.w 45 rfl)) (Or.inl (C.w 47 rfl)) (by decide) (t := (.object "com/example/plantilla/plantilla/ScriptText$Mode")) (t' := .boolean) (by decide) (by decide)))
  have F8 := FF2.other W4 (Or.inr (slot_ne (Or.inl (C.w 49 rfl)) (Or.inl (C.w 47 rfl)) (by decide) (t := .long) (t' := .boolean) (by decide) (by decide)))
  have F9 := FF3.other W4 (Or.inr (slot_ne (Or.inl (C.w 51 rfl)) (Or.inl (C.w 47 rfl)) (by decide) (t := .boolean) (t' := .boolean) (by decide) (by decide)))
  have F10 := FF4.other W4 (Or.inr (slot_ne (Or.inl (C.w 53 rfl)) (Or.inl (C.w 47 rfl)) (by decide) (t := .int) (t' := .boolean) (by decide) (by decide)))
  have F11 := FF5.other W4 (Or.inr (slot_ne (Or.inl (C.w 55 rfl)) (Or.inl (C.w 47 rfl)) (by decide) (t := .long) (t' := .boolean) (by decide) (by decide)))
  have F12 := FF6.other W4 (Or.inr (slot_ne (Or.inl (C.w 57 rfl)) (Or.inl (C.w 47 rfl)) (by decide) (t := .int) (t' := .boolean) (by decide) (by decide)))
  have K13 := (Keep.refl h [a]).wr W4 (Or.inl (List.mem_of_getElem? (i := 0) rfl))
  exact go_ret0 C X2 d17_144 ⟨rfl, K13, E6, F7, F5, F8, F9, F10, F11, F12⟩ (by decide) (by decide)
theorem ef_own_cold60 (m : MethodId) (a : Addr)  : entryFrame m #[(.ref a), (.int (60 : Int32))] 3 = mkF m 0 #[rv a, iv (60 : Int32), un] [] := by
  first | (simp [entryFrame, mkF, argsToLocals, Value.category]; done) | rfl
set_option maxRecDepth 65536 in
set_option maxHeartbeats 40000000 in
theorem own_cold60 (l : Launch) (Z : State) (a0 : Array Value) (hw : ∀ d ∈ tables_1, d.before a0 Z = true) (a : Addr) (mc ms mt md be : Addr) (cs : Int32) (fv : Value)  (h : Heap) (n0 : Nat) (hn0 : Old Z n0 h) (hEL : EW Z a0 consts_1) (hE : own_E Z mc ms mt md be cs fv)  (hS : own_F Z h a mc (1 : Int32) (0 : Int64) (0 : Int32) (0 : Int32) (0 : Int64) (0 : Int32)) (ga : n0 ≤ a) :
    ConX l Z consts_1 (fun _ => True) (⟨"com/example/plantilla/plantilla/ScriptText", "readCode", "(C)V"⟩ : MethodName) prog_37_method_10_code 3 none ({ frames := 3, cells := 2, slots := 20, locals := 60 } : Room) #[(.ref a), (.int (60 : Int32))] h n0 (fun v h' vm' => v = none ∧ Keep h h' [a] ∧ own_F Z h' a mc (1 : Int32) (0 : Int64) (0 : Int32) (0 : Int32) (0 : Int64) (1 : Int32) ∧ ∃ la lb : Addr, LdV Z "com/example/plantilla/plantilla/ScriptText" 120 la vm' ∧ Sg Z h' la lb own_LT ∧ la ≠ a ∧ lb ≠ a) := by
  refine conX_of hw (plainFor_of_name pn_com_example_plantilla_plantilla_ScriptText) hn0 ?_
  intro p e sv0 s m below meth c T0 C _ WI0 X0
  refine Go.cast (congrArg T0.setTop (ef_own_cold60 m a)) ?_
  have hE1 := hE
  obtain ⟨SM0, SM1, SM2, SM3, EM0, EM1, EM2, EM3, FM0, FM1, FM2, FM3, SB, AB, hcs, S1, hfv, S2⟩ := hE1
  obtain ⟨E0, FF0, FF1, FF2, FF3, FF4, FF5, FF6⟩ := hS
  refine go_aloadN C X0 1 rfl d14_0 rfl rfl ?_
  refine go_getF C X0 (C.w 56 rfl) Via.refl FF6 (pc' := 4) rfl d14_1 (fun T1 X2 => ?_)
  refine go_if_le C X2 d14_4 (pc' := 7) (pc2 := 33) rfl (by decide) (by decide) (fun (c4 : 0 ≤ 0) => ?_) (fun (c4 : 0 < 0) => False.elim (by first | omega | exact absurd c4 (by decide)))
  refine go_aloadN C X2 34 rfl d14_33 rfl rfl ?_
  refine go_iloadN C X2 35 rfl d14_34 rfl ?_
  refine go_bipush C X2 37 rfl d14_35 (z := 60) rfl ?_
  refine go_icmp_ne C X2 d14_37 (pc' := 40) (pc2 := 44) rfl (by decide) (by decide) (fun (c37 : ¬ (60 : Int32) = (60 : Int32)) => False.elim (by first | omega | exact absurd c37 (by decide))) (fun (c37 : (60 : Int32) = (60 : Int32)) => ?_)
  refine go_iconst C X2 41 rfl d14_40 (z := 1) rfl ?_
  refine go_goto C X2 d14_41 (pc' := 45) (by decide) (by decide) ?_
  refine go_putF C X2 (C.w 56 rfl) Via.refl FF6 E0 (Or.inl (C.w 57 rfl)) (C.w 28 rfl) ga (ty := .int) (by decide) rfl rfl (pc' := 48) rfl d14_45 (fun T3 h5 W6 X4 => ?_)
  have F7 := FF6.same W6
  have SQ8 : Safe Z consts_1 s.vm _ a := (safeE C E0 (by decide) (by decide))
  have WI9 := WI0.wr W6 SQ8
  have E10 := E0.wr W6
  have F11 := FF0.other W6 (Or.inr (slot_ne (Or.inl (C.w 45 rfl)) (Or.inl (C.w 57 rfl)) (by decide) (t := (.object "com/example/plantilla/plantilla/ScriptText$Mode")) (t' := .int) (by decide) (by decide)))
  have F12 := FF1.other W6 (Or.inr (slot_ne (Or.inl (C.w 47 rfl)) (Or.inl (C.w 57 rfl)) (by decide) (t := .boolean) (t' := .int) (by decide) (by decide)))
  have F13 := FF2.other W6 (Or.inr (slot_ne (Or.inl (C.w 49 rfl)) (Or.inl (C.w 57 rfl)) (by decide) (t := .long) (t' := .int) (by decide) (by decide)))
  have F14 := FF3.other W6 (Or.inr (slot_ne (Or.inl (C.w 51 rfl)) (Or.inl (C.w 57 rfl)) (by decide) (t := .boolean) (t' := .int) (by decide) (by decide)))
  have F15 := FF4.other W6 (Or.inr (slot_ne (Or.inl (C.w 53 rfl)) (Or.inl (C.w 57 rfl)) (by decide) (t := .int) (t' := .int) (by decide) (by decide)))
  have F16 := FF5.other W6 (Or.inr (slot_ne (Or.inl (C.w 55 rfl)) (Or.inl (C.w 57 rfl)) (by decide) (t := .long) (t' := .int) (by decide) (by decide)))
  have K17 := (Keep.refl h [a]).wr W6 (Or.inl (List.mem_of_getElem? (i := 0) rfl))
  refine go_iloadN C X4 49 rfl d14_48 rfl ?_
  refine go_callS C X4 (C.w 116 rfl) (C.w 117 rfl) (C.w 29 rfl) (C.w 118 rfl) (own_p15_15 l Z a0 C.ws  h5 n0 X4.old ) (argsL := [(.int (60 : Int32))]) (rest := []) (lenOf pd_6 rfl) rfl (by decide) (by decide) (Nat.le_of_ble_eq_true rfl) (by decide) (by decide) rfl rfl (pc' := 52) rfl d14_49 ?_
  rintro T18 _ _ ⟨rfl, rfl⟩ X19
  show Go p e below _ (T18.setTop (mkF m 52 #[rv a, iv (60 : Int32), un] [(.int (0 : Int32))]))
  refine go_if_eq C X19 d14_52 (pc' := 55) (pc2 := 105) rfl (by decide) (by decide) (fun (c52 : (0 : Int32) = (0 : Int32)) => ?_) (fun (c52 : ¬ (0 : Int32) = (0 : Int32)) => False.elim (by first | omega | exact absurd c52 (by decide)))
  refine go_aloadN C X19 106 rfl d14_105 rfl rfl ?_
  refine go_getF C X19 (C.w 48 rfl) Via.refl F13 (pc' := 109) rfl d14_106 (fun T21 X22 => ?_)
  refine go_lconst C X22 110 rfl d14_109 (z := 0) rfl ?_
  refine go_lif_eq C X22 (pc1 := 111) rfl d14_110 d14_111 (pc' := 114) (pc2 := 128) rfl (by decide) (by decide) (fun (c111 : (0 : Int64) = (0 : Int64)) => ?_) (fun (c111 : ¬ (0 : Int64) = (0 : Int64)) => False.elim (by first | omega | exact absurd c111 (by decide)))
  refine go_aloadN C X22 129 rfl d14_128 rfl rfl ?_
  refine go_lconst C X22 130 rfl d14_129 (z := 0) rfl ?_
  refine go_putF C X22 (C.w 48 rfl) Via.refl F13 E10 (Or.inl (C.w 49 rfl)) (C.w 28 rfl) ga (ty := .long) (by decide) rfl rfl (pc' := 133) rfl d14_130 (fun T23 h25 W26 X24 => ?_)
  have F27 := F13.same W26
  have SQ28 : Safe Z consts_1 s.vm _ a := (safeE C E10 (by decide) (by decide))
  have WI29 := WI9.wr W26 SQ28
  have E30 := E10.wr W26
  have F31 := F11.other W26 (Or.inr (slot_ne (Or.inl (C.w 45 rfl)) (Or.inl (C.w 49 rfl)) (by decide) (t := (.object "com/example/plantilla/plantilla/ScriptText$Mode")) (t' := .long) (by decide) (by decide)))
  have F32 := F12.other W26 (Or.inr (slot_ne (Or.inl (C.w 47 rfl)) (Or.inl (C.w 49 rfl)) (by decide) (t := .boolean) (t' := .long) (by decide) (by decide)))
  have F33 := F14.other W26 (Or.inr (slot_ne (Or.inl (C.w 51 rfl)) (Or.inl (C.w 49 rfl)) (by decide) (t := .boolean) (t' := .long) (by decide) (by decide)))
  have F34 := F15.other W26 (Or.inr (slot_ne (Or.inl (C.w 53 rfl)) (Or.inl (C.w 49 rfl)) (by decide) (t := .int) (t' := .long) (by decide) (by decide)))
  have F35 := F16.other W26 (Or.inr (slot_ne (Or.inl (C.w 55 rfl)) (Or.inl (C.w 49 rfl)) (by decide) (t := .long) (t' := .long) (by decide) (by decide)))
  have F36 := F7.other W26 (Or.inr (slot_ne (Or.inl (C.w 57 rfl)) (Or.inl (C.w 49 rfl)) (by decide) (t := .int) (t' := .long) (by decide) (by decide)))
  have K37 := K17.wr W26 (Or.inl (List.mem_of_getElem? (i := 0) rfl))
  refine go_iloadN C X24 134 rfl d14_133 rfl ?_
  refine go_callS C X24 (C.w 119 rfl) (C.w 120 rfl) (C.w 29 rfl) (C.w 121 rfl) (own_p16_16 l Z a0 C.ws  h25 n0 X24.old ) (argsL := [(.int (60 : Int32))]) (rest := []) (lenOf pd_6 rfl) rfl (by decide) (by decide) (Nat.le_of_ble_eq_true rfl) (by decide) (by decide) rfl rfl (pc' := 137) rfl d14_134 ?_
  rintro T38 _ _ ⟨rfl, rfl⟩ X39
  show Go p e below _ (T38.setTop (mkF m 137 #[rv a, iv (60 : Int32), un] [(.int (0 : Int32))]))
  refine go_if_ne C X39 d14_137 (pc' := 140) (pc2 := 145) rfl (by decide) (by decide) (fun (c137 : ¬ (0 : Int32) = (0 : Int32)) => False.elim (by first | omega | exact absurd c137 (by decide))) (fun (c137 : (0 : Int32) = (0 : Int32)) => ?_)
  refine go_aloadN C X39 141 rfl d14_140 rfl rfl ?_
  refine go_iloadN C X39 142 rfl d14_141 rfl ?_
  refine go_private C X39 E30 (C.w 122 rfl) (C.w 123 rfl) (Jvm.Kit.selects_private (by decide) (C.w 28 rfl) (C.w 124 rfl) (C.w 123 rfl)) (C.w 124 rfl) (C.w 29 rfl) (C.w 125 rfl) (own_m17_17 l Z a0 C.ws a mc ms mt md be cs fv  h25 n0 X39.old hE  ⟨E30, F31, F32, F27, F33, F34, F35, F36⟩ ga) (argsL := [(.int (60 : Int32))]) (rest := []) (lenOf pd_7 rfl) rfl (by decide) (by decide) (Nat.le_of_ble_eq_true rfl) (by decide) (by decide) rfl rfl (pc' := 145) rfl d14_142 ?_
  rintro T41 h43 _ ⟨rfl, Kq44, Eq44, Fq440, Fq441, Fq442, Fq443, Fq444, Fq445, Fq446⟩ X42
  show Go p e below _ (T41.setTop (mkF m 145 #[rv a, iv (60 : Int32), un] []))
  have WI45 := WI29.keep Kq44 (sfS (safeE C E30 (by decide) (by decide)) sf0)
  have E46 := E30.keep Kq44
  have K47 := K37.trans Kq44 (allS (Or.inl (List.mem_of_getElem? (i := 0) rfl)) all0)
  refine go_aloadN C X42 146 rfl d14_145 rfl rfl ?_
  refine go_getF C X42 (C.w 56 rfl) Via.refl Fq446 (pc' := 149) rfl d14_146 (fun T48 X49 => ?_)
  refine go_ldcHX C X49 WI45 hEL (C.w 126 rfl) (own_wS C.ws) (List.mem_of_getElem? (i := 0) rfl) (vs := [.int 60, .int 33, .int 45, .int 45]) (z := 4) own_lit120 (by decide) (by decide) (q := 16) own_len120 (by decide) (by decide) (by decide) (pc' := 151) rfl d14_149 ?_
  intro s T50 h52 la lb C WI54 E53 EL0 GL1 GL2 AL SF hLd X51
  have E55 := Eq44.ext E53
  have F56 := Fq440.ext E53
  have F57 := Fq441.ext E53
  have F58 := Fq442.ext E53
  have F59 := Fq443.ext E53
  have F60 := Fq444.ext E53
  have F61 := Fq445.ext E53
  have F62 := Fq446.ext E53
  have K63 := K47.ext E53
  have nab := SF a (safeE C E55 (by decide) (by decide))
  replace AL : La Z h52 lb .byte (ia [60, 33, 45, 45]) := AL
  refine go_virtual C X51 EL0 (C.w 63 rfl) (C.w 64 rfl) (notFace_of_selects (args := #[]) (mvT C.hZ (C.w 66 rfl))) (C.w 66 rfl) (C.w 65 rfl) (C.w 3 rfl) (C.w 67 rfl) (own_len l Z a0 C.ws la lb [60, 33, 45, 45] (4 : Int32) cs fv h52 n0 X51.old EL0 GL1 GL2 AL rfl hcs S1 hfv S2) (argsL := []) (rest := [(.int (1 : Int32))]) (lenOf pd_8 rfl) rfl (by decide) (by decide) (Nat.le_of_ble_eq_true rfl) (by decide) (by decide) rfl rfl (pc' := 154) rfl d14_151 ?_
  rintro T64 _ _ ⟨rfl, rfl⟩ X65
  show Go p e below _ (T64.setTop (mkF m 154 #[rv a, iv (60 : Int32), un] [(.int (4 : Int32)), (.int (1 : Int32))]))
  refine go_icmp_ne C X65 d14_154 (pc' := 157) (pc2 := 169) rfl (by decide) (by decide) (fun (c154 : ¬ (1 : Int32) = (4 : Int32)) => ?_) (fun (c154 : (1 : Int32) = (4 : Int32)) => False.elim (by first | omega | exact absurd c154 (by decide)))
  exact go_ret0X C X65 WI54 hEL d14_169 (fun vm' W9 => ⟨rfl, K63, ⟨E55, F56, F57, F58, F59, F60, F61, F62⟩, la, lb, hLd.warm W9, ⟨EL0, GL1, GL2, AL⟩, Ne.symm nab.1, Ne.symm nab.2⟩) (by decide) (by decide)
theorem own_cold60_r (l : Launch) (Z : State) (a0 : Array Value) (hw : ∀ d ∈ tables_1, d.before a0 Z = true) (mc ms mt md be : Addr) (cs : Int32) (fv : Value)  (hEL : EW Z a0 consts_1) (hE : own_E Z mc ms mt md be cs fv) : own_RCX l Z (mc, 1, 0, 0, 0, 0, 0) (60 : Int32) (mc, 1, 0, 0, 0, 0, 1) := fun h n0 a ho ga hS => own_cold60 l Z a0 hw a  mc ms mt md be cs fv  h n0 ho hEL hE  hS ga
theorem ef_own_p15_18 (m : MethodId)   : entryFrame m #[(.int (125 : Int32))] 2 = mkF m 0 #[iv (125 : Int32), un] [] := by
  first | (simp [entryFrame, mkF, argsToLocals, Value.category]; done) | rfl
set_option maxRecDepth 65536 in
set_option maxHeartbeats 40000000 in
theorem own_p15_18 (l : Launch) (Z : State) (a0 : Array Value) (hw : ∀ d ∈ tables_1, d.before a0 Z = true)   (h : Heap) (n0 : Nat) (hn0 : Old Z n0 h)  :
    Con l Z (⟨"com/example/plantilla/plantilla/ScriptText", "isWordCharacter", "(C)Z"⟩ : MethodName) prog_37_method_21_code 2 (some .boolean) ({ frames := 0, cells := 0, slots := 0, locals := 0 } : Room) #[(.int (125 : Int32))] h n0 (fun v h' => v = some (.int (0 : Int32)) ∧ h = h') := by
  refine con_of hw (plainFor_of_name pn_com_example_plantilla_plantilla_ScriptText) hn0 ?_
  intro p e s m below meth c T0 C X0
  refine Go.cast (congrArg T0.setTop (ef_own_p15_18 m )) ?_
  refine go_iloadN C X0 1 rfl d15_0 rfl ?_
  refine go_bipush C X0 3 rfl d15_1 (z := 97) rfl ?_
  refine go_icmp_lt C X0 d15_3 (pc' := 6) (pc2 := 12) rfl (by decide) (by decide) (fun (c3 : 125 < 97) => False.elim (by first | omega | exact absurd c3 (by decide))) (fun (c3 : 97 ≤ 125) => ?_)
  refine go_iloadN C X0 7 rfl d15_6 rfl ?_
  refine go_bipush C X0 9 rfl d15_7 (z := 122) rfl ?_
  refine go_icmp_le C X0 d15_9 (pc' := 12) (pc2 := 48) rfl (by decide) (by decide) (fun (c9 : 125 ≤ 122) => False.elim (by first | omega | exact absurd c9 (by decide))) (fun (c9 : 122 < 125) => ?_)
  refine go_iloadN C X0 13 rfl d15_12 rfl ?_
  refine go_bipush C X0 15 rfl d15_13 (z := 65) rfl ?_
  refine go_icmp_lt C X0 d15_15 (pc' := 18) (pc2 := 24) rfl (by decide) (by decide) (fun (c15 : 125 < 65) => False.elim (by first | omega | exact absurd c15 (by decide))) (fun (c15 : 65 ≤ 125) => ?_)
  refine go_iloadN C X0 19 rfl d15_18 rfl ?_
  refine go_bipush C X0 21 rfl d15_19 (z := 90) rfl ?_
  refine go_icmp_le C X0 d15_21 (pc' := 24) (pc2 := 48) rfl (by decide) (by decide) (fun (c21 : 125 ≤ 90) => False.elim (by first | omega | exact absurd c21 (by decide))) (fun (c21 : 90 < 125) => ?_)
  refine go_iloadN C X0 25 rfl d15_24 rfl ?_
  refine go_bipush C X0 27 rfl d15_25 (z := 48) rfl ?_
  refine go_icmp_lt C X0 d15_27 (pc' := 30) (pc2 := 36) rfl (by decide) (by decide) (fun (c27 : 125 < 48) => False.elim (by first | omega | exact absurd c27 (by decide))) (fun (c27 : 48 ≤ 125) => ?_)
  refine go_iloadN C X0 31 rfl d15_30 rfl ?_
  refine go_bipush C X0 33 rfl d15_31 (z := 57) rfl ?_
  refine go_icmp_le C X0 d15_33 (pc' := 36) (pc2 := 48) rfl (by decide) (by decide) (fun (c33 : 125 ≤ 57) => False.elim (by first | omega | exact absurd c33 (by decide))) (fun (c33 : 57 < 125) => ?_)
  refine go_iloadN C X0 37 rfl d15_36 rfl ?_
  refine go_bipush C X0 39 rfl d15_37 (z := 95) rfl ?_
  refine go_icmp_eq C X0 d15_39 (pc' := 42) (pc2 := 48) rfl (by decide) (by decide) (fun (c39 : (125 : Int32) = (95 : Int32)) => False.elim (by first | omega | exact absurd c39 (by decide))) (fun (c39 : ¬ (125 : Int32) = (95 : Int32)) => ?_)
  refine go_iloadN C X0 43 rfl d15_42 rfl ?_
  refine go_bipush C X0 45 rfl d15_43 (z := 36) rfl ?_
  refine go_icmp_ne C X0 d15_45 (pc' := 48) (pc2 := 52) rfl (by decide) (by decide) (fun (c45 : ¬ (125 : Int32) = (36 : Int32)) => ?_) (fun (c45 : (125 : Int32) = (36 : Int32)) => False.elim (by first | omega | exact absurd c45 (by decide)))
  refine go_iconst C X0 53 rfl d15_52 (z := 0) rfl ?_
  refine go_istoreN C X0 54 rfl d15_53 #[iv (125 : Int32), iv (0 : Int32)] rfl ?_
  refine go_iloadN C X0 55 rfl d15_54 rfl ?_
  refine go_if_ne C X0 d15_55 (pc' := 58) (pc2 := 72) rfl (by decide) (by decide) (fun (c55 : ¬ (0 : Int32) = (0 : Int32)) => False.elim (by first | omega | exact absurd c55 (by decide))) (fun (c55 : (0 : Int32) = (0 : Int32)) => ?_)
  refine go_iloadN C X0 59 rfl d15_58 rfl ?_
  refine go_sipush C X0 62 rfl d15_59 (z := 128) rfl ?_
  refine go_icmp_lt C X0 d15_62 (pc' := 65) (pc2 := 76) rfl (by decide) (by decide) (fun (c62 : 125 < 128) => ?_) (fun (c62 : 128 ≤ 125) => False.elim (by first | omega | exact absurd c62 (by decide)))
  refine go_iconst C X0 77 rfl d15_76 (z := 0) rfl ?_
  exact go_retN C X0 (by simp) (z' := 0) rfl d15_77 ⟨rfl, rfl⟩ (by decide) (by decide)
theorem ef_own_p16_19 (m : MethodId)   : entryFrame m #[(.int (125 : Int32))] 2 = mkF m 0 #[iv (125 : Int32), un] [] := by
  first | (simp [entryFrame, mkF, argsToLocals, Value.category]; done) | rfl
set_option maxRecDepth 65536 in
set_option maxHeartbeats 40000000 in
theorem own_p16_19 (l : Launch) (Z : State) (a0 : Array Value) (hw : ∀ d ∈ tables_1, d.before a0 Z = true)   (h : Heap) (n0 : Nat) (hn0 : Old Z n0 h)  :
    Con l Z (⟨"com/example/plantilla/plantilla/ScriptText", "isSpace", "(C)Z"⟩ : MethodName) prog_37_method_22_code 2 (some .boolean) ({ frames := 0, cells := 0, slots := 0, locals := 0 } : Room) #[(.int (125 : Int32))] h n0 (fun v h' => v = some (.int (0 : Int32)) ∧ h = h') := by
  refine con_of hw (plainFor_of_name pn_com_example_plantilla_plantilla_ScriptText) hn0 ?_
  intro p e s m below meth c T0 C X0
  refine Go.cast (congrArg T0.setTop (ef_own_p16_19 m )) ?_
  refine go_iloadN C X0 1 rfl d16_0 rfl ?_
  refine go_bipush C X0 3 rfl d16_1 (z := 32) rfl ?_
  refine go_icmp_eq C X0 d16_3 (pc' := 6) (pc2 := 36) rfl (by decide) (by decide) (fun (c3 : (125 : Int32) = (32 : Int32)) => False.elim (by first | omega | exact absurd c3 (by decide))) (fun (c3 : ¬ (125 : Int32) = (32 : Int32)) => ?_)
  refine go_iloadN C X0 7 rfl d16_6 rfl ?_
  refine go_bipush C X0 9 rfl d16_7 (z := 9) rfl ?_
  refine go_icmp_eq C X0 d16_9 (pc' := 12) (pc2 := 36) rfl (by decide) (by decide) (fun (c9 : (125 : Int32) = (9 : Int32)) => False.elim (by first | omega | exact absurd c9 (by decide))) (fun (c9 : ¬ (125 : Int32) = (9 : Int32)) => ?_)
  refine go_iloadN C X0 13 rfl d16_12 rfl ?_
  refine go_bipush C X0 15 rfl d16_13 (z := 10) rfl ?_
  refine go_icmp_eq C X0 d16_15 (pc' := 18) (pc2 := 36) rfl (by decide) (by decide) (fun (c15 : (125 : Int32) = (10 : Int32)) => False.elim (by first | omega | exact absurd c15 (by decide))) (fun (c15 : ¬ (125 : Int32) = (10 : Int32)) => ?_)
  refine go_iloadN C X0 19 rfl d16_18 rfl ?_
  refine go_bipush C X0 21 rfl d16_19 (z := 13) rfl ?_
  refine go_icmp_eq C X0 d16_21 (pc' := 24) (pc2 := 36) rfl (by decide) (by decide) (fun (c21 : (125 : Int32) = (13 : Int32)) => False.elim (by first | omega | exact absurd c21 (by decide))) (fun (c21 : ¬ (125 : Int32) = (13 : Int32)) => ?_)
  refine go_iloadN C X0 25 rfl d16_24 rfl ?_
  refine go_bipush C X0 27 rfl d16_25 (z := 12) rfl ?_
  refine go_icmp_eq C X0 d16_27 (pc' := 30) (pc2 := 36) rfl (by decide) (by decide) (fun (c27 : (125 : Int32) = (12 : Int32)) => False.elim (by first | omega | exact absurd c27 (by decide))) (fun (c27 : ¬ (125 : Int32) = (12 : Int32)) => ?_)
  refine go_iloadN C X0 31 rfl d16_30 rfl ?_
  refine go_bipush C X0 33 rfl d16_31 (z := 11) rfl ?_
  refine go_icmp_ne C X0 d16_33 (pc' := 36) (pc2 := 40) rfl (by decide) (by decide) (fun (c33 : ¬ (125 : Int32) = (11 : Int32)) => ?_) (fun (c33 : (125 : Int32) = (11 : Int32)) => False.elim (by first | omega | exact absurd c33 (by decide)))
  refine go_iconst C X0 41 rfl d16_40 (z := 0) rfl ?_
  refine go_istoreN C X0 42 rfl d16_41 #[iv (125 : Int32), iv (0 : Int32)] rfl ?_
  refine go_iloadN C X0 43 rfl d16_42 rfl ?_
  refine go_if_ne C X0 d16_43 (pc' := 46) (pc2 := 66) rfl (by decide) (by decide) (fun (c43 : ¬ (0 : Int32) = (0 : Int32)) => False.elim (by first | omega | exact absurd c43 (by decide))) (fun (c43 : (0 : Int32) = (0 : Int32)) => ?_)
  refine go_iloadN C X0 47 rfl d16_46 rfl ?_
  refine go_sipush C X0 50 rfl d16_47 (z := 128) rfl ?_
  refine go_icmp_lt C X0 d16_50 (pc' := 53) (pc2 := 70) rfl (by decide) (by decide) (fun (c50 : 125 < 128) => ?_) (fun (c50 : 128 ≤ 125) => False.elim (by first | omega | exact absurd c50 (by decide)))
  refine go_iconst C X0 71 rfl d16_70 (z := 0) rfl ?_
  exact go_retN C X0 (by simp) (z' := 0) rfl d16_71 ⟨rfl, rfl⟩ (by decide) (by decide)
theorem d17_124 : decode prog_37_method_11_code 124 = .ok (.aload_n 0, 1) := by decide +kernel
theorem d19_0 : decode prog_37_method_20_code 0 = .ok (.aload_n 0, 1) := by decide +kernel
theorem d19_1 : decode prog_37_method_20_code 1 = .ok (.getfield 40, 3) := by decide +kernel
theorem d19_4 : decode prog_37_method_20_code 4 = .ok (.ifCond .le 7, 3) := by decide +kernel
theorem d19_11 : decode prog_37_method_20_code 11 = .ok (.iconst 0, 1) := by decide +kernel
theorem d19_12 : decode prog_37_method_20_code 12 = .ok (.istore_n 1, 1) := by decide +kernel
theorem d19_13 : decode prog_37_method_20_code 13 = .ok (.iload_n 1, 1) := by decide +kernel
theorem d19_14 : decode prog_37_method_20_code 14 = .ok (.ifCond .eq 13, 3) := by decide +kernel
theorem d19_27 : decode prog_37_method_20_code 27 = .ok (.aload_n 0, 1) := by decide +kernel
theorem d19_28 : decode prog_37_method_20_code 28 = .ok (.getfield 40, 3) := by decide +kernel
theorem d19_31 : decode prog_37_method_20_code 31 = .ok (.bipush 64, 2) := by decide +kernel
theorem d19_33 : decode prog_37_method_20_code 33 = .ok (.if_icmp .ge 12, 3) := by decide +kernel
theorem d19_36 : decode prog_37_method_20_code 36 = .ok (.lconst 1, 1) := by decide +kernel
theorem d19_37 : decode prog_37_method_20_code 37 = .ok (.aload_n 0, 1) := by decide +kernel
theorem d19_38 : decode prog_37_method_20_code 38 = .ok (.getfield 40, 3) := by decide +kernel
theorem d19_41 : decode prog_37_method_20_code 41 = .ok (.lshl, 1) := by decide +kernel
theorem d19_42 : decode prog_37_method_20_code 42 = .ok (.goto 4, 3) := by decide +kernel
theorem d19_46 : decode prog_37_method_20_code 46 = .ok (.lstore_n 2, 1) := by decide +kernel
theorem d19_47 : decode prog_37_method_20_code 47 = .ok (.iload_n 1, 1) := by decide +kernel
theorem d19_48 : decode prog_37_method_20_code 48 = .ok (.ifCond .eq 38, 3) := by decide +kernel
theorem d19_86 : decode prog_37_method_20_code 86 = .ok (.aload_n 0, 1) := by decide +kernel
theorem d19_87 : decode prog_37_method_20_code 87 = .ok (.iconst 1, 1) := by decide +kernel
theorem d19_88 : decode prog_37_method_20_code 88 = .ok (.putfield 27, 3) := by decide +kernel
theorem d19_91 : decode prog_37_method_20_code 91 = .ok (.return_, 1) := by decide +kernel
theorem ef_own_m19_21 (m : MethodId) (a : Addr)  : entryFrame m #[(.ref a)] 4 = mkF m 0 #[rv a, un, un, un] [] := by
  first | (simp [entryFrame, mkF, argsToLocals, Value.category]; done) | rfl
set_option maxRecDepth 65536 in
set_option maxHeartbeats 40000000 in
theorem own_m19_21 (l : Launch) (Z : State) (a0 : Array Value) (hw : ∀ d ∈ tables_1, d.before a0 Z = true) (a : Addr) (mc ms mt md be : Addr) (cs : Int32) (fv : Value)  (h : Heap) (n0 : Nat) (hn0 : Old Z n0 h) (hE : own_E Z mc ms mt md be cs fv)  (hS : own_F Z h a mc (1 : Int32) (0 : Int64) (0 : Int32) (0 : Int32) (0 : Int64) (0 : Int32)) (ga : n0 ≤ a) :
    Con l Z (⟨"com/example/plantilla/plantilla/ScriptText", "closeBrace", "()V"⟩ : MethodName) prog_37_method_20_code 4 none ({ frames := 0, cells := 0, slots := 0, locals := 0 } : Room) #[(.ref a)] h n0 (fun v h' => v = none ∧ Keep h h' [a] ∧ own_F Z h' a mc (1 : Int32) (0 : Int64) (0 : Int32) (0 : Int32) (0 : Int64) (0 : Int32)) := by
  refine con_of hw (plainFor_of_name pn_com_example_plantilla_plantilla_ScriptText) hn0 ?_
  intro p e s m below meth c T0 C X0
  refine Go.cast (congrArg T0.setTop (ef_own_m19_21 m a)) ?_
  have hE1 := hE
  obtain ⟨SM0, SM1, SM2, SM3, EM0, EM1, EM2, EM3, FM0, FM1, FM2, FM3, SB, AB, hcs, S1, hfv, S2⟩ := hE1
  obtain ⟨E0, FF0, FF1, FF2, FF3, FF4, FF5, FF6⟩ := hS
  refine go_aloadN C X0 1 rfl d19_0 rfl rfl ?_
  refine go_getF C X0 (C.w 52 rfl) Via.refl FF4 (pc' := 4) rfl d19_1 (fun T1 X2 => ?_)
  refine go_if_le C X2 d19_4 (pc' := 7) (pc2 := 11) rfl (by decide) (by decide) (fun (c4 : 0 ≤ 0) => ?_) (fun (c4 : 0 < 0) => False.elim (by first | omega | exact absurd c4 (by decide)))
  refine go_iconst C X2 12 rfl d19_11 (z := 0) rfl ?_
  refine go_istoreN C X2 13 rfl d19_12 #[rv a, iv (0 : Int32), un, un] rfl ?_
  refine go_iloadN C X2 14 rfl d19_13 rfl ?_
  refine go_if_eq C X2 d19_14 (pc' := 17) (pc2 := 27) rfl (by decide) (by decide) (fun (c14 : (0 : Int32) = (0 : Int32)) => ?_) (fun (c14 : ¬ (0 : Int32) = (0 : Int32)) => False.elim (by first | omega | exact absurd c14 (by decide)))
  refine go_aloadN C X2 28 rfl d19_27 rfl rfl ?_
  refine go_getF C X2 (C.w 52 rfl) Via.refl FF4 (pc' := 31) rfl d19_28 (fun T3 X4 => ?_)
  refine go_bipush C X4 33 rfl d19_31 (z := 64) rfl ?_
  refine go_icmp_ge C X4 d19_33 (pc' := 36) (pc2 := 45) rfl (by decide) (by decide) (fun (c33 : 64 ≤ 0) => False.elim (by first | omega | exact absurd c33 (by decide))) (fun (c33 : 0 < 64) => ?_)
  refine go_lconst C X4 37 rfl d19_36 (z := 1) rfl ?_
  refine go_aloadN C X4 38 rfl d19_37 rfl rfl ?_
  refine go_getF C X4 (C.w 52 rfl) Via.refl FF4 (pc' := 41) rfl d19_38 (fun T5 X6 => ?_)
  refine go_lshl C X6 42 rfl d19_41 ?_
  show Go p e below _ (T5.setTop (mkF m 42 #[rv a, iv (0 : Int32), un, un] [(.long (1 : Int64))]))
  refine go_goto C X6 d19_42 (pc' := 46) (by decide) (by decide) ?_
  refine go_lstoreN C X6 47 rfl d19_46 #[rv a, iv (0 : Int32), jv (1 : Int64), sc] rfl ?_
  refine go_iloadN C X6 48 rfl d19_47 rfl ?_
  refine go_if_eq C X6 d19_48 (pc' := 51) (pc2 := 86) rfl (by decide) (by decide) (fun (c48 : (0 : Int32) = (0 : Int32)) => ?_) (fun (c48 : ¬ (0 : Int32) = (0 : Int32)) => False.elim (by first | omega | exact absurd c48 (by decide)))
  refine go_aloadN C X6 87 rfl d19_86 rfl rfl ?_
  refine go_iconst C X6 88 rfl d19_87 (z := 1) rfl ?_
  refine go_putFN C X6 (C.w 46 rfl) Via.refl FF1 E0 (Or.inl (C.w 47 rfl)) (C.w 28 rfl) ga (ty := .boolean) (by decide) (v' := (.int (1 : Int32))) rfl rfl (pc' := 91) rfl d19_88 (fun T7 h9 W10 X8 => ?_)
  have F11 := FF1.same W10
  have E12 := E0.wr W10
  have F13 := FF0.other W10 (Or.inr (slot_ne (Or.inl (C.w 45 rfl)) (Or.inl (C.w 47 rfl)) (by decide) (t := (.object "com/example/plantilla/plantilla/ScriptText$Mode")) (t' := .boolean) (by decide) (by decide)))
  have F14 := FF2.other W10 (Or.inr (slot_ne (Or.inl (C.w 49 rfl)) (Or.inl (C.w 47 rfl)) (by decide) (t := .long) (t' := .boolean) (by decide) (by decide)))
  have F15 := FF3.other W10 (Or.inr (slot_ne (Or.inl (C.w 51 rfl)) (Or.inl (C.w 47 rfl)) (by decide) (t := .boolean) (t' := .boolean) (by decide) (by decide)))
  have F16 := FF4.other W10 (Or.inr (slot_ne (Or.inl (C.w 53 rfl)) (Or.inl (C.w 47 rfl)) (by decide) (t := .int) (t' := .boolean) (by decide) (by decide)))
  have F17 := FF5.other W10 (Or.inr (slot_ne (Or.inl (C.w 55 rfl)) (Or.inl (C.w 47 rfl)) (by decide) (t := .long) (t' := .boolean) (by decide) (by decide)))
  have F18 := FF6.other W10 (Or.inr (slot_ne (Or.inl (C.w 57 rfl)) (Or.inl (C.w 47 rfl)) (by decide) (t := .int) (t' := .boolean) (by decide) (by decide)))
  have K19 := (Keep.refl h [a]).wr W10 (Or.inl (List.mem_of_getElem? (i := 0) rfl))
  exact go_ret0 C X8 d19_91 ⟨rfl, K19, E12, F13, F11, F14, F15, F16, F17, F18⟩ (by decide) (by decide)
theorem pd_10 : parseMethodDescriptor "()V" = some ⟨[], none⟩ := by decide +kernel
theorem d17_125 : decode prog_37_method_11_code 125 = .ok (.invokevirtual 158, 3) := by decide +kernel
theorem d17_128 : decode prog_37_method_11_code 128 = .ok (.goto 16, 3) := by decide +kernel
theorem ef_own_m17_20 (m : MethodId) (a : Addr)  : entryFrame m #[(.ref a), (.int (125 : Int32))] 2 = mkF m 0 #[rv a, iv (125 : Int32)] [] := by
  first | (simp [entryFrame, mkF, argsToLocals, Value.category]; done) | rfl
set_option maxRecDepth 65536 in
set_option maxHeartbeats 40000000 in
theorem own_m17_20 (l : Launch) (Z : State) (a0 : Array Value) (hw : ∀ d ∈ tables_1, d.before a0 Z = true) (a : Addr) (mc ms mt md be : Addr) (cs : Int32) (fv : Value)  (h : Heap) (n0 : Nat) (hn0 : Old Z n0 h) (hE : own_E Z mc ms mt md be cs fv)  (hS : own_F Z h a mc (1 : Int32) (0 : Int64) (0 : Int32) (0 : Int32) (0 : Int64) (0 : Int32)) (ga : n0 ≤ a) :
    Con l Z (⟨"com/example/plantilla/plantilla/ScriptText", "readPunctuator", "(C)V"⟩ : MethodName) prog_37_method_11_code 2 none ({ frames := 1, cells := 0, slots := 0, locals := 15 } : Room) #[(.ref a), (.int (125 : Int32))] h n0 (fun v h' => v = none ∧ Keep h h' [a] ∧ own_F Z h' a mc (1 : Int32) (0 : Int64) (0 : Int32) (0 : Int32) (0 : Int64) (0 : Int32)) := by
  refine con_of hw (plainFor_of_name pn_com_example_plantilla_plantilla_ScriptText) hn0 ?_
  intro p e s m below meth c T0 C X0
  refine Go.cast (congrArg T0.setTop (ef_own_m17_20 m a)) ?_
  have hE1 := hE
  obtain ⟨SM0, SM1, SM2, SM3, EM0, EM1, EM2, EM3, FM0, FM1, FM2, FM3, SB, AB, hcs, S1, hfv, S2⟩ := hE1
  obtain ⟨E0, FF0, FF1, FF2, FF3, FF4, FF5, FF6⟩ := hS
  refine go_iloadN C X0 1 rfl d17_0 rfl ?_
  refine go_lookHit C X0 d17_1 (by first | decide | (simp; done)) (q := 125) (off := 123) (by first | decide | rfl | (simp; done)) (pc2 := 124) (by decide) (by decide) ?_
  refine go_aloadN C X0 125 rfl d17_124 rfl rfl ?_
  refine go_private C X0 E0 (C.w 132 rfl) (C.w 133 rfl) (Jvm.Kit.selects_private (by decide) (C.w 28 rfl) (C.w 134 rfl) (C.w 133 rfl)) (C.w 134 rfl) (C.w 29 rfl) (C.w 135 rfl) (own_m19_21 l Z a0 C.ws a mc ms mt md be cs fv  h n0 X0.old hE  ⟨E0, FF0, FF1, FF2, FF3, FF4, FF5, FF6⟩ ga) (argsL := []) (rest := []) (lenOf pd_10 rfl) rfl (by decide) (by decide) (Nat.le_of_ble_eq_true rfl) (by decide) (by decide) rfl rfl (pc' := 128) rfl d17_125 ?_
  rintro T1 h3 _ ⟨rfl, Kq4, Eq4, Fq40, Fq41, Fq42, Fq43, Fq44, Fq45, Fq46⟩ X2
  show Go p e below _ (T1.setTop (mkF m 128 #[rv a, iv (125 : Int32)] []))
  have E5 := E0.keep Kq4
  have K6 := (Keep.refl h [a]).trans Kq4 (allS (Or.inl (List.mem_of_getElem? (i := 0) rfl)) all0)
  refine go_goto C X2 d17_128 (pc' := 144) (by decide) (by decide) ?_
  exact go_ret0 C X2 d17_144 ⟨rfl, K6, Eq4, Fq40, Fq41, Fq42, Fq43, Fq44, Fq45, Fq46⟩ (by decide) (by decide)
theorem ef_own_cold125 (m : MethodId) (a : Addr)  : entryFrame m #[(.ref a), (.int (125 : Int32))] 3 = mkF m 0 #[rv a, iv (125 : Int32), un] [] := by
  first | (simp [entryFrame, mkF, argsToLocals, Value.category]; done) | rfl
set_option maxRecDepth 65536 in
set_option maxHeartbeats 40000000 in
theorem own_cold125 (l : Launch) (Z : State) (a0 : Array Value) (hw : ∀ d ∈ tables_1, d.before a0 Z = true) (a : Addr) (mc ms mt md be : Addr) (cs : Int32) (fv : Value)  (h : Heap) (n0 : Nat) (hn0 : Old Z n0 h) (hEL : EW Z a0 consts_1) (hE : own_E Z mc ms mt md be cs fv)  (hS : own_F Z h a mc (1 : Int32) (0 : Int64) (0 : Int32) (0 : Int32) (0 : Int64) (0 : Int32)) (ga : n0 ≤ a) :
    ConX l Z consts_1 (fun _ => True) (⟨"com/example/plantilla/plantilla/ScriptText", "readCode", "(C)V"⟩ : MethodName) prog_37_method_10_code 3 none ({ frames := 3, cells := 2, slots := 20, locals := 60 } : Room) #[(.ref a), (.int (125 : Int32))] h n0 (fun v h' vm' => v = none ∧ Keep h h' [a] ∧ own_F Z h' a mc (1 : Int32) (0 : Int64) (0 : Int32) (0 : Int32) (0 : Int64) (0 : Int32) ∧ ∃ la lb : Addr, LdV Z "com/example/plantilla/plantilla/ScriptText" 120 la vm' ∧ Sg Z h' la lb own_LT ∧ la ≠ a ∧ lb ≠ a) := by
  refine conX_of hw (plainFor_of_name pn_com_example_plantilla_plantilla_ScriptText) hn0 ?_
  intro p e sv0 s m below meth c T0 C _ WI0 X0
  refine Go.cast (congrArg T0.setTop (ef_own_cold125 m a)) ?_
  have hE1 := hE
  obtain ⟨SM0, SM1, SM2, SM3, EM0, EM1, EM2, EM3, FM0, FM1, FM2, FM3, SB, AB, hcs, S1, hfv, S2⟩ := hE1
  obtain ⟨E0, FF0, FF1, FF2, FF3, FF4, FF5, FF6⟩ := hS
  refine go_aloadN C X0 1 rfl d14_0 rfl rfl ?_
  refine go_getF C X0 (C.w 56 rfl) Via.refl FF6 (pc' := 4) rfl d14_1 (fun T1 X2 => ?_)
  refine go_if_le C X2 d14_4 (pc' := 7) (pc2 := 33) rfl (by decide) (by decide) (fun (c4 : 0 ≤ 0) => ?_) (fun (c4 : 0 < 0) => False.elim (by first | omega | exact absurd c4 (by decide)))
  refine go_aloadN C X2 34 rfl d14_33 rfl rfl ?_
  refine go_iloadN C X2 35 rfl d14_34 rfl ?_
  refine go_bipush C X2 37 rfl d14_35 (z := 60) rfl ?_
  refine go_icmp_ne C X2 d14_37 (pc' := 40) (pc2 := 44) rfl (by decide) (by decide) (fun (c37 : ¬ (125 : Int32) = (60 : Int32)) => ?_) (fun (c37 : (125 : Int32) = (60 : Int32)) => False.elim (by first | omega | exact absurd c37 (by decide)))
  refine go_iconst C X2 45 rfl d14_44 (z := 0) rfl ?_
  refine go_putF C X2 (C.w 56 rfl) Via.refl FF6 E0 (Or.inl (C.w 57 rfl)) (C.w 28 rfl) ga (ty := .int) (by decide) rfl rfl (pc' := 48) rfl d14_45 (fun T3 h5 W6 X4 => ?_)
  have F7 := FF6.same W6
  have SQ8 : Safe Z consts_1 s.vm _ a := (safeE C E0 (by decide) (by decide))
  have WI9 := WI0.wr W6 SQ8
  have E10 := E0.wr W6
  have F11 := FF0.other W6 (Or.inr (slot_ne (Or.inl (C.w 45 rfl)) (Or.inl (C.w 57 rfl)) (by decide) (t := (.object "com/example/plantilla/plantilla/ScriptText$Mode")) (t' := .int) (by decide) (by decide)))
  have F12 := FF1.other W6 (Or.inr (slot_ne (Or.inl (C.w 47 rfl)) (Or.inl (C.w 57 rfl)) (by decide) (t := .boolean) (t' := .int) (by decide) (by decide)))
  have F13 := FF2.other W6 (Or.inr (slot_ne (Or.inl (C.w 49 rfl)) (Or.inl (C.w 57 rfl)) (by decide) (t := .long) (t' := .int) (by decide) (by decide)))
  have F14 := FF3.other W6 (Or.inr (slot_ne (Or.inl (C.w 51 rfl)) (Or.inl (C.w 57 rfl)) (by decide) (t := .boolean) (t' := .int) (by decide) (by decide)))
  have F15 := FF4.other W6 (Or.inr (slot_ne (Or.inl (C.w 53 rfl)) (Or.inl (C.w 57 rfl)) (by decide) (t := .int) (t' := .int) (by decide) (by decide)))
  have F16 := FF5.other W6 (Or.inr (slot_ne (Or.inl (C.w 55 rfl)) (Or.inl (C.w 57 rfl)) (by decide) (t := .long) (t' := .int) (by decide) (by decide)))
  have K17 := (Keep.refl h [a]).wr W6 (Or.inl (List.mem_of_getElem? (i := 0) rfl))
  refine go_iloadN C X4 49 rfl d14_48 rfl ?_
  refine go_callS C X4 (C.w 116 rfl) (C.w 117 rfl) (C.w 29 rfl) (C.w 118 rfl) (own_p15_18 l Z a0 C.ws  h5 n0 X4.old ) (argsL := [(.int (125 : Int32))]) (rest := []) (lenOf pd_6 rfl) rfl (by decide) (by decide) (Nat.le_of_ble_eq_true rfl) (by decide) (by decide) rfl rfl (pc' := 52) rfl d14_49 ?_
  rintro T18 _ _ ⟨rfl, rfl⟩ X19
  show Go p e below _ (T18.setTop (mkF m 52 #[rv a, iv (125 : Int32), un] [(.int (0 : Int32))]))
  refine go_if_eq C X19 d14_52 (pc' := 55) (pc2 := 105) rfl (by decide) (by decide) (fun (c52 : (0 : Int32) = (0 : Int32)) => ?_) (fun (c52 : ¬ (0 : Int32) = (0 : Int32)) => False.elim (by first | omega | exact absurd c52 (by decide)))
  refine go_aloadN C X19 106 rfl d14_105 rfl rfl ?_
  refine go_getF C X19 (C.w 48 rfl) Via.refl F13 (pc' := 109) rfl d14_106 (fun T21 X22 => ?_)
  refine go_lconst C X22 110 rfl d14_109 (z := 0) rfl ?_
  refine go_lif_eq C X22 (pc1 := 111) rfl d14_110 d14_111 (pc' := 114) (pc2 := 128) rfl (by decide) (by decide) (fun (c111 : (0 : Int64) = (0 : Int64)) => ?_) (fun (c111 : ¬ (0 : Int64) = (0 : Int64)) => False.elim (by first | omega | exact absurd c111 (by decide)))
  refine go_aloadN C X22 129 rfl d14_128 rfl rfl ?_
  refine go_lconst C X22 130 rfl d14_129 (z := 0) rfl ?_
  refine go_putF C X22 (C.w 48 rfl) Via.refl F13 E10 (Or.inl (C.w 49 rfl)) (C.w 28 rfl) ga (ty := .long) (by decide) rfl rfl (pc' := 133) rfl d14_130 (fun T23 h25 W26 X24 => ?_)
  have F27 := F13.same W26
  have SQ28 : Safe Z consts_1 s.vm _ a := (safeE C E10 (by decide) (by decide))
  have WI29 := WI9.wr W26 SQ28
  have E30 := E10.wr W26
  have F31 := F11.other W26 (Or.inr (slot_ne (Or.inl (C.w 45 rfl)) (Or.inl (C.w 49 rfl)) (by decide) (t := (.object "com/example/plantilla/plantilla/ScriptText$Mode")) (t' := .long) (by decide) (by decide)))
  have F32 := F12.other W26 (Or.inr (slot_ne (Or.inl (C.w 47 rfl)) (Or.inl (C.w 49 rfl)) (by decide) (t := .boolean) (t' := .long) (by decide) (by decide)))
  have F33 := F14.other W26 (Or.inr (slot_ne (Or.inl (C.w 51 rfl)) (Or.inl (C.w 49 rfl)) (by decide) (t := .boolean) (t' := .long) (by decide) (by decide)))
  have F34 := F15.other W26 (Or.inr (slot_ne (Or.inl (C.w 53 rfl)) (Or.inl (C.w 49 rfl)) (by decide) (t := .int) (t' := .long) (by decide) (by decide)))
  have F35 := F16.other W26 (Or.inr (slot_ne (Or.inl (C.w 55 rfl)) (Or.inl (C.w 49 rfl)) (by decide) (t := .long) (t' := .long) (by decide) (by decide)))
  have F36 := F7.other W26 (Or.inr (slot_ne (Or.inl (C.w 57 rfl)) (Or.inl (C.w 49 rfl)) (by decide) (t := .int) (t' := .long) (by decide) (by decide)))
  have K37 := K17.wr W26 (Or.inl (List.mem_of_getElem? (i := 0) rfl))
  refine go_iloadN C X24 134 rfl d14_133 rfl ?_
  refine go_callS C X24 (C.w 119 rfl) (C.w 120 rfl) (C.w 29 rfl) (C.w 121 rfl) (own_p16_19 l Z a0 C.ws  h25 n0 X24.old ) (argsL := [(.int (125 : Int32))]) (rest := []) (lenOf pd_6 rfl) rfl (by decide) (by decide) (Nat.le_of_ble_eq_true rfl) (by decide) (by decide) rfl rfl (pc' := 137) rfl d14_134 ?_
  rintro T38 _ _ ⟨rfl, rfl⟩ X39
  show Go p e below _ (T38.setTop (mkF m 137 #[rv a, iv (125 : Int32), un] [(.int (0 : Int32))]))
  refine go_if_ne C X39 d14_137 (pc' := 140) (pc2 := 145) rfl (by decide) (by decide) (fun (c137 : ¬ (0 : Int32) = (0 : Int32)) => False.elim (by first | omega | exact absurd c137 (by decide))) (fun (c137 : (0 : Int32) = (0 : Int32)) => ?_)
  refine go_aloadN C X39 141 rfl d14_140 rfl rfl ?_
  refine go_iloadN C X39 142 rfl d14_141 rfl ?_
  refine go_private C X39 E30 (C.w 122 rfl) (C.w 123 rfl) (Jvm.Kit.selects_private (by decide) (C.w 28 rfl) (C.w 124 rfl) (C.w 123 rfl)) (C.w 124 rfl) (C.w 29 rfl) (C.w 125 rfl) (own_m17_20 l Z a0 C.ws a mc ms mt md be cs fv  h25 n0 X39.old hE  ⟨E30, F31, F32, F27, F33, F34, F35, F36⟩ ga) (argsL := [(.int (125 : Int32))]) (rest := []) (lenOf pd_7 rfl) rfl (by decide) (by decide) (Nat.le_of_ble_eq_true rfl) (by decide) (by decide) rfl rfl (pc' := 145) rfl d14_142 ?_
  rintro T41 h43 _ ⟨rfl, Kq44, Eq44, Fq440, Fq441, Fq442, Fq443, Fq444, Fq445, Fq446⟩ X42
  show Go p e below _ (T41.setTop (mkF m 145 #[rv a, iv (125 : Int32), un] []))
  have WI45 := WI29.keep Kq44 (sfS (safeE C E30 (by decide) (by decide)) sf0)
  have E46 := E30.keep Kq44
  have K47 := K37.trans Kq44 (allS (Or.inl (List.mem_of_getElem? (i := 0) rfl)) all0)
  refine go_aloadN C X42 146 rfl d14_145 rfl rfl ?_
  refine go_getF C X42 (C.w 56 rfl) Via.refl Fq446 (pc' := 149) rfl d14_146 (fun T48 X49 => ?_)
  refine go_ldcHX C X49 WI45 hEL (C.w 126 rfl) (own_wS C.ws) (List.mem_of_getElem? (i := 0) rfl) (vs := [.int 60, .int 33, .int 45, .int 45]) (z := 4) own_lit120 (by decide) (by decide) (q := 16) own_len120 (by decide) (by decide) (by decide) (pc' := 151) rfl d14_149 ?_
  intro s T50 h52 la lb C WI54 E53 EL0 GL1 GL2 AL SF hLd X51
  have E55 := Eq44.ext E53
  have F56 := Fq440.ext E53
  have F57 := Fq441.ext E53
  have F58 := Fq442.ext E53
  have F59 := Fq443.ext E53
  have F60 := Fq444.ext E53
  have F61 := Fq445.ext E53
  have F62 := Fq446.ext E53
  have K63 := K47.ext E53
  have nab := SF a (safeE C E55 (by decide) (by decide))
  replace AL : La Z h52 lb .byte (ia [60, 33, 45, 45]) := AL
  refine go_virtual C X51 EL0 (C.w 63 rfl) (C.w 64 rfl) (notFace_of_selects (args := #[]) (mvT C.hZ (C.w 66 rfl))) (C.w 66 rfl) (C.w 65 rfl) (C.w 3 rfl) (C.w 67 rfl) (own_len l Z a0 C.ws la lb [60, 33, 45, 45] (4 : Int32) cs fv h52 n0 X51.old EL0 GL1 GL2 AL rfl hcs S1 hfv S2) (argsL := []) (rest := [(.int (0 : Int32))]) (lenOf pd_8 rfl) rfl (by decide) (by decide) (Nat.le_of_ble_eq_true rfl) (by decide) (by decide) rfl rfl (pc' := 154) rfl d14_151 ?_
  rintro T64 _ _ ⟨rfl, rfl⟩ X65
  show Go p e below _ (T64.setTop (mkF m 154 #[rv a, iv (125 : Int32), un] [(.int (4 : Int32)), (.int (0 : Int32))]))
  refine go_icmp_ne C X65 d14_154 (pc' := 157) (pc2 := 169) rfl (by decide) (by decide) (fun (c154 : ¬ (0 : Int32) = (4 : Int32)) => ?_) (fun (c154 : (0 : Int32) = (4 : Int32)) => False.elim (by first | omega | exact absurd c154 (by decide)))
  exact go_ret0X C X65 WI54 hEL d14_169 (fun vm' W9 => ⟨rfl, K63, ⟨E55, F56, F57, F58, F59, F60, F61, F62⟩, la, lb, hLd.warm W9, ⟨EL0, GL1, GL2, AL⟩, Ne.symm nab.1, Ne.symm nab.2⟩) (by decide) (by decide)
theorem own_cold125_r (l : Launch) (Z : State) (a0 : Array Value) (hw : ∀ d ∈ tables_1, d.before a0 Z = true) (mc ms mt md be : Addr) (cs : Int32) (fv : Value)  (hEL : EW Z a0 consts_1) (hE : own_E Z mc ms mt md be cs fv) : own_RCX l Z (mc, 1, 0, 0, 0, 0, 0) (125 : Int32) (mc, 1, 0, 0, 0, 0, 0) := fun h n0 a ho ga hS => own_cold125 l Z a0 hw a  mc ms mt md be cs fv  h n0 ho hEL hE  hS ga
theorem ef_own_p15_22 (m : MethodId)   : entryFrame m #[(.int (32 : Int32))] 2 = mkF m 0 #[iv (32 : Int32), un] [] := by
  first | (simp [entryFrame, mkF, argsToLocals, Value.category]; done) | rfl
set_option maxRecDepth 65536 in
set_option maxHeartbeats 40000000 in
theorem own_p15_22 (l : Launch) (Z : State) (a0 : Array Value) (hw : ∀ d ∈ tables_1, d.before a0 Z = true)   (h : Heap) (n0 : Nat) (hn0 : Old Z n0 h)  :
    Con l Z (⟨"com/example/plantilla/plantilla/ScriptText", "isWordCharacter", "(C)Z"⟩ : MethodName) prog_37_method_21_code 2 (some .boolean) ({ frames := 0, cells := 0, slots := 0, locals := 0 } : Room) #[(.int (32 : Int32))] h n0 (fun v h' => v = some (.int (0 : Int32)) ∧ h = h') := by
  refine con_of hw (plainFor_of_name pn_com_example_plantilla_plantilla_ScriptText) hn0 ?_
  intro p e s m below meth c T0 C X0
  refine Go.cast (congrArg T0.setTop (ef_own_p15_22 m )) ?_
  refine go_iloadN C X0 1 rfl d15_0 rfl ?_
  refine go_bipush C X0 3 rfl d15_1 (z := 97) rfl ?_
  refine go_icmp_lt C X0 d15_3 (pc' := 6) (pc2 := 12) rfl (by decide) (by decide) (fun (c3 : 32 < 97) => ?_) (fun (c3 : 97 ≤ 32) => False.elim (by first | omega | exact absurd c3 (by decide)))
  refine go_iloadN C X0 13 rfl d15_12 rfl ?_
  refine go_bipush C X0 15 rfl d15_13 (z := 65) rfl ?_
  refine go_icmp_lt C X0 d15_15 (pc' := 18) (pc2 := 24) rfl (by decide) (by decide) (fun (c15 : 32 < 65) => ?_) (fun (c15 : 65 ≤ 32) => False.elim (by first | omega | exact absurd c15 (by decide)))
  refine go_iloadN C X0 25 rfl d15_24 rfl ?_
  refine go_bipush C X0 27 rfl d15_25 (z := 48) rfl ?_
  refine go_icmp_lt C X0 d15_27 (pc' := 30) (pc2 := 36) rfl (by decide) (by decide) (fun (c27 : 32 < 48) => ?_) (fun (c27 : 48 ≤ 32) => False.elim (by first | omega | exact absurd c27 (by decide)))
  refine go_iloadN C X0 37 rfl d15_36 rfl ?_
  refine go_bipush C X0 39 rfl d15_37 (z := 95) rfl ?_
  refine go_icmp_eq C X0 d15_39 (pc' := 42) (pc2 := 48) rfl (by decide) (by decide) (fun (c39 : (32 : Int32) = (95 : Int32)) => False.elim (by first | omega | exact absurd c39 (by decide))) (fun (c39 : ¬ (32 : Int32) = (95 : Int32)) => ?_)
  refine go_iloadN C X0 43 rfl d15_42 rfl ?_
  refine go_bipush C X0 45 rfl d15_43 (z := 36) rfl ?_
  refine go_icmp_ne C X0 d15_45 (pc' := 48) (pc2 := 52) rfl (by decide) (by decide) (fun (c45 : ¬ (32 : Int32) = (36 : Int32)) => ?_) (fun (c45 : (32 : Int32) = (36 : Int32)) => False.elim (by first | omega | exact absurd c45 (by decide)))
  refine go_iconst C X0 53 rfl d15_52 (z := 0) rfl ?_
  refine go_istoreN C X0 54 rfl d15_53 #[iv (32 : Int32), iv (0 : Int32)] rfl ?_
  refine go_iloadN C X0 55 rfl d15_54 rfl ?_
  refine go_if_ne C X0 d15_55 (pc' := 58) (pc2 := 72) rfl (by decide) (by decide) (fun (c55 : ¬ (0 : Int32) = (0 : Int32)) => False.elim (by first | omega | exact absurd c55 (by decide))) (fun (c55 : (0 : Int32) = (0 : Int32)) => ?_)
  refine go_iloadN C X0 59 rfl d15_58 rfl ?_
  refine go_sipush C X0 62 rfl d15_59 (z := 128) rfl ?_
  refine go_icmp_lt C X0 d15_62 (pc' := 65) (pc2 := 76) rfl (by decide) (by decide) (fun (c62 : 32 < 128) => ?_) (fun (c62 : 128 ≤ 32) => False.elim (by first | omega | exact absurd c62 (by decide)))
  refine go_iconst C X0 77 rfl d15_76 (z := 0) rfl ?_
  exact go_retN C X0 (by simp) (z' := 0) rfl d15_77 ⟨rfl, rfl⟩ (by decide) (by decide)
theorem d16_36 : decode prog_37_method_22_code 36 = .ok (.iconst 1, 1) := by decide +kernel
theorem d16_37 : decode prog_37_method_22_code 37 = .ok (.goto 4, 3) := by decide +kernel
theorem d16_66 : decode prog_37_method_22_code 66 = .ok (.iconst 1, 1) := by decide +kernel
theorem d16_67 : decode prog_37_method_22_code 67 = .ok (.goto 4, 3) := by decide +kernel
theorem ef_own_p16_23 (m : MethodId)   : entryFrame m #[(.int (32 : Int32))] 2 = mkF m 0 #[iv (32 : Int32), un] [] := by
  first | (simp [entryFrame, mkF, argsToLocals, Value.category]; done) | rfl
set_option maxRecDepth 65536 in
set_option maxHeartbeats 40000000 in
theorem own_p16_23 (l : Launch) (Z : State) (a0 : Array Value) (hw : ∀ d ∈ tables_1, d.before a0 Z = true)   (h : Heap) (n0 : Nat) (hn0 : Old Z n0 h)  :
    Con l Z (⟨"com/example/plantilla/plantilla/ScriptText", "isSpace", "(C)Z"⟩ : MethodName) prog_37_method_22_code 2 (some .boolean) ({ frames := 0, cells := 0, slots := 0, locals := 0 } : Room) #[(.int (32 : Int32))] h n0 (fun v h' => v = some (.int (1 : Int32)) ∧ h = h') := by
  refine con_of hw (plainFor_of_name pn_com_example_plantilla_plantilla_ScriptText) hn0 ?_
  intro p e s m below meth c T0 C X0
  refine Go.cast (congrArg T0.setTop (ef_own_p16_23 m )) ?_
  refine go_iloadN C X0 1 rfl d16_0 rfl ?_
  refine go_bipush C X0 3 rfl d16_1 (z := 32) rfl ?_
  refine go_icmp_eq C X0 d16_3 (pc' := 6) (pc2 := 36) rfl (by decide) (by decide) (fun (c3 : (32 : Int32) = (32 : Int32)) => ?_) (fun (c3 : ¬ (32 : Int32) = (32 : Int32)) => False.elim (by first | omega | exact absurd c3 (by decide)))
  refine go_iconst C X0 37 rfl d16_36 (z := 1) rfl ?_
  refine go_goto C X0 d16_37 (pc' := 41) (by decide) (by decide) ?_
  refine go_istoreN C X0 42 rfl d16_41 #[iv (32 : Int32), iv (1 : Int32)] rfl ?_
  refine go_iloadN C X0 43 rfl d16_42 rfl ?_
  refine go_if_ne C X0 d16_43 (pc' := 46) (pc2 := 66) rfl (by decide) (by decide) (fun (c43 : ¬ (1 : Int32) = (0 : Int32)) => ?_) (fun (c43 : (1 : Int32) = (0 : Int32)) => False.elim (by first | omega | exact absurd c43 (by decide)))
  refine go_iconst C X0 67 rfl d16_66 (z := 1) rfl ?_
  refine go_goto C X0 d16_67 (pc' := 71) (by decide) (by decide) ?_
  exact go_retN C X0 (by simp) (z' := 1) rfl d16_71 ⟨rfl, rfl⟩ (by decide) (by decide)
theorem ef_own_cold32 (m : MethodId) (a : Addr)  : entryFrame m #[(.ref a), (.int (32 : Int32))] 3 = mkF m 0 #[rv a, iv (32 : Int32), un] [] := by
  first | (simp [entryFrame, mkF, argsToLocals, Value.category]; done) | rfl
set_option maxRecDepth 65536 in
set_option maxHeartbeats 40000000 in
theorem own_cold32 (l : Launch) (Z : State) (a0 : Array Value) (hw : ∀ d ∈ tables_1, d.before a0 Z = true) (a : Addr) (mc ms mt md be : Addr) (cs : Int32) (fv : Value)  (h : Heap) (n0 : Nat) (hn0 : Old Z n0 h) (hEL : EW Z a0 consts_1) (hE : own_E Z mc ms mt md be cs fv)  (hS : own_F Z h a mc (1 : Int32) (0 : Int64) (0 : Int32) (0 : Int32) (0 : Int64) (0 : Int32)) (ga : n0 ≤ a) :
    ConX l Z consts_1 (fun _ => True) (⟨"com/example/plantilla/plantilla/ScriptText", "readCode", "(C)V"⟩ : MethodName) prog_37_method_10_code 3 none ({ frames := 3, cells := 2, slots := 20, locals := 60 } : Room) #[(.ref a), (.int (32 : Int32))] h n0 (fun v h' vm' => v = none ∧ Keep h h' [a] ∧ own_F Z h' a mc (1 : Int32) (0 : Int64) (0 : Int32) (0 : Int32) (0 : Int64) (0 : Int32) ∧ ∃ la lb : Addr, LdV Z "com/example/plantilla/plantilla/ScriptText" 120 la vm' ∧ Sg Z h' la lb own_LT ∧ la ≠ a ∧ lb ≠ a) := by
  refine conX_of hw (plainFor_of_name pn_com_example_plantilla_plantilla_ScriptText) hn0 ?_
  intro p e sv0 s m below meth c T0 C _ WI0 X0
  refine Go.cast (congrArg T0.setTop (ef_own_cold32 m a)) ?_
  have hE1 := hE
  obtain ⟨SM0, SM1, SM2, SM3, EM0, EM1, EM2, EM3, FM0, FM1, FM2, FM3, SB, AB, hcs, S1, hfv, S2⟩ := hE1
  obtain ⟨E0, FF0, FF1, FF2, FF3, FF4, FF5, FF6⟩ := hS
  refine go_aloadN C X0 1 rfl d14_0 rfl rfl ?_
  refine go_getF C X0 (C.w 56 rfl) Via.refl FF6 (pc' := 4) rfl d14_1 (fun T1 X2 => ?_)
  refine go_if_le C X2 d14_4 (pc' := 7) (pc2 := 33) rfl (by decide) (by decide) (fun (c4 : 0 ≤ 0) => ?_) (fun (c4 : 0 < 0) => False.elim (by first | omega | exact absurd c4 (by decide)))
  refine go_aloadN C X2 34 rfl d14_33 rfl rfl ?_
  refine go_iloadN C X2 35 rfl d14_34 rfl ?_
  refine go_bipush C X2 37 rfl d14_35 (z := 60) rfl ?_
  refine go_icmp_ne C X2 d14_37 (pc' := 40) (pc2 := 44) rfl (by decide) (by decide) (fun (c37 : ¬ (32 : Int32) = (60 : Int32)) => ?_) (fun (c37 : (32 : Int32) = (60 : Int32)) => False.elim (by first | omega | exact absurd c37 (by decide)))
  refine go_iconst C X2 45 rfl d14_44 (z := 0) rfl ?_
  refine go_putF C X2 (C.w 56 rfl) Via.refl FF6 E0 (Or.inl (C.w 57 rfl)) (C.w 28 rfl) ga (ty := .int) (by decide) rfl rfl (pc' := 48) rfl d14_45 (fun T3 h5 W6 X4 => ?_)
  have F7 := FF6.same W6
  have SQ8 : Safe Z consts_1 s.vm _ a := (safeE C E0 (by decide) (by decide))
  have WI9 := WI0.wr W6 SQ8
  have E10 := E0.wr W6
  have F11 := FF0.other W6 (Or.inr (slot_ne (Or.inl (C.w 45 rfl)) (Or.inl (C.w 57 rfl)) (by decide) (t := (.object "com/example/plantilla/plantilla/ScriptText$Mode")) (t' := .int) (by decide) (by decide)))
  have F12 := FF1.other W6 (Or.inr (slot_ne (Or.inl (C.w 47 rfl)) (Or.inl (C.w 57 rfl)) (by decide) (t := .boolean) (t' := .int) (by decide) (by decide)))
  have F13 := FF2.other W6 (Or.inr (slot_ne (Or.inl (C.w 49 rfl)) (Or.inl (C.w 57 rfl)) (by decide) (t := .long) (t' := .int) (by decide) (by decide)))
  have F14 := FF3.other W6 (Or.inr (slot_ne (Or.inl (C.w 51 rfl)) (Or.inl (C.w 57 rfl)) (by decide) (t := .boolean) (t' := .int) (by decide) (by decide)))
  have F15 := FF4.other W6 (Or.inr (slot_ne (Or.inl (C.w 53 rfl)) (Or.inl (C.w 57 rfl)) (by decide) (t := .int) (t' := .int) (by decide) (by decide)))
  have F16 := FF5.other W6 (Or.inr (slot_ne (Or.inl (C.w 55 rfl)) (Or.inl (C.w 57 rfl)) (by decide) (t := .long) (t' := .int) (by decide) (by decide)))
  have K17 := (Keep.refl h [a]).wr W6 (Or.inl (List.mem_of_getElem? (i := 0) rfl))
  refine go_iloadN C X4 49 rfl d14_48 rfl ?_
  refine go_callS C X4 (C.w 116 rfl) (C.w 117 rfl) (C.w 29 rfl) (C.w 118 rfl) (own_p15_22 l Z a0 C.ws  h5 n0 X4.old ) (argsL := [(.int (32 : Int32))]) (rest := []) (lenOf pd_6 rfl) rfl (by decide) (by decide) (Nat.le_of_ble_eq_true rfl) (by decide) (by decide) rfl rfl (pc' := 52) rfl d14_49 ?_
  rintro T18 _ _ ⟨rfl, rfl⟩ X19
  show Go p e below _ (T18.setTop (mkF m 52 #[rv a, iv (32 : Int32), un] [(.int (0 : Int32))]))
  refine go_if_eq C X19 d14_52 (pc' := 55) (pc2 := 105) rfl (by decide) (by decide) (fun (c52 : (0 : Int32) = (0 : Int32)) => ?_) (fun (c52 : ¬ (0 : Int32) = (0 : Int32)) => False.elim (by first | omega | exact absurd c52 (by decide)))
  refine go_aloadN C X19 106 rfl d14_105 rfl rfl ?_
  refine go_getF C X19 (C.w 48 rfl) Via.refl F13 (pc' := 109) rfl d14_106 (fun T21 X22 => ?_)
  refine go_lconst C X22 110 rfl d14_109 (z := 0) rfl ?_
  refine go_lif_eq C X22 (pc1 := 111) rfl d14_110 d14_111 (pc' := 114) (pc2 := 128) rfl (by decide) (by decide) (fun (c111 : (0 : Int64) = (0 : Int64)) => ?_) (fun (c111 : ¬ (0 : Int64) = (0 : Int64)) => False.elim (by first | omega | exact absurd c111 (by decide)))
  refine go_aloadN C X22 129 rfl d14_128 rfl rfl ?_
  refine go_lconst C X22 130 rfl d14_129 (z := 0) rfl ?_
  refine go_putF C X22 (C.w 48 rfl) Via.refl F13 E10 (Or.inl (C.w 49 rfl)) (C.w 28 rfl) ga (ty := .long) (by decide) rfl rfl (pc' := 133) rfl d14_130 (fun T23 h25 W26 X24 => ?_)
  have F27 := F13.same W26
  have SQ28 : Safe Z consts_1 s.vm _ a := (safeE C E10 (by decide) (by decide))
  have WI29 := WI9.wr W26 SQ28
  have E30 := E10.wr W26
  have F31 := F11.other W26 (Or.inr (slot_ne (Or.inl (C.w 45 rfl)) (Or.inl (C.w 49 rfl)) (by decide) (t := (.object "com/example/plantilla/plantilla/ScriptText$Mode")) (t' := .long) (by decide) (by decide)))
  have F32 := F12.other W26 (Or.inr (slot_ne (Or.inl (C.w 47 rfl)) (Or.inl (C.w 49 rfl)) (by decide) (t := .boolean) (t' := .long) (by decide) (by decide)))
  have F33 := F14.other W26 (Or.inr (slot_ne (Or.inl (C.w 51 rfl)) (Or.inl (C.w 49 rfl)) (by decide) (t := .boolean) (t' := .long) (by decide) (by decide)))
  have F34 := F15.other W26 (Or.inr (slot_ne (Or.inl (C.w 53 rfl)) (Or.inl (C.w 49 rfl)) (by decide) (t := .int) (t' := .long) (by decide) (by decide)))
  have F35 := F16.other W26 (Or.inr (slot_ne (Or.inl (C.w 55 rfl)) (Or.inl (C.w 49 rfl)) (by decide) (t := .long) (t' := .long) (by decide) (by decide)))
  have F36 := F7.other W26 (Or.inr (slot_ne (Or.inl (C.w 57 rfl)) (Or.inl (C.w 49 rfl)) (by decide) (t := .int) (t' := .long) (by decide) (by decide)))
  have K37 := K17.wr W26 (Or.inl (List.mem_of_getElem? (i := 0) rfl))
  refine go_iloadN C X24 134 rfl d14_133 rfl ?_
  refine go_callS C X24 (C.w 119 rfl) (C.w 120 rfl) (C.w 29 rfl) (C.w 121 rfl) (own_p16_23 l Z a0 C.ws  h25 n0 X24.old ) (argsL := [(.int (32 : Int32))]) (rest := []) (lenOf pd_6 rfl) rfl (by decide) (by decide) (Nat.le_of_ble_eq_true rfl) (by decide) (by decide) rfl rfl (pc' := 137) rfl d14_134 ?_
  rintro T38 _ _ ⟨rfl, rfl⟩ X39
  show Go p e below _ (T38.setTop (mkF m 137 #[rv a, iv (32 : Int32), un] [(.int (1 : Int32))]))
  refine go_if_ne C X39 d14_137 (pc' := 140) (pc2 := 145) rfl (by decide) (by decide) (fun (c137 : ¬ (1 : Int32) = (0 : Int32)) => ?_) (fun (c137 : (1 : Int32) = (0 : Int32)) => False.elim (by first | omega | exact absurd c137 (by decide)))
  refine go_aloadN C X39 146 rfl d14_145 rfl rfl ?_
  refine go_getF C X39 (C.w 56 rfl) Via.refl F36 (pc' := 149) rfl d14_146 (fun T41 X42 => ?_)
  refine go_ldcHX C X42 WI29 hEL (C.w 126 rfl) (own_wS C.ws) (List.mem_of_getElem? (i := 0) rfl) (vs := [.int 60, .int 33, .int 45, .int 45]) (z := 4) own_lit120 (by decide) (by decide) (q := 16) own_len120 (by decide) (by decide) (by decide) (pc' := 151) rfl d14_149 ?_
  intro s T43 h45 la lb C WI47 E46 EL0 GL1 GL2 AL SF hLd X44
  have E48 := E30.ext E46
  have F49 := F31.ext E46
  have F50 := F32.ext E46
  have F51 := F27.ext E46
  have F52 := F33.ext E46
  have F53 := F34.ext E46
  have F54 := F35.ext E46
  have F55 := F36.ext E46
  have K56 := K37.ext E46
  have nab := SF a (safeE C E48 (by decide) (by decide))
  replace AL : La Z h45 lb .byte (ia [60, 33, 45, 45]) := AL
  refine go_virtual C X44 EL0 (C.w 63 rfl) (C.w 64 rfl) (notFace_of_selects (args := #[]) (mvT C.hZ (C.w 66 rfl))) (C.w 66 rfl) (C.w 65 rfl) (C.w 3 rfl) (C.w 67 rfl) (own_len l Z a0 C.ws la lb [60, 33, 45, 45] (4 : Int32) cs fv h45 n0 X44.old EL0 GL1 GL2 AL rfl hcs S1 hfv S2) (argsL := []) (rest := [(.int (0 : Int32))]) (lenOf pd_8 rfl) rfl (by decide) (by decide) (Nat.le_of_ble_eq_true rfl) (by decide) (by decide) rfl rfl (pc' := 154) rfl d14_151 ?_
  rintro T57 _ _ ⟨rfl, rfl⟩ X58
  show Go p e below _ (T57.setTop (mkF m 154 #[rv a, iv (32 : Int32), un] [(.int (4 : Int32)), (.int (0 : Int32))]))
  refine go_icmp_ne C X58 d14_154 (pc' := 157) (pc2 := 169) rfl (by decide) (by decide) (fun (c154 : ¬ (0 : Int32) = (4 : Int32)) => ?_) (fun (c154 : (0 : Int32) = (4 : Int32)) => False.elim (by first | omega | exact absurd c154 (by decide)))
  exact go_ret0X C X58 WI47 hEL d14_169 (fun vm' W9 => ⟨rfl, K56, ⟨E48, F49, F50, F51, F52, F53, F54, F55⟩, la, lb, hLd.warm W9, ⟨EL0, GL1, GL2, AL⟩, Ne.symm nab.1, Ne.symm nab.2⟩) (by decide) (by decide)
theorem own_cold32_r (l : Launch) (Z : State) (a0 : Array Value) (hw : ∀ d ∈ tables_1, d.before a0 Z = true) (mc ms mt md be : Addr) (cs : Int32) (fv : Value)  (hEL : EW Z a0 consts_1) (hE : own_E Z mc ms mt md be cs fv) : own_RCX l Z (mc, 1, 0, 0, 0, 0, 0) (32 : Int32) (mc, 1, 0, 0, 0, 0, 0) := fun h n0 a ho ga hS => own_cold32 l Z a0 hw a  mc ms mt md be cs fv  h n0 ho hEL hE  hS ga
theorem d15_48 : decode prog_37_method_21_code 48 = .ok (.iconst 1, 1) := by decide +kernel
theorem d15_49 : decode prog_37_method_21_code 49 = .ok (.goto 4, 3) := by decide +kernel
theorem d15_72 : decode prog_37_method_21_code 72 = .ok (.iconst 1, 1) := by decide +kernel
theorem d15_73 : decode prog_37_method_21_code 73 = .ok (.goto 4, 3) := by decide +kernel
theorem ef_own_p15_24 (m : MethodId) (cc : Int32)  : entryFrame m #[(.int cc)] 2 = mkF m 0 #[iv cc, un] [] := by
  first | (simp [entryFrame, mkF, argsToLocals, Value.category]; done) | rfl
set_option maxRecDepth 65536 in
set_option maxHeartbeats 40000000 in
theorem own_p15_24 (l : Launch) (Z : State) (a0 : Array Value) (hw : ∀ d ∈ tables_1, d.before a0 Z = true) (cc : Int32)  (h : Heap) (n0 : Nat) (hn0 : Old Z n0 h) (hc : 97 ≤ cc.toInt ∧ cc.toInt ≤ 122) :
    Con l Z (⟨"com/example/plantilla/plantilla/ScriptText", "isWordCharacter", "(C)Z"⟩ : MethodName) prog_37_method_21_code 2 (some .boolean) ({ frames := 0, cells := 0, slots := 0, locals := 0 } : Room) #[(.int cc)] h n0 (fun v h' => v = some (.int (1 : Int32)) ∧ h = h') := by
  refine con_of hw (plainFor_of_name pn_com_example_plantilla_plantilla_ScriptText) hn0 ?_
  intro p e s m below meth c T0 C X0
  refine Go.cast (congrArg T0.setTop (ef_own_p15_24 m cc)) ?_
  refine go_iloadN C X0 1 rfl d15_0 rfl ?_
  refine go_bipush C X0 3 rfl d15_1 (z := 97) rfl ?_
  refine go_icmp_lt C X0 d15_3 (pc' := 6) (pc2 := 12) rfl (by decide) (by decide) (fun (c3 : cc.toInt < 97) => False.elim (by omega)) (fun (c3 : 97 ≤ cc.toInt) => ?_)
  refine go_iloadN C X0 7 rfl d15_6 rfl ?_
  refine go_bipush C X0 9 rfl d15_7 (z := 122) rfl ?_
  refine go_icmp_le C X0 d15_9 (pc' := 12) (pc2 := 48) rfl (by decide) (by decide) (fun (c9 : cc.toInt ≤ 122) => ?_) (fun (c9 : 122 < cc.toInt) => False.elim (by omega))
  refine go_iconst C X0 49 rfl d15_48 (z := 1) rfl ?_
  refine go_goto C X0 d15_49 (pc' := 53) (by decide) (by decide) ?_
  refine go_istoreN C X0 54 rfl d15_53 #[iv cc, iv (1 : Int32)] rfl ?_
  refine go_iloadN C X0 55 rfl d15_54 rfl ?_
  refine go_if_ne C X0 d15_55 (pc' := 58) (pc2 := 72) rfl (by decide) (by decide) (fun (c55 : ¬ (1 : Int32) = (0 : Int32)) => ?_) (fun (c55 : (1 : Int32) = (0 : Int32)) => False.elim (by first | omega | exact absurd c55 (by decide)))
  refine go_iconst C X0 73 rfl d15_72 (z := 1) rfl ?_
  refine go_goto C X0 d15_73 (pc' := 77) (by decide) (by decide) ?_
  exact go_retN C X0 (by simp) (z' := 1) rfl d15_77 ⟨rfl, rfl⟩ (by decide) (by decide)
theorem d14_55 : decode prog_37_method_10_code 55 = .ok (.iload_n 1, 1) := by decide +kernel
theorem d14_56 : decode prog_37_method_10_code 56 = .ok (.sipush 128, 3) := by decide +kernel
theorem d14_59 : decode prog_37_method_10_code 59 = .ok (.if_icmp .ge 19, 3) := by decide +kernel
theorem d14_62 : decode prog_37_method_10_code 62 = .ok (.iload_n 1, 1) := by decide +kernel
theorem d14_63 : decode prog_37_method_10_code 63 = .ok (.bipush 65, 2) := by decide +kernel
theorem d14_65 : decode prog_37_method_10_code 65 = .ok (.if_icmp .lt 9, 3) := by decide +kernel
theorem d14_68 : decode prog_37_method_10_code 68 = .ok (.iload_n 1, 1) := by decide +kernel
theorem d14_69 : decode prog_37_method_10_code 69 = .ok (.bipush 90, 2) := by decide +kernel
theorem d14_71 : decode prog_37_method_10_code 71 = .ok (.if_icmp .le 7, 3) := by decide +kernel
theorem d14_74 : decode prog_37_method_10_code 74 = .ok (.iconst 1, 1) := by decide +kernel
theorem d14_75 : decode prog_37_method_10_code 75 = .ok (.goto 4, 3) := by decide +kernel
theorem d14_79 : decode prog_37_method_10_code 79 = .ok (.istore_n 2, 1) := by decide +kernel
theorem d14_80 : decode prog_37_method_10_code 80 = .ok (.aload_n 0, 1) := by decide +kernel
theorem d14_81 : decode prog_37_method_10_code 81 = .ok (.iload_n 2, 1) := by decide +kernel
theorem d14_82 : decode prog_37_method_10_code 82 = .ok (.ifCond .eq 14, 3) := by decide +kernel
theorem d14_85 : decode prog_37_method_10_code 85 = .ok (.aload_n 0, 1) := by decide +kernel
theorem d14_86 : decode prog_37_method_10_code 86 = .ok (.getfield 33, 3) := by decide +kernel
theorem d14_89 : decode prog_37_method_10_code 89 = .ok (.iload_n 1, 1) := by decide +kernel
theorem pd_11 : parseMethodDescriptor "(JC)J" = some ⟨[.long, .char], some .long⟩ := by decide +kernel
theorem d14_90 : decode prog_37_method_10_code 90 = .ok (.invokestatic 125, 3) := by decide +kernel
theorem d14_93 : decode prog_37_method_10_code 93 = .ok (.goto 6, 3) := by decide +kernel
theorem d14_99 : decode prog_37_method_10_code 99 = .ok (.putfield 33, 3) := by decide +kernel
theorem d14_102 : decode prog_37_method_10_code 102 = .ok (.goto 43, 3) := by decide +kernel
theorem ef_own_coldL (m : MethodId) (a : Addr) (cc : Int32)  : entryFrame m #[(.ref a), (.int cc)] 3 = mkF m 0 #[rv a, iv cc, un] [] := by
  first | (simp [entryFrame, mkF, argsToLocals, Value.category]; done) | rfl
set_option maxRecDepth 65536 in
set_option maxHeartbeats 40000000 in
theorem own_coldL (l : Launch) (Z : State) (a0 : Array Value) (hw : ∀ d ∈ tables_1, d.before a0 Z = true) (a : Addr) (cc : Int32) (mc ms mt md be : Addr) (cs : Int32) (fv : Value)  (h : Heap) (n0 : Nat) (hn0 : Old Z n0 h) (hEL : EW Z a0 consts_1) (hE : own_E Z mc ms mt md be cs fv) (hc : 97 ≤ cc.toInt ∧ cc.toInt ≤ 122) (hS : own_F Z h a mc (1 : Int32) (0 : Int64) (0 : Int32) (0 : Int32) (0 : Int64) (0 : Int32)) (ga : n0 ≤ a) :
    ConX l Z consts_1 (fun _ => True) (⟨"com/example/plantilla/plantilla/ScriptText", "readCode", "(C)V"⟩ : MethodName) prog_37_method_10_code 3 none ({ frames := 3, cells := 2, slots := 20, locals := 60 } : Room) #[(.ref a), (.int cc)] h n0 (fun v h' vm' => v = none ∧ Keep h h' [a] ∧ own_F Z h' a mc (1 : Int32) (own_ap (0 : Int64) cc) (0 : Int32) (0 : Int32) (0 : Int64) (0 : Int32) ∧ ∃ la lb : Addr, LdV Z "com/example/plantilla/plantilla/ScriptText" 120 la vm' ∧ Sg Z h' la lb own_LT ∧ la ≠ a ∧ lb ≠ a) := by
  refine conX_of hw (plainFor_of_name pn_com_example_plantilla_plantilla_ScriptText) hn0 ?_
  intro p e sv0 s m below meth c T0 C _ WI0 X0
  refine Go.cast (congrArg T0.setTop (ef_own_coldL m a cc)) ?_
  have hE1 := hE
  obtain ⟨SM0, SM1, SM2, SM3, EM0, EM1, EM2, EM3, FM0, FM1, FM2, FM3, SB, AB, hcs, S1, hfv, S2⟩ := hE1
  obtain ⟨E0, FF0, FF1, FF2, FF3, FF4, FF5, FF6⟩ := hS
  refine go_aloadN C X0 1 rfl d14_0 rfl rfl ?_
  refine go_getF C X0 (C.w 56 rfl) Via.refl FF6 (pc' := 4) rfl d14_1 (fun T1 X2 => ?_)
  refine go_if_le C X2 d14_4 (pc' := 7) (pc2 := 33) rfl (by decide) (by decide) (fun (c4 : 0 ≤ 0) => ?_) (fun (c4 : 0 < 0) => False.elim (by first | omega | exact absurd c4 (by decide)))
  refine go_aloadN C X2 34 rfl d14_33 rfl rfl ?_
  refine go_iloadN C X2 35 rfl d14_34 rfl ?_
  refine go_bipush C X2 37 rfl d14_35 (z := 60) rfl ?_
  refine go_icmp_ne C X2 d14_37 (pc' := 40) (pc2 := 44) rfl (by decide) (by decide) (fun (c37 : ¬ cc = (60 : Int32)) => ?_) (fun (c37 : cc = (60 : Int32)) => False.elim (own_60 hc c37))
  refine go_iconst C X2 45 rfl d14_44 (z := 0) rfl ?_
  refine go_putF C X2 (C.w 56 rfl) Via.refl FF6 E0 (Or.inl (C.w 57 rfl)) (C.w 28 rfl) ga (ty := .int) (by decide) rfl rfl (pc' := 48) rfl d14_45 (fun T3 h5 W6 X4 => ?_)
  have F7 := FF6.same W6
  have SQ8 : Safe Z consts_1 s.vm _ a := (safeE C E0 (by decide) (by decide))
  have WI9 := WI0.wr W6 SQ8
  have E10 := E0.wr W6
  have F11 := FF0.other W6 (Or.inr (slot_ne (Or.inl (C.w 45 rfl)) (Or.inl (C.w 57 rfl)) (by decide) (t := (.object "com/example/plantilla/plantilla/ScriptText$Mode")) (t' := .int) (by decide) (by decide)))
  have F12 := FF1.other W6 (Or.inr (slot_ne (Or.inl (C.w 47 rfl)) (Or.inl (C.w 57 rfl)) (by decide) (t := .boolean) (t' := .int) (by decide) (by decide)))
  have F13 := FF2.other W6 (Or.inr (slot_ne (Or.inl (C.w 49 rfl)) (Or.inl (C.w 57 rfl)) (by decide) (t := .long) (t' := .int) (by decide) (by decide)))
  have F14 := FF3.other W6 (Or.inr (slot_ne (Or.inl (C.w 51 rfl)) (Or.inl (C.w 57 rfl)) (by decide) (t := .boolean) (t' := .int) (by decide) (by decide)))
  have F15 := FF4.other W6 (Or.inr (slot_ne (Or.inl (C.w 53 rfl)) (Or.inl (C.w 57 rfl)) (by decide) (t := .int) (t' := .int) (by decide) (by decide)))
  have F16 := FF5.other W6 (Or.inr (slot_ne (Or.inl (C.w 55 rfl)) (Or.inl (C.w 57 rfl)) (by decide) (t := .long) (t' := .int) (by decide) (by decide)))
  have K17 := (Keep.refl h [a]).wr W6 (Or.inl (List.mem_of_getElem? (i := 0) rfl))
  refine go_iloadN C X4 49 rfl d14_48 rfl ?_
  refine go_callS C X4 (C.w 116 rfl) (C.w 117 rfl) (C.w 29 rfl) (C.w 118 rfl) (own_p15_24 l Z a0 C.ws cc h5 n0 X4.old hc) (argsL := [(.int cc)]) (rest := []) (lenOf pd_6 rfl) rfl (by decide) (by decide) (Nat.le_of_ble_eq_true rfl) (by decide) (by decide) rfl rfl (pc' := 52) rfl d14_49 ?_
  rintro T18 _ _ ⟨rfl, rfl⟩ X19
  show Go p e below _ (T18.setTop (mkF m 52 #[rv a, iv cc, un] [(.int (1 : Int32))]))
  refine go_if_eq C X19 d14_52 (pc' := 55) (pc2 := 105) rfl (by decide) (by decide) (fun (c52 : (1 : Int32) = (0 : Int32)) => False.elim (by first | omega | exact absurd c52 (by decide))) (fun (c52 : ¬ (1 : Int32) = (0 : Int32)) => ?_)
  refine go_iloadN C X19 56 rfl d14_55 rfl ?_
  refine go_sipush C X19 59 rfl d14_56 (z := 128) rfl ?_
  refine go_icmp_ge C X19 d14_59 (pc' := 62) (pc2 := 78) rfl (by decide) (by decide) (fun (c59 : 128 ≤ cc.toInt) => False.elim (by omega)) (fun (c59 : cc.toInt < 128) => ?_)
  refine go_iloadN C X19 63 rfl d14_62 rfl ?_
  refine go_bipush C X19 65 rfl d14_63 (z := 65) rfl ?_
  refine go_icmp_lt C X19 d14_65 (pc' := 68) (pc2 := 74) rfl (by decide) (by decide) (fun (c65 : cc.toInt < 65) => False.elim (by omega)) (fun (c65 : 65 ≤ cc.toInt) => ?_)
  refine go_iloadN C X19 69 rfl d14_68 rfl ?_
  refine go_bipush C X19 71 rfl d14_69 (z := 90) rfl ?_
  refine go_icmp_le C X19 d14_71 (pc' := 74) (pc2 := 78) rfl (by decide) (by decide) (fun (c71 : cc.toInt ≤ 90) => False.elim (by omega)) (fun (c71 : 90 < cc.toInt) => ?_)
  refine go_iconst C X19 75 rfl d14_74 (z := 1) rfl ?_
  refine go_goto C X19 d14_75 (pc' := 79) (by decide) (by decide) ?_
  refine go_istoreN C X19 80 rfl d14_79 #[rv a, iv cc, iv (1 : Int32)] rfl ?_
  refine go_aloadN C X19 81 rfl d14_80 rfl rfl ?_
  refine go_iloadN C X19 82 rfl d14_81 rfl ?_
  refine go_if_eq C X19 d14_82 (pc' := 85) (pc2 := 96) rfl (by decide) (by decide) (fun (c82 : (1 : Int32) = (0 : Int32)) => False.elim (by first | omega | exact absurd c82 (by decide))) (fun (c82 : ¬ (1 : Int32) = (0 : Int32)) => ?_)
  refine go_aloadN C X19 86 rfl d14_85 rfl rfl ?_
  refine go_getF C X19 (C.w 48 rfl) Via.refl F13 (pc' := 89) rfl d14_86 (fun T21 X22 => ?_)
  refine go_iloadN C X22 90 rfl d14_89 rfl ?_
  refine go_callS C X22 (C.w 138 rfl) (C.w 139 rfl) (C.w 140 rfl) (C.w 141 rfl) (own_app l Z a0 C.ws (0 : Int64) cc h5 n0 X22.old (by decide) (by decide) hc) (argsL := [(.long (0 : Int64)), (.int cc)]) (rest := [(.ref a)]) (lenOf pd_11 rfl) rfl (by decide) (by decide) (Nat.le_of_ble_eq_true rfl) (by decide) (by decide) rfl rfl (pc' := 93) rfl d14_90 ?_
  rintro T23 _ _ ⟨rfl, rfl⟩ X24
  show Go p e below _ (T23.setTop (mkF m 93 #[rv a, iv cc, iv (1 : Int32)] [(.long (own_ap (0 : Int64) cc)), (.ref a)]))
  refine go_goto C X24 d14_93 (pc' := 99) (by decide) (by decide) ?_
  refine go_putF C X24 (C.w 48 rfl) Via.refl F13 E10 (Or.inl (C.w 49 rfl)) (C.w 28 rfl) ga (ty := .long) (by decide) rfl rfl (pc' := 102) rfl d14_99 (fun T26 h28 W29 X27 => ?_)
  have F30 := F13.same W29
  have SQ31 : Safe Z consts_1 s.vm _ a := (safeE C E10 (by decide) (by decide))
  have WI32 := WI9.wr W29 SQ31
  have E33 := E10.wr W29
  have F34 := F11.other W29 (Or.inr (slot_ne (Or.inl (C.w 45 rfl)) (Or.inl (C.w 49 rfl)) (by decide) (t := (.object "com/example/plantilla/plantilla/ScriptText$Mode")) (t' := .long) (by decide) (by decide)))
  have F35 := F12.other W29 (Or.inr (slot_ne (Or.inl (C.w 47 rfl)) (Or.inl (C.w 49 rfl)) (by decide) (t := .boolean) (t' := .long) (by decide) (by decide)))
  have F36 := F14.other W29 (Or.inr (slot_ne (Or.inl (C.w 51 rfl)) (Or.inl (C.w 49 rfl)) (by decide) (t := .boolean) (t' := .long) (by decide) (by decide)))
  have F37 := F15.other W29 (Or.inr (slot_ne (Or.inl (C.w 53 rfl)) (Or.inl (C.w 49 rfl)) (by decide) (t := .int) (t' := .long) (by decide) (by decide)))
  have F38 := F16.other W29 (Or.inr (slot_ne (Or.inl (C.w 55 rfl)) (Or.inl (C.w 49 rfl)) (by decide) (t := .long) (t' := .long) (by decide) (by decide)))
  have F39 := F7.other W29 (Or.inr (slot_ne (Or.inl (C.w 57 rfl)) (Or.inl (C.w 49 rfl)) (by decide) (t := .int) (t' := .long) (by decide) (by decide)))
  have K40 := K17.wr W29 (Or.inl (List.mem_of_getElem? (i := 0) rfl))
  refine go_goto C X27 d14_102 (pc' := 145) (by decide) (by decide) ?_
  refine go_aloadN C X27 146 rfl d14_145 rfl rfl ?_
  refine go_getF C X27 (C.w 56 rfl) Via.refl F39 (pc' := 149) rfl d14_146 (fun T41 X42 => ?_)
  refine go_ldcHX C X42 WI32 hEL (C.w 126 rfl) (own_wS C.ws) (List.mem_of_getElem? (i := 0) rfl) (vs := [.int 60, .int 33, .int 45, .int 45]) (z := 4) own_lit120 (by decide) (by decide) (q := 16) own_len120 (by decide) (by decide) (by decide) (pc' := 151) rfl d14_149 ?_
  intro s T43 h45 la lb C WI47 E46 EL0 GL1 GL2 AL SF hLd X44
  have E48 := E33.ext E46
  have F49 := F34.ext E46
  have F50 := F35.ext E46
  have F51 := F30.ext E46
  have F52 := F36.ext E46
  have F53 := F37.ext E46
  have F54 := F38.ext E46
  have F55 := F39.ext E46
  have K56 := K40.ext E46
  have nab := SF a (safeE C E48 (by decide) (by decide))
  replace AL : La Z h45 lb .byte (ia [60, 33, 45, 45]) := AL
  refine go_virtual C X44 EL0 (C.w 63 rfl) (C.w 64 rfl) (notFace_of_selects (args := #[]) (mvT C.hZ (C.w 66 rfl))) (C.w 66 rfl) (C.w 65 rfl) (C.w 3 rfl) (C.w 67 rfl) (own_len l Z a0 C.ws la lb [60, 33, 45, 45] (4 : Int32) cs fv h45 n0 X44.old EL0 GL1 GL2 AL rfl hcs S1 hfv S2) (argsL := []) (rest := [(.int (0 : Int32))]) (lenOf pd_8 rfl) rfl (by decide) (by decide) (Nat.le_of_ble_eq_true rfl) (by decide) (by decide) rfl rfl (pc' := 154) rfl d14_151 ?_
  rintro T57 _ _ ⟨rfl, rfl⟩ X58
  show Go p e below _ (T57.setTop (mkF m 154 #[rv a, iv cc, iv (1 : Int32)] [(.int (4 : Int32)), (.int (0 : Int32))]))
  refine go_icmp_ne C X58 d14_154 (pc' := 157) (pc2 := 169) rfl (by decide) (by decide) (fun (c154 : ¬ (0 : Int32) = (4 : Int32)) => ?_) (fun (c154 : (0 : Int32) = (4 : Int32)) => False.elim (by first | omega | exact absurd c154 (by decide)))
  exact go_ret0X C X58 WI47 hEL d14_169 (fun vm' W9 => ⟨rfl, K56, ⟨E48, F49, F50, F51, F52, F53, F54, F55⟩, la, lb, hLd.warm W9, ⟨EL0, GL1, GL2, AL⟩, Ne.symm nab.1, Ne.symm nab.2⟩) (by decide) (by decide)
theorem own_coldL_r (l : Launch) (Z : State) (a0 : Array Value) (hw : ∀ d ∈ tables_1, d.before a0 Z = true) (mc ms mt md be : Addr) (cs : Int32) (fv : Value) (cc : Int32) (hEL : EW Z a0 consts_1) (hE : own_E Z mc ms mt md be cs fv) (hc : 97 ≤ cc.toInt ∧ cc.toInt ≤ 122): own_RCX l Z (mc, 1, 0, 0, 0, 0, 0) cc (mc, 1, (own_ap (0 : Int64) cc), 0, 0, 0, 0) := fun h n0 a ho ga hS => own_coldL l Z a0 hw a cc mc ms mt md be cs fv  h n0 ho hEL hE hc hS ga
theorem ef_own_m25_26 (m : MethodId) (a : Addr)  : entryFrame m #[(.ref a), (.int (0 : Int32))] 4 = mkF m 0 #[rv a, iv (0 : Int32), un, un] [] := by
  first | (simp [entryFrame, mkF, argsToLocals, Value.category]; done) | rfl
set_option maxRecDepth 65536 in
set_option maxHeartbeats 40000000 in
theorem own_m25_26 (l : Launch) (Z : State) (a0 : Array Value) (hw : ∀ d ∈ tables_1, d.before a0 Z = true) (a : Addr) (mc ms mt md be : Addr) (cs : Int32) (fv : Value) (k : Int32) (h : Heap) (n0 : Nat) (hn0 : Old Z n0 h) (hE : own_E Z mc ms mt md be cs fv) (hk : 0 ≤ k.toInt ∧ k.toInt < 63) (hS : own_F Z h a mc (1 : Int32) (0 : Int64) (0 : Int32) k (0 : Int64) (0 : Int32)) (ga : n0 ≤ a) :
    Con l Z (⟨"com/example/plantilla/plantilla/ScriptText", "openBrace", "(Z)V"⟩ : MethodName) prog_37_method_19_code 4 none ({ frames := 0, cells := 0, slots := 0, locals := 0 } : Room) #[(.ref a), (.int (0 : Int32))] h n0 (fun v h' => v = none ∧ Keep h h' [a] ∧ own_F Z h' a mc (1 : Int32) (0 : Int64) (0 : Int32) (k + (1 : Int32)) (0 : Int64) (0 : Int32)) := by
  refine con_of hw (plainFor_of_name pn_com_example_plantilla_plantilla_ScriptText) hn0 ?_
  intro p e s m below meth c T0 C X0
  refine Go.cast (congrArg T0.setTop (ef_own_m25_26 m a)) ?_
  have hE1 := hE
  obtain ⟨SM0, SM1, SM2, SM3, EM0, EM1, EM2, EM3, FM0, FM1, FM2, FM3, SB, AB, hcs, S1, hfv, S2⟩ := hE1
  obtain ⟨E0, FF0, FF1, FF2, FF3, FF4, FF5, FF6⟩ := hS
  refine go_aloadN C X0 1 rfl d25_0 rfl rfl ?_
  refine go_getF C X0 (C.w 52 rfl) Via.refl FF4 (pc' := 4) rfl d25_1 (fun T1 X2 => ?_)
  refine go_bipush C X2 6 rfl d25_4 (z := 64) rfl ?_
  refine go_icmp_lt C X2 d25_6 (pc' := 9) (pc2 := 23) rfl (by decide) (by decide) (fun (c6 : k.toInt < 64) => ?_) (fun (c6 : 64 ≤ k.toInt) => False.elim (by omega))
  refine go_aloadN C X2 24 rfl d25_23 rfl rfl ?_
  refine go_getF C X2 (C.w 52 rfl) Via.refl FF4 (pc' := 27) rfl d25_24 (fun T3 X4 => ?_)
  refine go_bipush C X4 29 rfl d25_27 (z := 64) rfl ?_
  refine go_icmp_ge C X4 d25_29 (pc' := 32) (pc2 := 66) rfl (by decide) (by decide) (fun (c29 : 64 ≤ k.toInt) => False.elim (by omega)) (fun (c29 : k.toInt < 64) => ?_)
  refine go_lconst C X4 33 rfl d25_32 (z := 1) rfl ?_
  refine go_aloadN C X4 34 rfl d25_33 rfl rfl ?_
  refine go_getF C X4 (C.w 52 rfl) Via.refl FF4 (pc' := 37) rfl d25_34 (fun T5 X6 => ?_)
  refine go_lshl C X6 38 rfl d25_37 ?_
  refine go_lstoreN C X6 39 rfl d25_38 #[rv a, iv (0 : Int32), jv ((1 : Int64) <<< (k &&& 0x3f).toInt64), sc] rfl ?_
  refine go_aloadN C X6 40 rfl d25_39 rfl rfl ?_
  refine go_iloadN C X6 41 rfl d25_40 rfl ?_
  refine go_if_eq C X6 d25_41 (pc' := 44) (pc2 := 53) rfl (by decide) (by decide) (fun (c41 : (0 : Int32) = (0 : Int32)) => ?_) (fun (c41 : ¬ (0 : Int32) = (0 : Int32)) => False.elim (by first | omega | exact absurd c41 (by decide)))
  refine go_aloadN C X6 54 rfl d25_53 rfl rfl ?_
  refine go_getF C X6 (C.w 54 rfl) Via.refl FF5 (pc' := 57) rfl d25_54 (fun T7 X8 => ?_)
  refine go_lloadN C X8 58 rfl d25_57 rfl ?_
  refine go_ldc2Long C X8 (C.w 176 rfl) (pc' := 61) rfl d25_58 ?_
  refine go_lxor C X8 62 rfl d25_61 ?_
  refine go_land C X8 63 rfl d25_62 ?_
  rw [own_la]
  refine go_putF C X8 (C.w 54 rfl) Via.refl FF5 E0 (Or.inl (C.w 55 rfl)) (C.w 28 rfl) ga (ty := .long) (by decide) rfl rfl (pc' := 66) rfl d25_63 (fun T9 h11 W12 X10 => ?_)
  have F13 := FF5.same W12
  have E14 := E0.wr W12
  have F15 := FF0.other W12 (Or.inr (slot_ne (Or.inl (C.w 45 rfl)) (Or.inl (C.w 55 rfl)) (by decide) (t := (.object "com/example/plantilla/plantilla/ScriptText$Mode")) (t' := .long) (by decide) (by decide)))
  have F16 := FF1.other W12 (Or.inr (slot_ne (Or.inl (C.w 47 rfl)) (Or.inl (C.w 55 rfl)) (by decide) (t := .boolean) (t' := .long) (by decide) (by decide)))
  have F17 := FF2.other W12 (Or.inr (slot_ne (Or.inl (C.w 49 rfl)) (Or.inl (C.w 55 rfl)) (by decide) (t := .long) (t' := .long) (by decide) (by decide)))
  have F18 := FF3.other W12 (Or.inr (slot_ne (Or.inl (C.w 51 rfl)) (Or.inl (C.w 55 rfl)) (by decide) (t := .boolean) (t' := .long) (by decide) (by decide)))
  have F19 := FF4.other W12 (Or.inr (slot_ne (Or.inl (C.w 53 rfl)) (Or.inl (C.w 55 rfl)) (by decide) (t := .int) (t' := .long) (by decide) (by decide)))
  have F20 := FF6.other W12 (Or.inr (slot_ne (Or.inl (C.w 57 rfl)) (Or.inl (C.w 55 rfl)) (by decide) (t := .int) (t' := .long) (by decide) (by decide)))
  have K21 := (Keep.refl h [a]).wr W12 (Or.inl (List.mem_of_getElem? (i := 0) rfl))
  refine go_aloadN C X10 67 rfl d25_66 rfl rfl ?_
  refine go_dup C X10 68 rfl d25_67 rfl ?_
  refine go_getF C X10 (C.w 52 rfl) Via.refl F19 (pc' := 71) rfl d25_68 (fun T22 X23 => ?_)
  refine go_iconst C X23 72 rfl d25_71 (z := 1) rfl ?_
  refine go_iadd C X23 73 rfl d25_72 ?_
  refine go_putF C X23 (C.w 52 rfl) Via.refl F19 E14 (Or.inl (C.w 53 rfl)) (C.w 28 rfl) ga (ty := .int) (by decide) rfl rfl (pc' := 76) rfl d25_73 (fun T24 h26 W27 X25 => ?_)
  have F28 := F19.same W27
  have E29 := E14.wr W27
  have F30 := F15.other W27 (Or.inr (slot_ne (Or.inl (C.w 45 rfl)) (Or.inl (C.w 53 rfl)) (by decide) (t := (.object "com/example/plantilla/plantilla/ScriptText$Mode")) (t' := .int) (by decide) (by decide)))
  have F31 := F16.other W27 (Or.inr (slot_ne (Or.inl (C.w 47 rfl)) (Or.inl (C.w 53 rfl)) (by decide) (t := .boolean) (t' := .int) (by decide) (by decide)))
  have F32 := F17.other W27 (Or.inr (slot_ne (Or.inl (C.w 49 rfl)) (Or.inl (C.w 53 rfl)) (by decide) (t := .long) (t' := .int) (by decide) (by decide)))
  have F33 := F18.other W27 (Or.inr (slot_ne (Or.inl (C.w 51 rfl)) (Or.inl (C.w 53 rfl)) (by decide) (t := .boolean) (t' := .int) (by decide) (by decide)))
  have F34 := F13.other W27 (Or.inr (slot_ne (Or.inl (C.w 55 rfl)) (Or.inl (C.w 53 rfl)) (by decide) (t := .long) (t' := .int) (by decide) (by decide)))
  have F35 := F20.other W27 (Or.inr (slot_ne (Or.inl (C.w 57 rfl)) (Or.inl (C.w 53 rfl)) (by decide) (t := .int) (t' := .int) (by decide) (by decide)))
  have K36 := K21.wr W27 (Or.inl (List.mem_of_getElem? (i := 0) rfl))
  refine go_aloadN C X25 77 rfl d25_76 rfl rfl ?_
  refine go_getS C X25 (C.w 41 rfl) (SM0.ext X25.old.2) (pc' := 80) rfl d25_77 (fun T37 X38 => ?_)
  refine go_putF C X38 (C.w 44 rfl) Via.refl F30 E29 (Or.inl (C.w 45 rfl)) (C.w 28 rfl) ga (ty := (.object "com/example/plantilla/plantilla/ScriptText$Mode")) (by decide) rfl rfl (pc' := 83) rfl d25_80 (fun T39 h41 W42 X40 => ?_)
  have F43 := F30.same W42
  have E44 := E29.wr W42
  have F45 := F31.other W42 (Or.inr (slot_ne (Or.inl (C.w 47 rfl)) (Or.inl (C.w 45 rfl)) (by decide) (t := .boolean) (t' := (.object "com/example/plantilla/plantilla/ScriptText$Mode")) (by decide) (by decide)))
  have F46 := F32.other W42 (Or.inr (slot_ne (Or.inl (C.w 49 rfl)) (Or.inl (C.w 45 rfl)) (by decide) (t := .long) (t' := (.object "com/example/plantilla/plantilla/ScriptText$Mode")) (by decide) (by decide)))
  have F47 := F33.other W42 (Or.inr (slot_ne (Or.inl (C.w 51 rfl)) (Or.inl (C.w 45 rfl)) (by decide) (t := .boolean) (t' := (.object "com/example/plantilla/plantilla/ScriptText$Mode")) (by decide) (by decide)))
  have F48 := F28.other W42 (Or.inr (slot_ne (Or.inl (C.w 53 rfl)) (Or.inl (C.w 45 rfl)) (by decide) (t := .int) (t' := (.object "com/example/plantilla/plantilla/ScriptText$Mode")) (by decide) (by decide)))
  have F49 := F34.other W42 (Or.inr (slot_ne (Or.inl (C.w 55 rfl)) (Or.inl (C.w 45 rfl)) (by decide) (t := .long) (t' := (.object "com/example/plantilla/plantilla/ScriptText$Mode")) (by decide) (by decide)))
  have F50 := F35.other W42 (Or.inr (slot_ne (Or.inl (C.w 57 rfl)) (Or.inl (C.w 45 rfl)) (by decide) (t := .int) (t' := (.object "com/example/plantilla/plantilla/ScriptText$Mode")) (by decide) (by decide)))
  have K51 := K36.wr W42 (Or.inl (List.mem_of_getElem? (i := 0) rfl))
  refine go_aloadN C X40 84 rfl d25_83 rfl rfl ?_
  refine go_iconst C X40 85 rfl d25_84 (z := 1) rfl ?_
  refine go_putFN C X40 (C.w 46 rfl) Via.refl F45 E44 (Or.inl (C.w 47 rfl)) (C.w 28 rfl) ga (ty := .boolean) (by decide) (v' := (.int (1 : Int32))) rfl rfl (pc' := 88) rfl d25_85 (fun T52 h54 W55 X53 => ?_)
  have F56 := F45.same W55
  have E57 := E44.wr W55
  have F58 := F43.other W55 (Or.inr (slot_ne (Or.inl (C.w 45 rfl)) (Or.inl (C.w 47 rfl)) (by decide) (t := (.object "com/example/plantilla/plantilla/ScriptText$Mode")) (t' := .boolean) (by decide) (by decide)))
  have F59 := F46.other W55 (Or.inr (slot_ne (Or.inl (C.w 49 rfl)) (Or.inl (C.w 47 rfl)) (by decide) (t := .long) (t' := .boolean) (by decide) (by decide)))
  have F60 := F47.other W55 (Or.inr (slot_ne (Or.inl (C.w 51 rfl)) (Or.inl (C.w 47 rfl)) (by decide) (t := .boolean) (t' := .boolean) (by decide) (by decide)))
  have F61 := F48.other W55 (Or.inr (slot_ne (Or.inl (C.w 53 rfl)) (Or.inl (C.w 47 rfl)) (by decide) (t := .int) (t' := .boolean) (by decide) (by decide)))
  have F62 := F49.other W55 (Or.inr (slot_ne (Or.inl (C.w 55 rfl)) (Or.inl (C.w 47 rfl)) (by decide) (t := .long) (t' := .boolean) (by decide) (by decide)))
  have F63 := F50.other W55 (Or.inr (slot_ne (Or.inl (C.w 57 rfl)) (Or.inl (C.w 47 rfl)) (by decide) (t := .int) (t' := .boolean) (by decide) (by decide)))
  have K64 := K51.wr W55 (Or.inl (List.mem_of_getElem? (i := 0) rfl))
  exact go_ret0 C X53 d25_88 ⟨rfl, K64, E57, F58, F56, F59, F60, F61, F62, F63⟩ (by decide) (by decide)
theorem ef_own_m17_25 (m : MethodId) (a : Addr)  : entryFrame m #[(.ref a), (.int (123 : Int32))] 2 = mkF m 0 #[rv a, iv (123 : Int32)] [] := by
  first | (simp [entryFrame, mkF, argsToLocals, Value.category]; done) | rfl
set_option maxRecDepth 65536 in
set_option maxHeartbeats 40000000 in
theorem own_m17_25 (l : Launch) (Z : State) (a0 : Array Value) (hw : ∀ d ∈ tables_1, d.before a0 Z = true) (a : Addr) (mc ms mt md be : Addr) (cs : Int32) (fv : Value) (k : Int32) (h : Heap) (n0 : Nat) (hn0 : Old Z n0 h) (hE : own_E Z mc ms mt md be cs fv) (hk : 0 ≤ k.toInt ∧ k.toInt < 63) (hS : own_F Z h a mc (1 : Int32) (0 : Int64) (0 : Int32) k (0 : Int64) (0 : Int32)) (ga : n0 ≤ a) :
    Con l Z (⟨"com/example/plantilla/plantilla/ScriptText", "readPunctuator", "(C)V"⟩ : MethodName) prog_37_method_11_code 2 none ({ frames := 1, cells := 0, slots := 0, locals := 15 } : Room) #[(.ref a), (.int (123 : Int32))] h n0 (fun v h' => v = none ∧ Keep h h' [a] ∧ own_F Z h' a mc (1 : Int32) (0 : Int64) (0 : Int32) (k + (1 : Int32)) (0 : Int64) (0 : Int32)) := by
  refine con_of hw (plainFor_of_name pn_com_example_plantilla_plantilla_ScriptText) hn0 ?_
  intro p e s m below meth c T0 C X0
  refine Go.cast (congrArg T0.setTop (ef_own_m17_25 m a)) ?_
  have hE1 := hE
  obtain ⟨SM0, SM1, SM2, SM3, EM0, EM1, EM2, EM3, FM0, FM1, FM2, FM3, SB, AB, hcs, S1, hfv, S2⟩ := hE1
  obtain ⟨E0, FF0, FF1, FF2, FF3, FF4, FF5, FF6⟩ := hS
  refine go_iloadN C X0 1 rfl d17_0 rfl ?_
  refine go_lookHit C X0 d17_1 (by first | decide | (simp; done)) (q := 123) (off := 115) (by first | decide | rfl | (simp; done)) (pc2 := 116) (by decide) (by decide) ?_
  refine go_aloadN C X0 117 rfl d17_116 rfl rfl ?_
  refine go_iconst C X0 118 rfl d17_117 (z := 0) rfl ?_
  refine go_private C X0 E0 (C.w 164 rfl) (C.w 165 rfl) (Jvm.Kit.selects_private (by decide) (C.w 28 rfl) (C.w 166 rfl) (C.w 165 rfl)) (C.w 166 rfl) (C.w 29 rfl) (C.w 167 rfl) (own_m25_26 l Z a0 C.ws a mc ms mt md be cs fv k h n0 X0.old hE hk ⟨E0, FF0, FF1, FF2, FF3, FF4, FF5, FF6⟩ ga) (argsL := [(.int (0 : Int32))]) (rest := []) (lenOf pd_9 rfl) rfl (by decide) (by decide) (Nat.le_of_ble_eq_true rfl) (by decide) (by decide) rfl rfl (pc' := 121) rfl d17_118 ?_
  rintro T1 h3 _ ⟨rfl, Kq4, Eq4, Fq40, Fq41, Fq42, Fq43, Fq44, Fq45, Fq46⟩ X2
  show Go p e below _ (T1.setTop (mkF m 121 #[rv a, iv (123 : Int32)] []))
  have E5 := E0.keep Kq4
  have K6 := (Keep.refl h [a]).trans Kq4 (allS (Or.inl (List.mem_of_getElem? (i := 0) rfl)) all0)
  refine go_goto C X2 d17_121 (pc' := 144) (by decide) (by decide) ?_
  exact go_ret0 C X2 d17_144 ⟨rfl, K6, Eq4, Fq40, Fq41, Fq42, Fq43, Fq44, Fq45, Fq46⟩ (by decide) (by decide)
theorem ef_own_warm123 (m : MethodId) (a : Addr)  : entryFrame m #[(.ref a), (.int (123 : Int32))] 3 = mkF m 0 #[rv a, iv (123 : Int32), un] [] := by
  first | (simp [entryFrame, mkF, argsToLocals, Value.category]; done) | rfl
set_option maxRecDepth 65536 in
set_option maxHeartbeats 40000000 in
theorem own_warm123 (l : Launch) (Z : State) (a0 : Array Value) (hw : ∀ d ∈ tables_1, d.before a0 Z = true) (a : Addr) (la lb : Addr) (mc ms mt md be : Addr) (cs : Int32) (fv : Value) (k : Int32) (h : Heap) (n0 : Nat) (hn0 : Old Z n0 h) (hE : own_E Z mc ms mt md be cs fv) (hk : 0 ≤ k.toInt ∧ k.toInt < 63) (hS : own_F Z h a mc (1 : Int32) (0 : Int64) (0 : Int32) k (0 : Int64) (0 : Int32)) (ga : n0 ≤ a) (hL : Sg Z h la lb own_LT) (nla : la ≠ a) (nlb : lb ≠ a) :
    ConP l Z (LdV Z "com/example/plantilla/plantilla/ScriptText" 120 la) (⟨"com/example/plantilla/plantilla/ScriptText", "readCode", "(C)V"⟩ : MethodName) prog_37_method_10_code 3 none ({ frames := 3, cells := 0, slots := 0, locals := 60 } : Room) #[(.ref a), (.int (123 : Int32))] h n0 (fun v h' => v = none ∧ Keep h h' [a] ∧ own_F Z h' a mc (1 : Int32) (0 : Int64) (0 : Int32) (k + (1 : Int32)) (0 : Int64) (0 : Int32)) := by
  refine conP_of hw (plainFor_of_name pn_com_example_plantilla_plantilla_ScriptText) hn0 ?_
  intro p e s m below meth c T0 C hPX X0
  refine Go.cast (congrArg T0.setTop (ef_own_warm123 m a)) ?_
  have hE1 := hE
  obtain ⟨SM0, SM1, SM2, SM3, EM0, EM1, EM2, EM3, FM0, FM1, FM2, FM3, SB, AB, hcs, S1, hfv, S2⟩ := hE1
  obtain ⟨E0, FF0, FF1, FF2, FF3, FF4, FF5, FF6⟩ := hS
  obtain ⟨EL0, GL1, GL2, AL⟩ := hL
  replace AL : La Z h lb .byte (ia [60, 33, 45, 45]) := AL
  refine go_aloadN C X0 1 rfl d14_0 rfl rfl ?_
  refine go_getF C X0 (C.w 56 rfl) Via.refl FF6 (pc' := 4) rfl d14_1 (fun T1 X2 => ?_)
  refine go_if_le C X2 d14_4 (pc' := 7) (pc2 := 33) rfl (by decide) (by decide) (fun (c4 : 0 ≤ 0) => ?_) (fun (c4 : 0 < 0) => False.elim (by first | omega | exact absurd c4 (by decide)))
  refine go_aloadN C X2 34 rfl d14_33 rfl rfl ?_
  refine go_iloadN C X2 35 rfl d14_34 rfl ?_
  refine go_bipush C X2 37 rfl d14_35 (z := 60) rfl ?_
  refine go_icmp_ne C X2 d14_37 (pc' := 40) (pc2 := 44) rfl (by decide) (by decide) (fun (c37 : ¬ (123 : Int32) = (60 : Int32)) => ?_) (fun (c37 : (123 : Int32) = (60 : Int32)) => False.elim (by first | omega | exact absurd c37 (by decide)))
  refine go_iconst C X2 45 rfl d14_44 (z := 0) rfl ?_
  refine go_putF C X2 (C.w 56 rfl) Via.refl FF6 E0 (Or.inl (C.w 57 rfl)) (C.w 28 rfl) ga (ty := .int) (by decide) rfl rfl (pc' := 48) rfl d14_45 (fun T3 h5 W6 X4 => ?_)
  have F7 := FF6.same W6
  have E8 := E0.wr W6
  have F9 := FF0.other W6 (Or.inr (slot_ne (Or.inl (C.w 45 rfl)) (Or.inl (C.w 57 rfl)) (by decide) (t := (.object "com/example/plantilla/plantilla/ScriptText$Mode")) (t' := .int) (by decide) (by decide)))
  have F10 := FF1.other W6 (Or.inr (slot_ne (Or.inl (C.w 47 rfl)) (Or.inl (C.w 57 rfl)) (by decide) (t := .boolean) (t' := .int) (by decide) (by decide)))
  have F11 := FF2.other W6 (Or.inr (slot_ne (Or.inl (C.w 49 rfl)) (Or.inl (C.w 57 rfl)) (by decide) (t := .long) (t' := .int) (by decide) (by decide)))
  have F12 := FF3.other W6 (Or.inr (slot_ne (Or.inl (C.w 51 rfl)) (Or.inl (C.w 57 rfl)) (by decide) (t := .boolean) (t' := .int) (by decide) (by decide)))
  have F13 := FF4.other W6 (Or.inr (slot_ne (Or.inl (C.w 53 rfl)) (Or.inl (C.w 57 rfl)) (by decide) (t := .int) (t' := .int) (by decide) (by decide)))
  have F14 := FF5.other W6 (Or.inr (slot_ne (Or.inl (C.w 55 rfl)) (Or.inl (C.w 57 rfl)) (by decide) (t := .long) (t' := .int) (by decide) (by decide)))
  have E15 := EL0.wr W6
  have F16 := GL1.other W6 (Or.inl nla)
  have F17 := GL2.other W6 (Or.inl nla)
  have A18 := AL.other W6 nlb
  have K19 := (Keep.refl h [a]).wr W6 (Or.inl (List.mem_of_getElem? (i := 0) rfl))
  refine go_iloadN C X4 49 rfl d14_48 rfl ?_
  refine go_callS C X4 (C.w 116 rfl) (C.w 117 rfl) (C.w 29 rfl) (C.w 118 rfl) (own_p15_8 l Z a0 C.ws  h5 n0 X4.old ) (argsL := [(.int (123 : Int32))]) (rest := []) (lenOf pd_6 rfl) rfl (by decide) (by decide) (Nat.le_of_ble_eq_true rfl) (by decide) (by decide) rfl rfl (pc' := 52) rfl d14_49 ?_
  rintro T20 _ _ ⟨rfl, rfl⟩ X21
  show Go p e below _ (T20.setTop (mkF m 52 #[rv a, iv (123 : Int32), un] [(.int (0 : Int32))]))
  refine go_if_eq C X21 d14_52 (pc' := 55) (pc2 := 105) rfl (by decide) (by decide) (fun (c52 : (0 : Int32) = (0 : Int32)) => ?_) (fun (c52 : ¬ (0 : Int32) = (0 : Int32)) => False.elim (by first | omega | exact absurd c52 (by decide)))
  refine go_aloadN C X21 106 rfl d14_105 rfl rfl ?_
  refine go_getF C X21 (C.w 48 rfl) Via.refl F11 (pc' := 109) rfl d14_106 (fun T23 X24 => ?_)
  refine go_lconst C X24 110 rfl d14_109 (z := 0) rfl ?_
  refine go_lif_eq C X24 (pc1 := 111) rfl d14_110 d14_111 (pc' := 114) (pc2 := 128) rfl (by decide) (by decide) (fun (c111 : (0 : Int64) = (0 : Int64)) => ?_) (fun (c111 : ¬ (0 : Int64) = (0 : Int64)) => False.elim (by first | omega | exact absurd c111 (by decide)))
  refine go_aloadN C X24 129 rfl d14_128 rfl rfl ?_
  refine go_lconst C X24 130 rfl d14_129 (z := 0) rfl ?_
  refine go_putF C X24 (C.w 48 rfl) Via.refl F11 E8 (Or.inl (C.w 49 rfl)) (C.w 28 rfl) ga (ty := .long) (by decide) rfl rfl (pc' := 133) rfl d14_130 (fun T25 h27 W28 X26 => ?_)
  have F29 := F11.same W28
  have E30 := E8.wr W28
  have F31 := F9.other W28 (Or.inr (slot_ne (Or.inl (C.w 45 rfl)) (Or.inl (C.w 49 rfl)) (by decide) (t := (.object "com/example/plantilla/plantilla/ScriptText$Mode")) (t' := .long) (by decide) (by decide)))
  have F32 := F10.other W28 (Or.inr (slot_ne (Or.inl (C.w 47 rfl)) (Or.inl (C.w 49 rfl)) (by decide) (t := .boolean) (t' := .long) (by decide) (by decide)))
  have F33 := F12.other W28 (Or.inr (slot_ne (Or.inl (C.w 51 rfl)) (Or.inl (C.w 49 rfl)) (by decide) (t := .boolean) (t' := .long) (by decide) (by decide)))
  have F34 := F13.other W28 (Or.inr (slot_ne (Or.inl (C.w 53 rfl)) (Or.inl (C.w 49 rfl)) (by decide) (t := .int) (t' := .long) (by decide) (by decide)))
  have F35 := F14.other W28 (Or.inr (slot_ne (Or.inl (C.w 55 rfl)) (Or.inl (C.w 49 rfl)) (by decide) (t := .long) (t' := .long) (by decide) (by decide)))
  have F36 := F7.other W28 (Or.inr (slot_ne (Or.inl (C.w 57 rfl)) (Or.inl (C.w 49 rfl)) (by decide) (t := .int) (t' := .long) (by decide) (by decide)))
  have E37 := E15.wr W28
  have F38 := F16.other W28 (Or.inl nla)
  have F39 := F17.other W28 (Or.inl nla)
  have A40 := A18.other W28 nlb
  have K41 := K19.wr W28 (Or.inl (List.mem_of_getElem? (i := 0) rfl))
  refine go_iloadN C X26 134 rfl d14_133 rfl ?_
  refine go_callS C X26 (C.w 119 rfl) (C.w 120 rfl) (C.w 29 rfl) (C.w 121 rfl) (own_p16_9 l Z a0 C.ws  h27 n0 X26.old ) (argsL := [(.int (123 : Int32))]) (rest := []) (lenOf pd_6 rfl) rfl (by decide) (by decide) (Nat.le_of_ble_eq_true rfl) (by decide) (by decide) rfl rfl (pc' := 137) rfl d14_134 ?_
  rintro T42 _ _ ⟨rfl, rfl⟩ X43
  show Go p e below _ (T42.setTop (mkF m 137 #[rv a, iv (123 : Int32), un] [(.int (0 : Int32))]))
  refine go_if_ne C X43 d14_137 (pc' := 140) (pc2 := 145) rfl (by decide) (by decide) (fun (c137 : ¬ (0 : Int32) = (0 : Int32)) => False.elim (by first | omega | exact absurd c137 (by decide))) (fun (c137 : (0 : Int32) = (0 : Int32)) => ?_)
  refine go_aloadN C X43 141 rfl d14_140 rfl rfl ?_
  refine go_iloadN C X43 142 rfl d14_141 rfl ?_
  refine go_private C X43 E30 (C.w 122 rfl) (C.w 123 rfl) (Jvm.Kit.selects_private (by decide) (C.w 28 rfl) (C.w 124 rfl) (C.w 123 rfl)) (C.w 124 rfl) (C.w 29 rfl) (C.w 125 rfl) (own_m17_25 l Z a0 C.ws a mc ms mt md be cs fv k h27 n0 X43.old hE hk ⟨E30, F31, F32, F29, F33, F34, F35, F36⟩ ga) (argsL := [(.int (123 : Int32))]) (rest := []) (lenOf pd_7 rfl) rfl (by decide) (by decide) (Nat.le_of_ble_eq_true rfl) (by decide) (by decide) rfl rfl (pc' := 145) rfl d14_142 ?_
  rintro T45 h47 _ ⟨rfl, Kq48, Eq48, Fq480, Fq481, Fq482, Fq483, Fq484, Fq485, Fq486⟩ X46
  show Go p e below _ (T45.setTop (mkF m 145 #[rv a, iv (123 : Int32), un] []))
  have E49 := E30.keep Kq48
  have E50 := E37.keep Kq48
  have F51 := F38.keep Kq48 (ninS nla nin0)
  have F52 := F39.keep Kq48 (ninS nla nin0)
  have A53 := A40.keep Kq48 (ninS nlb nin0)
  have K54 := K41.trans Kq48 (allS (Or.inl (List.mem_of_getElem? (i := 0) rfl)) all0)
  refine go_aloadN C X46 146 rfl d14_145 rfl rfl ?_
  refine go_getF C X46 (C.w 56 rfl) Via.refl Fq486 (pc' := 149) rfl d14_146 (fun T55 X56 => ?_)
  refine go_ldcL C X56 (C.w 126 rfl) hPX (pc' := 151) rfl d14_149 ?_
  refine go_virtual C X56 E50 (C.w 63 rfl) (C.w 64 rfl) (notFace_of_selects (args := #[]) (mvT C.hZ (C.w 66 rfl))) (C.w 66 rfl) (C.w 65 rfl) (C.w 3 rfl) (C.w 67 rfl) (own_len l Z a0 C.ws la lb [60, 33, 45, 45] (4 : Int32) cs fv h47 n0 X56.old E50 F51 F52 A53 rfl hcs S1 hfv S2) (argsL := []) (rest := [(.int (0 : Int32))]) (lenOf pd_8 rfl) rfl (by decide) (by decide) (Nat.le_of_ble_eq_true rfl) (by decide) (by decide) rfl rfl (pc' := 154) rfl d14_151 ?_
  rintro T57 _ _ ⟨rfl, rfl⟩ X58
  show Go p e below _ (T57.setTop (mkF m 154 #[rv a, iv (123 : Int32), un] [(.int (4 : Int32)), (.int (0 : Int32))]))
  refine go_icmp_ne C X58 d14_154 (pc' := 157) (pc2 := 169) rfl (by decide) (by decide) (fun (c154 : ¬ (0 : Int32) = (4 : Int32)) => ?_) (fun (c154 : (0 : Int32) = (4 : Int32)) => False.elim (by first | omega | exact absurd c154 (by decide)))
  exact go_ret0 C X58 d14_169 ⟨rfl, K54, Eq48, Fq480, Fq481, Fq482, Fq483, Fq484, Fq485, Fq486⟩ (by decide) (by decide)
theorem own_warm123_r (l : Launch) (Z : State) (a0 : Array Value) (hw : ∀ d ∈ tables_1, d.before a0 Z = true) (mc ms mt md be : Addr) (cs : Int32) (fv : Value) (k : Int32)  (hE : own_E Z mc ms mt md be cs fv) (hk : 0 ≤ k.toInt ∧ k.toInt < 63): own_RC l Z (mc, 1, 0, 0, k, 0, 0) (123 : Int32) (mc, 1, 0, 0, (k + (1 : Int32)), 0, 0) := fun h n0 a la lb ho ga hS hL n1 n2 => own_warm123 l Z a0 hw a  la lb mc ms mt md be cs fv k h n0 ho hE hk hS ga hL n1 n2
theorem ef_own_m17_27 (m : MethodId) (a : Addr)  : entryFrame m #[(.ref a), (.int (96 : Int32))] 2 = mkF m 0 #[rv a, iv (96 : Int32)] [] := by
  first | (simp [entryFrame, mkF, argsToLocals, Value.category]; done) | rfl
set_option maxRecDepth 65536 in
set_option maxHeartbeats 40000000 in
theorem own_m17_27 (l : Launch) (Z : State) (a0 : Array Value) (hw : ∀ d ∈ tables_1, d.before a0 Z = true) (a : Addr) (mc ms mt md be : Addr) (cs : Int32) (fv : Value) (k : Int32) (h : Heap) (n0 : Nat) (hn0 : Old Z n0 h) (hE : own_E Z mc ms mt md be cs fv) (hk : 0 ≤ k.toInt ∧ k.toInt < 63) (hS : own_F Z h a mc (1 : Int32) (0 : Int64) (0 : Int32) k (0 : Int64) (0 : Int32)) (ga : n0 ≤ a) :
    Con l Z (⟨"com/example/plantilla/plantilla/ScriptText", "readPunctuator", "(C)V"⟩ : MethodName) prog_37_method_11_code 2 none ({ frames := 0, cells := 0, slots := 0, locals := 0 } : Room) #[(.ref a), (.int (96 : Int32))] h n0 (fun v h' => v = none ∧ Keep h h' [a] ∧ own_F Z h' a mt (1 : Int32) (0 : Int64) (0 : Int32) k (0 : Int64) (0 : Int32)) := by
  refine con_of hw (plainFor_of_name pn_com_example_plantilla_plantilla_ScriptText) hn0 ?_
  intro p e s m below meth c T0 C X0
  refine Go.cast (congrArg T0.setTop (ef_own_m17_27 m a)) ?_
  have hE1 := hE
  obtain ⟨SM0, SM1, SM2, SM3, EM0, EM1, EM2, EM3, FM0, FM1, FM2, FM3, SB, AB, hcs, S1, hfv, S2⟩ := hE1
  obtain ⟨E0, FF0, FF1, FF2, FF3, FF4, FF5, FF6⟩ := hS
  refine go_iloadN C X0 1 rfl d17_0 rfl ?_
  refine go_lookHit C X0 d17_1 (by first | decide | (simp; done)) (q := 96) (off := 95) (by first | decide | rfl | (simp; done)) (pc2 := 96) (by decide) (by decide) ?_
  refine go_aloadN C X0 97 rfl d17_96 rfl rfl ?_
  refine go_getS C X0 (C.w 152 rfl) (SM2.ext X0.old.2) (pc' := 100) rfl d17_97 (fun T1 X2 => ?_)
  refine go_putF C X2 (C.w 44 rfl) Via.refl FF0 E0 (Or.inl (C.w 45 rfl)) (C.w 28 rfl) ga (ty := (.object "com/example/plantilla/plantilla/ScriptText$Mode")) (by decide) rfl rfl (pc' := 103) rfl d17_100 (fun T3 h5 W6 X4 => ?_)
  have F7 := FF0.same W6
  have E8 := E0.wr W6
  have F9 := FF1.other W6 (Or.inr (slot_ne (Or.inl (C.w 47 rfl)) (Or.inl (C.w 45 rfl)) (by decide) (t := .boolean) (t' := (.object "com/example/plantilla/plantilla/ScriptText$Mode")) (by decide) (by decide)))
  have F10 := FF2.other W6 (Or.inr (slot_ne (Or.inl (C.w 49 rfl)) (Or.inl (C.w 45 rfl)) (by decide) (t := .long) (t' := (.object "com/example/plantilla/plantilla/ScriptText$Mode")) (by decide) (by decide)))
  have F11 := FF3.other W6 (Or.inr (slot_ne (Or.inl (C.w 51 rfl)) (Or.inl (C.w 45 rfl)) (by decide) (t := .boolean) (t' := (.object "com/example/plantilla/plantilla/ScriptText$Mode")) (by decide) (by decide)))
  have F12 := FF4.other W6 (Or.inr (slot_ne (Or.inl (C.w 53 rfl)) (Or.inl (C.w 45 rfl)) (by decide) (t := .int) (t' := (.object "com/example/plantilla/plantilla/ScriptText$Mode")) (by decide) (by decide)))
  have F13 := FF5.other W6 (Or.inr (slot_ne (Or.inl (C.w 55 rfl)) (Or.inl (C.w 45 rfl)) (by decide) (t := .long) (t' := (.object "com/example/plantilla/plantilla/ScriptText$Mode")) (by decide) (by decide)))
  have F14 := FF6.other W6 (Or.inr (slot_ne (Or.inl (C.w 57 rfl)) (Or.inl (C.w 45 rfl)) (by decide) (t := .int) (t' := (.object "com/example/plantilla/plantilla/ScriptText$Mode")) (by decide) (by decide)))
  have K15 := (Keep.refl h [a]).wr W6 (Or.inl (List.mem_of_getElem? (i := 0) rfl))
  refine go_goto C X4 d17_103 (pc' := 144) (by decide) (by decide) ?_
  exact go_ret0 C X4 d17_144 ⟨rfl, K15, E8, F7, F9, F10, F11, F12, F13, F14⟩ (by decide) (by decide)
theorem ef_own_warm96 (m : MethodId) (a : Addr)  : entryFrame m #[(.ref a), (.int (96 : Int32))] 3 = mkF m 0 #[rv a, iv (96 : Int32), un] [] := by
  first | (simp [entryFrame, mkF, argsToLocals, Value.category]; done) | rfl
set_option maxRecDepth 65536 in
set_option maxHeartbeats 40000000 in
theorem own_warm96 (l : Launch) (Z : State) (a0 : Array Value) (hw : ∀ d ∈ tables_1, d.before a0 Z = true) (a : Addr) (la lb : Addr) (mc ms mt md be : Addr) (cs : Int32) (fv : Value) (k : Int32) (h : Heap) (n0 : Nat) (hn0 : Old Z n0 h) (hE : own_E Z mc ms mt md be cs fv) (hk : 0 ≤ k.toInt ∧ k.toInt < 63) (hS : own_F Z h a mc (1 : Int32) (0 : Int64) (0 : Int32) k (0 : Int64) (0 : Int32)) (ga : n0 ≤ a) (hL : Sg Z h la lb own_LT) (nla : la ≠ a) (nlb : lb ≠ a) :
    ConP l Z (LdV Z "com/example/plantilla/plantilla/ScriptText" 120 la) (⟨"com/example/plantilla/plantilla/ScriptText", "readCode", "(C)V"⟩ : MethodName) prog_37_method_10_code 3 none ({ frames := 3, cells := 0, slots := 0, locals := 60 } : Room) #[(.ref a), (.int (96 : Int32))] h n0 (fun v h' => v = none ∧ Keep h h' [a] ∧ own_F Z h' a mt (1 : Int32) (0 : Int64) (0 : Int32) k (0 : Int64) (0 : Int32)) := by
  refine conP_of hw (plainFor_of_name pn_com_example_plantilla_plantilla_ScriptText) hn0 ?_
  intro p e s m below meth c T0 C hPX X0
  refine Go.cast (congrArg T0.setTop (ef_own_warm96 m a)) ?_
  have hE1 := hE
  obtain ⟨SM0, SM1, SM2, SM3, EM0, EM1, EM2, EM3, FM0, FM1, FM2, FM3, SB, AB, hcs, S1, hfv, S2⟩ := hE1
  obtain ⟨E0, FF0, FF1, FF2, FF3, FF4, FF5, FF6⟩ := hS
  obtain ⟨EL0, GL1, GL2, AL⟩ := hL
  replace AL : La Z h lb .byte (ia [60, 33, 45, 45]) := AL
  refine go_aloadN C X0 1 rfl d14_0 rfl rfl ?_
  refine go_getF C X0 (C.w 56 rfl) Via.refl FF6 (pc' := 4) rfl d14_1 (fun T1 X2 => ?_)
  refine go_if_le C X2 d14_4 (pc' := 7) (pc2 := 33) rfl (by decide) (by decide) (fun (c4 : 0 ≤ 0) => ?_) (fun (c4 : 0 < 0) => False.elim (by first | omega | exact absurd c4 (by decide)))
  refine go_aloadN C X2 34 rfl d14_33 rfl rfl ?_
  refine go_iloadN C X2 35 rfl d14_34 rfl ?_
  refine go_bipush C X2 37 rfl d14_35 (z := 60) rfl ?_
  refine go_icmp_ne C X2 d14_37 (pc' := 40) (pc2 := 44) rfl (by decide) (by decide) (fun (c37 : ¬ (96 : Int32) = (60 : Int32)) => ?_) (fun (c37 : (96 : Int32) = (60 : Int32)) => False.elim (by first | omega | exact absurd c37 (by decide)))
  refine go_iconst C X2 45 rfl d14_44 (z := 0) rfl ?_
  refine go_putF C X2 (C.w 56 rfl) Via.refl FF6 E0 (Or.inl (C.w 57 rfl)) (C.w 28 rfl) ga (ty := .int) (by decide) rfl rfl (pc' := 48) rfl d14_45 (fun T3 h5 W6 X4 => ?_)
  have F7 := FF6.same W6
  have E8 := E0.wr W6
  have F9 := FF0.other W6 (Or.inr (slot_ne (Or.inl (C.w 45 rfl)) (Or.inl (C.w 57 rfl)) (by decide) (t := (.object "com/example/plantilla/plantilla/ScriptText$Mode")) (t' := .int) (by decide) (by decide)))
  have F10 := FF1.other W6 (Or.inr (slot_ne (Or.inl (C.w 47 rfl)) (Or.inl (C.w 57 rfl)) (by decide) (t := .boolean) (t' := .int) (by decide) (by decide)))
  have F11 := FF2.other W6 (Or.inr (slot_ne (Or.inl (C.w 49 rfl)) (Or.inl (C.w 57 rfl)) (by decide) (t := .long) (t' := .int) (by decide) (by decide)))
  have F12 := FF3.other W6 (Or.inr (slot_ne (Or.inl (C.w 51 rfl)) (Or.inl (C.w 57 rfl)) (by decide) (t := .boolean) (t' := .int) (by decide) (by decide)))
  have F13 := FF4.other W6 (Or.inr (slot_ne (Or.inl (C.w 53 rfl)) (Or.inl (C.w 57 rfl)) (by decide) (t := .int) (t' := .int) (by decide) (by decide)))
  have F14 := FF5.other W6 (Or.inr (slot_ne (Or.inl (C.w 55 rfl)) (Or.inl (C.w 57 rfl)) (by decide) (t := .long) (t' := .int) (by decide) (by decide)))
  have E15 := EL0.wr W6
  have F16 := GL1.other W6 (Or.inl nla)
  have F17 := GL2.other W6 (Or.inl nla)
  have A18 := AL.other W6 nlb
  have K19 := (Keep.refl h [a]).wr W6 (Or.inl (List.mem_of_getElem? (i := 0) rfl))
  refine go_iloadN C X4 49 rfl d14_48 rfl ?_
  refine go_callS C X4 (C.w 116 rfl) (C.w 117 rfl) (C.w 29 rfl) (C.w 118 rfl) (own_p15_12 l Z a0 C.ws  h5 n0 X4.old ) (argsL := [(.int (96 : Int32))]) (rest := []) (lenOf pd_6 rfl) rfl (by decide) (by decide) (Nat.le_of_ble_eq_true rfl) (by decide) (by decide) rfl rfl (pc' := 52) rfl d14_49 ?_
  rintro T20 _ _ ⟨rfl, rfl⟩ X21
  show Go p e below _ (T20.setTop (mkF m 52 #[rv a, iv (96 : Int32), un] [(.int (0 : Int32))]))
  refine go_if_eq C X21 d14_52 (pc' := 55) (pc2 := 105) rfl (by decide) (by decide) (fun (c52 : (0 : Int32) = (0 : Int32)) => ?_) (fun (c52 : ¬ (0 : Int32) = (0 : Int32)) => False.elim (by first | omega | exact absurd c52 (by decide)))
  refine go_aloadN C X21 106 rfl d14_105 rfl rfl ?_
  refine go_getF C X21 (C.w 48 rfl) Via.refl F11 (pc' := 109) rfl d14_106 (fun T23 X24 => ?_)
  refine go_lconst C X24 110 rfl d14_109 (z := 0) rfl ?_
  refine go_lif_eq C X24 (pc1 := 111) rfl d14_110 d14_111 (pc' := 114) (pc2 := 128) rfl (by decide) (by decide) (fun (c111 : (0 : Int64) = (0 : Int64)) => ?_) (fun (c111 : ¬ (0 : Int64) = (0 : Int64)) => False.elim (by first | omega | exact absurd c111 (by decide)))
  refine go_aloadN C X24 129 rfl d14_128 rfl rfl ?_
  refine go_lconst C X24 130 rfl d14_129 (z := 0) rfl ?_
  refine go_putF C X24 (C.w 48 rfl) Via.refl F11 E8 (Or.inl (C.w 49 rfl)) (C.w 28 rfl) ga (ty := .long) (by decide) rfl rfl (pc' := 133) rfl d14_130 (fun T25 h27 W28 X26 => ?_)
  have F29 := F11.same W28
  have E30 := E8.wr W28
  have F31 := F9.other W28 (Or.inr (slot_ne (Or.inl (C.w 45 rfl)) (Or.inl (C.w 49 rfl)) (by decide) (t := (.object "com/example/plantilla/plantilla/ScriptText$Mode")) (t' := .long) (by decide) (by decide)))
  have F32 := F10.other W28 (Or.inr (slot_ne (Or.inl (C.w 47 rfl)) (Or.inl (C.w 49 rfl)) (by decide) (t := .boolean) (t' := .long) (by decide) (by decide)))
  have F33 := F12.other W28 (Or.inr (slot_ne (Or.inl (C.w 51 rfl)) (Or.inl (C.w 49 rfl)) (by decide) (t := .boolean) (t' := .long) (by decide) (by decide)))
  have F34 := F13.other W28 (Or.inr (slot_ne (Or.inl (C.w 53 rfl)) (Or.inl (C.w 49 rfl)) (by decide) (t := .int) (t' := .long) (by decide) (by decide)))
  have F35 := F14.other W28 (Or.inr (slot_ne (Or.inl (C.w 55 rfl)) (Or.inl (C.w 49 rfl)) (by decide) (t := .long) (t' := .long) (by decide) (by decide)))
  have F36 := F7.other W28 (Or.inr (slot_ne (Or.inl (C.w 57 rfl)) (Or.inl (C.w 49 rfl)) (by decide) (t := .int) (t' := .long) (by decide) (by decide)))
  have E37 := E15.wr W28
  have F38 := F16.other W28 (Or.inl nla)
  have F39 := F17.other W28 (Or.inl nla)
  have A40 := A18.other W28 nlb
  have K41 := K19.wr W28 (Or.inl (List.mem_of_getElem? (i := 0) rfl))
  refine go_iloadN C X26 134 rfl d14_133 rfl ?_
  refine go_callS C X26 (C.w 119 rfl) (C.w 120 rfl) (C.w 29 rfl) (C.w 121 rfl) (own_p16_13 l Z a0 C.ws  h27 n0 X26.old ) (argsL := [(.int (96 : Int32))]) (rest := []) (lenOf pd_6 rfl) rfl (by decide) (by decide) (Nat.le_of_ble_eq_true rfl) (by decide) (by decide) rfl rfl (pc' := 137) rfl d14_134 ?_
  rintro T42 _ _ ⟨rfl, rfl⟩ X43
  show Go p e below _ (T42.setTop (mkF m 137 #[rv a, iv (96 : Int32), un] [(.int (0 : Int32))]))
  refine go_if_ne C X43 d14_137 (pc' := 140) (pc2 := 145) rfl (by decide) (by decide) (fun (c137 : ¬ (0 : Int32) = (0 : Int32)) => False.elim (by first | omega | exact absurd c137 (by decide))) (fun (c137 : (0 : Int32) = (0 : Int32)) => ?_)
  refine go_aloadN C X43 141 rfl d14_140 rfl rfl ?_
  refine go_iloadN C X43 142 rfl d14_141 rfl ?_
  refine go_private C X43 E30 (C.w 122 rfl) (C.w 123 rfl) (Jvm.Kit.selects_private (by decide) (C.w 28 rfl) (C.w 124 rfl) (C.w 123 rfl)) (C.w 124 rfl) (C.w 29 rfl) (C.w 125 rfl) (own_m17_27 l Z a0 C.ws a mc ms mt md be cs fv k h27 n0 X43.old hE hk ⟨E30, F31, F32, F29, F33, F34, F35, F36⟩ ga) (argsL := [(.int (96 : Int32))]) (rest := []) (lenOf pd_7 rfl) rfl (by decide) (by decide) (Nat.le_of_ble_eq_true rfl) (by decide) (by decide) rfl rfl (pc' := 145) rfl d14_142 ?_
  rintro T45 h47 _ ⟨rfl, Kq48, Eq48, Fq480, Fq481, Fq482, Fq483, Fq484, Fq485, Fq486⟩ X46
  show Go p e below _ (T45.setTop (mkF m 145 #[rv a, iv (96 : Int32), un] []))
  have E49 := E30.keep Kq48
  have E50 := E37.keep Kq48
  have F51 := F38.keep Kq48 (ninS nla nin0)
  have F52 := F39.keep Kq48 (ninS nla nin0)
  have A53 := A40.keep Kq48 (ninS nlb nin0)
  have K54 := K41.trans Kq48 (allS (Or.inl (List.mem_of_getElem? (i := 0) rfl)) all0)
  refine go_aloadN C X46 146 rfl d14_145 rfl rfl ?_
  refine go_getF C X46 (C.w 56 rfl) Via.refl Fq486 (pc' := 149) rfl d14_146 (fun T55 X56 => ?_)
  refine go_ldcL C X56 (C.w 126 rfl) hPX (pc' := 151) rfl d14_149 ?_
  refine go_virtual C X56 E50 (C.w 63 rfl) (C.w 64 rfl) (notFace_of_selects (args := #[]) (mvT C.hZ (C.w 66 rfl))) (C.w 66 rfl) (C.w 65 rfl) (C.w 3 rfl) (C.w 67 rfl) (own_len l Z a0 C.ws la lb [60, 33, 45, 45] (4 : Int32) cs fv h47 n0 X56.old E50 F51 F52 A53 rfl hcs S1 hfv S2) (argsL := []) (rest := [(.int (0 : Int32))]) (lenOf pd_8 rfl) rfl (by decide) (by decide) (Nat.le_of_ble_eq_true rfl) (by decide) (by decide) rfl rfl (pc' := 154) rfl d14_151 ?_
  rintro T57 _ _ ⟨rfl, rfl⟩ X58
  show Go p e below _ (T57.setTop (mkF m 154 #[rv a, iv (96 : Int32), un] [(.int (4 : Int32)), (.int (0 : Int32))]))
  refine go_icmp_ne C X58 d14_154 (pc' := 157) (pc2 := 169) rfl (by decide) (by decide) (fun (c154 : ¬ (0 : Int32) = (4 : Int32)) => ?_) (fun (c154 : (0 : Int32) = (4 : Int32)) => False.elim (by first | omega | exact absurd c154 (by decide)))
  exact go_ret0 C X58 d14_169 ⟨rfl, K54, Eq48, Fq480, Fq481, Fq482, Fq483, Fq484, Fq485, Fq486⟩ (by decide) (by decide)
theorem own_warm96_r (l : Launch) (Z : State) (a0 : Array Value) (hw : ∀ d ∈ tables_1, d.before a0 Z = true) (mc ms mt md be : Addr) (cs : Int32) (fv : Value) (k : Int32)  (hE : own_E Z mc ms mt md be cs fv) (hk : 0 ≤ k.toInt ∧ k.toInt < 63): own_RC l Z (mc, 1, 0, 0, k, 0, 0) (96 : Int32) (mt, 1, 0, 0, k, 0, 0) := fun h n0 a la lb ho ga hS hL n1 n2 => own_warm96 l Z a0 hw a  la lb mc ms mt md be cs fv k h n0 ho hE hk hS ga hL n1 n2
theorem ef_own_warmL (m : MethodId) (a : Addr) (cc : Int32)  : entryFrame m #[(.ref a), (.int cc)] 3 = mkF m 0 #[rv a, iv cc, un] [] := by
  first | (simp [entryFrame, mkF, argsToLocals, Value.category]; done) | rfl
set_option maxRecDepth 65536 in
set_option maxHeartbeats 40000000 in
theorem own_warmL (l : Launch) (Z : State) (a0 : Array Value) (hw : ∀ d ∈ tables_1, d.before a0 Z = true) (a : Addr) (cc : Int32) (la lb : Addr) (mc ms mt md be : Addr) (cs : Int32) (fv : Value) (w : Int64) (h : Heap) (n0 : Nat) (hn0 : Old Z n0 h) (hE : own_E Z mc ms mt md be cs fv) (hw0 : ¬ w = -1) (hw1 : w.toInt < 18014398509481984) (hc : 97 ≤ cc.toInt ∧ cc.toInt ≤ 122) (hS : own_F Z h a mc (1 : Int32) w (0 : Int32) (0 : Int32) (0 : Int64) (0 : Int32)) (ga : n0 ≤ a) (hL : Sg Z h la lb own_LT) (nla : la ≠ a) (nlb : lb ≠ a) :
    ConP l Z (LdV Z "com/example/plantilla/plantilla/ScriptText" 120 la) (⟨"com/example/plantilla/plantilla/ScriptText", "readCode", "(C)V"⟩ : MethodName) prog_37_method_10_code 3 none ({ frames := 3, cells := 0, slots := 0, locals := 60 } : Room) #[(.ref a), (.int cc)] h n0 (fun v h' => v = none ∧ Keep h h' [a] ∧ own_F Z h' a mc (1 : Int32) (own_ap w cc) (0 : Int32) (0 : Int32) (0 : Int64) (0 : Int32)) := by
  refine conP_of hw (plainFor_of_name pn_com_example_plantilla_plantilla_ScriptText) hn0 ?_
  intro p e s m below meth c T0 C hPX X0
  refine Go.cast (congrArg T0.setTop (ef_own_warmL m a cc)) ?_
  have hE1 := hE
  obtain ⟨SM0, SM1, SM2, SM3, EM0, EM1, EM2, EM3, FM0, FM1, FM2, FM3, SB, AB, hcs, S1, hfv, S2⟩ := hE1
  obtain ⟨E0, FF0, FF1, FF2, FF3, FF4, FF5, FF6⟩ := hS
  obtain ⟨EL0, GL1, GL2, AL⟩ := hL
  replace AL : La Z h lb .byte (ia [60, 33, 45, 45]) := AL
  refine go_aloadN C X0 1 rfl d14_0 rfl rfl ?_
  refine go_getF C X0 (C.w 56 rfl) Via.refl FF6 (pc' := 4) rfl d14_1 (fun T1 X2 => ?_)
  refine go_if_le C X2 d14_4 (pc' := 7) (pc2 := 33) rfl (by decide) (by decide) (fun (c4 : 0 ≤ 0) => ?_) (fun (c4 : 0 < 0) => False.elim (by first | omega | exact absurd c4 (by decide)))
  refine go_aloadN C X2 34 rfl d14_33 rfl rfl ?_
  refine go_iloadN C X2 35 rfl d14_34 rfl ?_
  refine go_bipush C X2 37 rfl d14_35 (z := 60) rfl ?_
  refine go_icmp_ne C X2 d14_37 (pc' := 40) (pc2 := 44) rfl (by decide) (by decide) (fun (c37 : ¬ cc = (60 : Int32)) => ?_) (fun (c37 : cc = (60 : Int32)) => False.elim (own_60 hc c37))
  refine go_iconst C X2 45 rfl d14_44 (z := 0) rfl ?_
  refine go_putF C X2 (C.w 56 rfl) Via.refl FF6 E0 (Or.inl (C.w 57 rfl)) (C.w 28 rfl) ga (ty := .int) (by decide) rfl rfl (pc' := 48) rfl d14_45 (fun T3 h5 W6 X4 => ?_)
  have F7 := FF6.same W6
  have E8 := E0.wr W6
  have F9 := FF0.other W6 (Or.inr (slot_ne (Or.inl (C.w 45 rfl)) (Or.inl (C.w 57 rfl)) (by decide) (t := (.object "com/example/plantilla/plantilla/ScriptText$Mode")) (t' := .int) (by decide) (by decide)))
  have F10 := FF1.other W6 (Or.inr (slot_ne (Or.inl (C.w 47 rfl)) (Or.inl (C.w 57 rfl)) (by decide) (t := .boolean) (t' := .int) (by decide) (by decide)))
  have F11 := FF2.other W6 (Or.inr (slot_ne (Or.inl (C.w 49 rfl)) (Or.inl (C.w 57 rfl)) (by decide) (t := .long) (t' := .int) (by decide) (by decide)))
  have F12 := FF3.other W6 (Or.inr (slot_ne (Or.inl (C.w 51 rfl)) (Or.inl (C.w 57 rfl)) (by decide) (t := .boolean) (t' := .int) (by decide) (by decide)))
  have F13 := FF4.other W6 (Or.inr (slot_ne (Or.inl (C.w 53 rfl)) (Or.inl (C.w 57 rfl)) (by decide) (t := .int) (t' := .int) (by decide) (by decide)))
  have F14 := FF5.other W6 (Or.inr (slot_ne (Or.inl (C.w 55 rfl)) (Or.inl (C.w 57 rfl)) (by decide) (t := .long) (t' := .int) (by decide) (by decide)))
  have E15 := EL0.wr W6
  have F16 := GL1.other W6 (Or.inl nla)
  have F17 := GL2.other W6 (Or.inl nla)
  have A18 := AL.other W6 nlb
  have K19 := (Keep.refl h [a]).wr W6 (Or.inl (List.mem_of_getElem? (i := 0) rfl))
  refine go_iloadN C X4 49 rfl d14_48 rfl ?_
  refine go_callS C X4 (C.w 116 rfl) (C.w 117 rfl) (C.w 29 rfl) (C.w 118 rfl) (own_p15_24 l Z a0 C.ws cc h5 n0 X4.old hc) (argsL := [(.int cc)]) (rest := []) (lenOf pd_6 rfl) rfl (by decide) (by decide) (Nat.le_of_ble_eq_true rfl) (by decide) (by decide) rfl rfl (pc' := 52) rfl d14_49 ?_
  rintro T20 _ _ ⟨rfl, rfl⟩ X21
  show Go p e below _ (T20.setTop (mkF m 52 #[rv a, iv cc, un] [(.int (1 : Int32))]))
  refine go_if_eq C X21 d14_52 (pc' := 55) (pc2 := 105) rfl (by decide) (by decide) (fun (c52 : (1 : Int32) = (0 : Int32)) => False.elim (by first | omega | exact absurd c52 (by decide))) (fun (c52 : ¬ (1 : Int32) = (0 : Int32)) => ?_)
  refine go_iloadN C X21 56 rfl d14_55 rfl ?_
  refine go_sipush C X21 59 rfl d14_56 (z := 128) rfl ?_
  refine go_icmp_ge C X21 d14_59 (pc' := 62) (pc2 := 78) rfl (by decide) (by decide) (fun (c59 : 128 ≤ cc.toInt) => False.elim (by omega)) (fun (c59 : cc.toInt < 128) => ?_)
  refine go_iloadN C X21 63 rfl d14_62 rfl ?_
  refine go_bipush C X21 65 rfl d14_63 (z := 65) rfl ?_
  refine go_icmp_lt C X21 d14_65 (pc' := 68) (pc2 := 74) rfl (by decide) (by decide) (fun (c65 : cc.toInt < 65) => False.elim (by omega)) (fun (c65 : 65 ≤ cc.toInt) => ?_)
  refine go_iloadN C X21 69 rfl d14_68 rfl ?_
  refine go_bipush C X21 71 rfl d14_69 (z := 90) rfl ?_
  refine go_icmp_le C X21 d14_71 (pc' := 74) (pc2 := 78) rfl (by decide) (by decide) (fun (c71 : cc.toInt ≤ 90) => False.elim (by omega)) (fun (c71 : 90 < cc.toInt) => ?_)
  refine go_iconst C X21 75 rfl d14_74 (z := 1) rfl ?_
  refine go_goto C X21 d14_75 (pc' := 79) (by decide) (by decide) ?_
  refine go_istoreN C X21 80 rfl d14_79 #[rv a, iv cc, iv (1 : Int32)] rfl ?_
  refine go_aloadN C X21 81 rfl d14_80 rfl rfl ?_
  refine go_iloadN C X21 82 rfl d14_81 rfl ?_
  refine go_if_eq C X21 d14_82 (pc' := 85) (pc2 := 96) rfl (by decide) (by decide) (fun (c82 : (1 : Int32) = (0 : Int32)) => False.elim (by first | omega | exact absurd c82 (by decide))) (fun (c82 : ¬ (1 : Int32) = (0 : Int32)) => ?_)
  refine go_aloadN C X21 86 rfl d14_85 rfl rfl ?_
  refine go_getF C X21 (C.w 48 rfl) Via.refl F11 (pc' := 89) rfl d14_86 (fun T23 X24 => ?_)
  refine go_iloadN C X24 90 rfl d14_89 rfl ?_
  refine go_callS C X24 (C.w 138 rfl) (C.w 139 rfl) (C.w 140 rfl) (C.w 141 rfl) (own_app l Z a0 C.ws w cc h5 n0 X24.old hw0 hw1 hc) (argsL := [(.long w), (.int cc)]) (rest := [(.ref a)]) (lenOf pd_11 rfl) rfl (by decide) (by decide) (Nat.le_of_ble_eq_true rfl) (by decide) (by decide) rfl rfl (pc' := 93) rfl d14_90 ?_
  rintro T25 _ _ ⟨rfl, rfl⟩ X26
  show Go p e below _ (T25.setTop (mkF m 93 #[rv a, iv cc, iv (1 : Int32)] [(.long (own_ap w cc)), (.ref a)]))
  refine go_goto C X26 d14_93 (pc' := 99) (by decide) (by decide) ?_
  refine go_putF C X26 (C.w 48 rfl) Via.refl F11 E8 (Or.inl (C.w 49 rfl)) (C.w 28 rfl) ga (ty := .long) (by decide) rfl rfl (pc' := 102) rfl d14_99 (fun T28 h30 W31 X29 => ?_)
  have F32 := F11.same W31
  have E33 := E8.wr W31
  have F34 := F9.other W31 (Or.inr (slot_ne (Or.inl (C.w 45 rfl)) (Or.inl (C.w 49 rfl)) (by decide) (t := (.object "com/example/plantilla/plantilla/ScriptText$Mode")) (t' := .long) (by decide) (by decide)))
  have F35 := F10.other W31 (Or.inr (slot_ne (Or.inl (C.w 47 rfl)) (Or.inl (C.w 49 rfl)) (by decide) (t := .boolean) (t' := .long) (by decide) (by decide)))
  have F36 := F12.other W31 (Or.inr (slot_ne (Or.inl (C.w 51 rfl)) (Or.inl (C.w 49 rfl)) (by decide) (t := .boolean) (t' := .long) (by decide) (by decide)))
  have F37 := F13.other W31 (Or.inr (slot_ne (Or.inl (C.w 53 rfl)) (Or.inl (C.w 49 rfl)) (by decide) (t := .int) (t' := .long) (by decide) (by decide)))
  have F38 := F14.other W31 (Or.inr (slot_ne (Or.inl (C.w 55 rfl)) (Or.inl (C.w 49 rfl)) (by decide) (t := .long) (t' := .long) (by decide) (by decide)))
  have F39 := F7.other W31 (Or.inr (slot_ne (Or.inl (C.w 57 rfl)) (Or.inl (C.w 49 rfl)) (by decide) (t := .int) (t' := .long) (by decide) (by decide)))
  have E40 := E15.wr W31
  have F41 := F16.other W31 (Or.inl nla)
  have F42 := F17.other W31 (Or.inl nla)
  have A43 := A18.other W31 nlb
  have K44 := K19.wr W31 (Or.inl (List.mem_of_getElem? (i := 0) rfl))
  refine go_goto C X29 d14_102 (pc' := 145) (by decide) (by decide) ?_
  refine go_aloadN C X29 146 rfl d14_145 rfl rfl ?_
  refine go_getF C X29 (C.w 56 rfl) Via.refl F39 (pc' := 149) rfl d14_146 (fun T45 X46 => ?_)
  refine go_ldcL C X46 (C.w 126 rfl) hPX (pc' := 151) rfl d14_149 ?_
  refine go_virtual C X46 E40 (C.w 63 rfl) (C.w 64 rfl) (notFace_of_selects (args := #[]) (mvT C.hZ (C.w 66 rfl))) (C.w 66 rfl) (C.w 65 rfl) (C.w 3 rfl) (C.w 67 rfl) (own_len l Z a0 C.ws la lb [60, 33, 45, 45] (4 : Int32) cs fv h30 n0 X46.old E40 F41 F42 A43 rfl hcs S1 hfv S2) (argsL := []) (rest := [(.int (0 : Int32))]) (lenOf pd_8 rfl) rfl (by decide) (by decide) (Nat.le_of_ble_eq_true rfl) (by decide) (by decide) rfl rfl (pc' := 154) rfl d14_151 ?_
  rintro T47 _ _ ⟨rfl, rfl⟩ X48
  show Go p e below _ (T47.setTop (mkF m 154 #[rv a, iv cc, iv (1 : Int32)] [(.int (4 : Int32)), (.int (0 : Int32))]))
  refine go_icmp_ne C X48 d14_154 (pc' := 157) (pc2 := 169) rfl (by decide) (by decide) (fun (c154 : ¬ (0 : Int32) = (4 : Int32)) => ?_) (fun (c154 : (0 : Int32) = (4 : Int32)) => False.elim (by first | omega | exact absurd c154 (by decide)))
  exact go_ret0 C X48 d14_169 ⟨rfl, K44, E33, F34, F35, F32, F36, F37, F38, F39⟩ (by decide) (by decide)
theorem own_warmL_r (l : Launch) (Z : State) (a0 : Array Value) (hw : ∀ d ∈ tables_1, d.before a0 Z = true) (mc ms mt md be : Addr) (cs : Int32) (fv : Value) (w : Int64) (cc : Int32)  (hE : own_E Z mc ms mt md be cs fv) (hw0 : ¬ w = -1) (hw1 : w.toInt < 18014398509481984) (hc : 97 ≤ cc.toInt ∧ cc.toInt ≤ 122): own_RC l Z (mc, 1, w, 0, 0, 0, 0) cc (mc, 1, (own_ap w cc), 0, 0, 0, 0) := fun h n0 a la lb ho ga hS hL n1 n2 => own_warmL l Z a0 hw a cc la lb mc ms mt md be cs fv w h n0 ho hE hw0 hw1 hc hS ga hL n1 n2
theorem d14_114 : decode prog_37_method_10_code 114 = .ok (.aload_n 0, 1) := by decide +kernel
theorem d14_115 : decode prog_37_method_10_code 115 = .ok (.aload_n 0, 1) := by decide +kernel
theorem d14_116 : decode prog_37_method_10_code 116 = .ok (.getfield 33, 3) := by decide +kernel
theorem d14_119 : decode prog_37_method_10_code 119 = .ok (.getstatic 131, 3) := by decide +kernel
theorem pd_12 : parseMethodDescriptor "(J[J)Z" = some ⟨[.long, (.array .long)], some .boolean⟩ := by decide +kernel
theorem d14_122 : decode prog_37_method_10_code 122 = .ok (.invokestatic 135, 3) := by decide +kernel
theorem d14_125 : decode prog_37_method_10_code 125 = .ok (.putfield 27, 3) := by decide +kernel
theorem ef_own_warm32 (m : MethodId) (a : Addr)  : entryFrame m #[(.ref a), (.int (32 : Int32))] 3 = mkF m 0 #[rv a, iv (32 : Int32), un] [] := by
  first | (simp [entryFrame, mkF, argsToLocals, Value.category]; done) | rfl
set_option maxRecDepth 65536 in
set_option maxHeartbeats 40000000 in
theorem own_warm32 (l : Launch) (Z : State) (a0 : Array Value) (hw : ∀ d ∈ tables_1, d.before a0 Z = true) (a : Addr) (la lb : Addr) (mc ms mt md be : Addr) (cs : Int32) (fv : Value)  (h : Heap) (n0 : Nat) (hn0 : Old Z n0 h) (hE : own_E Z mc ms mt md be cs fv)  (hS : own_F Z h a mc (1 : Int32) (1 : Int64) (0 : Int32) (0 : Int32) (0 : Int64) (0 : Int32)) (ga : n0 ≤ a) (hL : Sg Z h la lb own_LT) (nla : la ≠ a) (nlb : lb ≠ a) :
    ConP l Z (LdV Z "com/example/plantilla/plantilla/ScriptText" 120 la) (⟨"com/example/plantilla/plantilla/ScriptText", "readCode", "(C)V"⟩ : MethodName) prog_37_method_10_code 3 none ({ frames := 3, cells := 0, slots := 0, locals := 60 } : Room) #[(.ref a), (.int (32 : Int32))] h n0 (fun v h' => v = none ∧ Keep h h' [a] ∧ own_F Z h' a mc (0 : Int32) (0 : Int64) (0 : Int32) (0 : Int32) (0 : Int64) (0 : Int32)) := by
  refine conP_of hw (plainFor_of_name pn_com_example_plantilla_plantilla_ScriptText) hn0 ?_
  intro p e s m below meth c T0 C hPX X0
  refine Go.cast (congrArg T0.setTop (ef_own_warm32 m a)) ?_
  have hE1 := hE
  obtain ⟨SM0, SM1, SM2, SM3, EM0, EM1, EM2, EM3, FM0, FM1, FM2, FM3, SB, AB, hcs, S1, hfv, S2⟩ := hE1
  obtain ⟨E0, FF0, FF1, FF2, FF3, FF4, FF5, FF6⟩ := hS
  obtain ⟨EL0, GL1, GL2, AL⟩ := hL
  replace AL : La Z h lb .byte (ia [60, 33, 45, 45]) := AL
  refine go_aloadN C X0 1 rfl d14_0 rfl rfl ?_
  refine go_getF C X0 (C.w 56 rfl) Via.refl FF6 (pc' := 4) rfl d14_1 (fun T1 X2 => ?_)
  refine go_if_le C X2 d14_4 (pc' := 7) (pc2 := 33) rfl (by decide) (by decide) (fun (c4 : 0 ≤ 0) => ?_) (fun (c4 : 0 < 0) => False.elim (by first | omega | exact absurd c4 (by decide)))
  refine go_aloadN C X2 34 rfl d14_33 rfl rfl ?_
  refine go_iloadN C X2 35 rfl d14_34 rfl ?_
  refine go_bipush C X2 37 rfl d14_35 (z := 60) rfl ?_
  refine go_icmp_ne C X2 d14_37 (pc' := 40) (pc2 := 44) rfl (by decide) (by decide) (fun (c37 : ¬ (32 : Int32) = (60 : Int32)) => ?_) (fun (c37 : (32 : Int32) = (60 : Int32)) => False.elim (by first | omega | exact absurd c37 (by decide)))
  refine go_iconst C X2 45 rfl d14_44 (z := 0) rfl ?_
  refine go_putF C X2 (C.w 56 rfl) Via.refl FF6 E0 (Or.inl (C.w 57 rfl)) (C.w 28 rfl) ga (ty := .int) (by decide) rfl rfl (pc' := 48) rfl d14_45 (fun T3 h5 W6 X4 => ?_)
  have F7 := FF6.same W6
  have E8 := E0.wr W6
  have F9 := FF0.other W6 (Or.inr (slot_ne (Or.inl (C.w 45 rfl)) (Or.inl (C.w 57 rfl)) (by decide) (t := (.object "com/example/plantilla/plantilla/ScriptText$Mode")) (t' := .int) (by decide) (by decide)))
  have F10 := FF1.other W6 (Or.inr (slot_ne (Or.inl (C.w 47 rfl)) (Or.inl (C.w 57 rfl)) (by decide) (t := .boolean) (t' := .int) (by decide) (by decide)))
  have F11 := FF2.other W6 (Or.inr (slot_ne (Or.inl (C.w 49 rfl)) (Or.inl (C.w 57 rfl)) (by decide) (t := .long) (t' := .int) (by decide) (by decide)))
  have F12 := FF3.other W6 (Or.inr (slot_ne (Or.inl (C.w 51 rfl)) (Or.inl (C.w 57 rfl)) (by decide) (t := .boolean) (t' := .int) (by decide) (by decide)))
  have F13 := FF4.other W6 (Or.inr (slot_ne (Or.inl (C.w 53 rfl)) (Or.inl (C.w 57 rfl)) (by decide) (t := .int) (t' := .int) (by decide) (by decide)))
  have F14 := FF5.other W6 (Or.inr (slot_ne (Or.inl (C.w 55 rfl)) (Or.inl (C.w 57 rfl)) (by decide) (t := .long) (t' := .int) (by decide) (by decide)))
  have E15 := EL0.wr W6
  have F16 := GL1.other W6 (Or.inl nla)
  have F17 := GL2.other W6 (Or.inl nla)
  have A18 := AL.other W6 nlb
  have K19 := (Keep.refl h [a]).wr W6 (Or.inl (List.mem_of_getElem? (i := 0) rfl))
  refine go_iloadN C X4 49 rfl d14_48 rfl ?_
  refine go_callS C X4 (C.w 116 rfl) (C.w 117 rfl) (C.w 29 rfl) (C.w 118 rfl) (own_p15_22 l Z a0 C.ws  h5 n0 X4.old ) (argsL := [(.int (32 : Int32))]) (rest := []) (lenOf pd_6 rfl) rfl (by decide) (by decide) (Nat.le_of_ble_eq_true rfl) (by decide) (by decide) rfl rfl (pc' := 52) rfl d14_49 ?_
  rintro T20 _ _ ⟨rfl, rfl⟩ X21
  show Go p e below _ (T20.setTop (mkF m 52 #[rv a, iv (32 : Int32), un] [(.int (0 : Int32))]))
  refine go_if_eq C X21 d14_52 (pc' := 55) (pc2 := 105) rfl (by decide) (by decide) (fun (c52 : (0 : Int32) = (0 : Int32)) => ?_) (fun (c52 : ¬ (0 : Int32) = (0 : Int32)) => False.elim (by first | omega | exact absurd c52 (by decide)))
  refine go_aloadN C X21 106 rfl d14_105 rfl rfl ?_
  refine go_getF C X21 (C.w 48 rfl) Via.refl F11 (pc' := 109) rfl d14_106 (fun T23 X24 => ?_)
  refine go_lconst C X24 110 rfl d14_109 (z := 0) rfl ?_
  refine go_lif_eq C X24 (pc1 := 111) rfl d14_110 d14_111 (pc' := 114) (pc2 := 128) rfl (by decide) (by decide) (fun (c111 : (1 : Int64) = (0 : Int64)) => False.elim (by first | omega | exact absurd c111 (by decide))) (fun (c111 : ¬ (1 : Int64) = (0 : Int64)) => ?_)
  refine go_aloadN C X24 115 rfl d14_114 rfl rfl ?_
  refine go_aloadN C X24 116 rfl d14_115 rfl rfl ?_
  refine go_getF C X24 (C.w 48 rfl) Via.refl F11 (pc' := 119) rfl d14_116 (fun T25 X26 => ?_)
  refine go_getS C X26 (C.w 147 rfl) (SB.ext X26.old.2) (pc' := 122) rfl d14_119 (fun T27 X28 => ?_)
  refine go_callS C X28 (C.w 149 rfl) (C.w 150 rfl) (C.w 140 rfl) (C.w 151 rfl) (own_one l Z a0 C.ws be h5 n0 X28.old (AB.ext X28.old.2)) (argsL := [(.long (1 : Int64)), (.ref be)]) (rest := [(.ref a)]) (lenOf pd_12 rfl) rfl (by decide) (by decide) (Nat.le_of_ble_eq_true rfl) (by decide) (by decide) rfl rfl (pc' := 125) rfl d14_122 ?_
  rintro T29 _ _ ⟨rfl, rfl⟩ X30
  show Go p e below _ (T29.setTop (mkF m 125 #[rv a, iv (32 : Int32), un] [(.int (0 : Int32)), (.ref a)]))
  refine go_putFN C X30 (C.w 46 rfl) Via.refl F10 E8 (Or.inl (C.w 47 rfl)) (C.w 28 rfl) ga (ty := .boolean) (by decide) (v' := (.int (0 : Int32))) rfl rfl (pc' := 128) rfl d14_125 (fun T32 h34 W35 X33 => ?_)
  have F36 := F10.same W35
  have E37 := E8.wr W35
  have F38 := F9.other W35 (Or.inr (slot_ne (Or.inl (C.w 45 rfl)) (Or.inl (C.w 47 rfl)) (by decide) (t := (.object "com/example/plantilla/plantilla/ScriptText$Mode")) (t' := .boolean) (by decide) (by decide)))
  have F39 := F11.other W35 (Or.inr (slot_ne (Or.inl (C.w 49 rfl)) (Or.inl (C.w 47 rfl)) (by decide) (t := .long) (t' := .boolean) (by decide) (by decide)))
  have F40 := F12.other W35 (Or.inr (slot_ne (Or.inl (C.w 51 rfl)) (Or.inl (C.w 47 rfl)) (by decide) (t := .boolean) (t' := .boolean) (by decide) (by decide)))
  have F41 := F13.other W35 (Or.inr (slot_ne (Or.inl (C.w 53 rfl)) (Or.inl (C.w 47 rfl)) (by decide) (t := .int) (t' := .boolean) (by decide) (by decide)))
  have F42 := F14.other W35 (Or.inr (slot_ne (Or.inl (C.w 55 rfl)) (Or.inl (C.w 47 rfl)) (by decide) (t := .long) (t' := .boolean) (by decide) (by decide)))
  have F43 := F7.other W35 (Or.inr (slot_ne (Or.inl (C.w 57 rfl)) (Or.inl (C.w 47 rfl)) (by decide) (t := .int) (t' := .boolean) (by decide) (by decide)))
  have E44 := E15.wr W35
  have F45 := F16.other W35 (Or.inl nla)
  have F46 := F17.other W35 (Or.inl nla)
  have A47 := A18.other W35 nlb
  have K48 := K19.wr W35 (Or.inl (List.mem_of_getElem? (i := 0) rfl))
  refine go_aloadN C X33 129 rfl d14_128 rfl rfl ?_
  refine go_lconst C X33 130 rfl d14_129 (z := 0) rfl ?_
  refine go_putF C X33 (C.w 48 rfl) Via.refl F39 E37 (Or.inl (C.w 49 rfl)) (C.w 28 rfl) ga (ty := .long) (by decide) rfl rfl (pc' := 133) rfl d14_130 (fun T49 h51 W52 X50 => ?_)
  have F53 := F39.same W52
  have E54 := E37.wr W52
  have F55 := F38.other W52 (Or.inr (slot_ne (Or.inl (C.w 45 rfl)) (Or.inl (C.w 49 rfl)) (by decide) (t := (.object "com/example/plantilla/plantilla/ScriptText$Mode")) (t' := .long) (by decide) (by decide)))
  have F56 := F36.other W52 (Or.inr (slot_ne (Or.inl (C.w 47 rfl)) (Or.inl (C.w 49 rfl)) (by decide) (t := .boolean) (t' := .long) (by decide) (by decide)))
  have F57 := F40.other W52 (Or.inr (slot_ne (Or.inl (C.w 51 rfl)) (Or.inl (C.w 49 rfl)) (by decide) (t := .boolean) (t' := .long) (by decide) (by decide)))
  have F58 := F41.other W52 (Or.inr (slot_ne (Or.inl (C.w 53 rfl)) (Or.inl (C.w 49 rfl)) (by decide) (t := .int) (t' := .long) (by decide) (by decide)))
  have F59 := F42.other W52 (Or.inr (slot_ne (Or.inl (C.w 55 rfl)) (Or.inl (C.w 49 rfl)) (by decide) (t := .long) (t' := .long) (by decide) (by decide)))
  have F60 := F43.other W52 (Or.inr (slot_ne (Or.inl (C.w 57 rfl)) (Or.inl (C.w 49 rfl)) (by decide) (t := .int) (t' := .long) (by decide) (by decide)))
  have E61 := E44.wr W52
  have F62 := F45.other W52 (Or.inl nla)
  have F63 := F46.other W52 (Or.inl nla)
  have A64 := A47.other W52 nlb
  have K65 := K48.wr W52 (Or.inl (List.mem_of_getElem? (i := 0) rfl))
  refine go_iloadN C X50 134 rfl d14_133 rfl ?_
  refine go_callS C X50 (C.w 119 rfl) (C.w 120 rfl) (C.w 29 rfl) (C.w 121 rfl) (own_p16_23 l Z a0 C.ws  h51 n0 X50.old ) (argsL := [(.int (32 : Int32))]) (rest := []) (lenOf pd_6 rfl) rfl (by decide) (by decide) (Nat.le_of_ble_eq_true rfl) (by decide) (by decide) rfl rfl (pc' := 137) rfl d14_134 ?_
  rintro T66 _ _ ⟨rfl, rfl⟩ X67
  show Go p e below _ (T66.setTop (mkF m 137 #[rv a, iv (32 : Int32), un] [(.int (1 : Int32))]))
  refine go_if_ne C X67 d14_137 (pc' := 140) (pc2 := 145) rfl (by decide) (by decide) (fun (c137 : ¬ (1 : Int32) = (0 : Int32)) => ?_) (fun (c137 : (1 : Int32) = (0 : Int32)) => False.elim (by first | omega | exact absurd c137 (by decide)))
  refine go_aloadN C X67 146 rfl d14_145 rfl rfl ?_
  refine go_getF C X67 (C.w 56 rfl) Via.refl F60 (pc' := 149) rfl d14_146 (fun T69 X70 => ?_)
  refine go_ldcL C X70 (C.w 126 rfl) hPX (pc' := 151) rfl d14_149 ?_
  refine go_virtual C X70 E61 (C.w 63 rfl) (C.w 64 rfl) (notFace_of_selects (args := #[]) (mvT C.hZ (C.w 66 rfl))) (C.w 66 rfl) (C.w 65 rfl) (C.w 3 rfl) (C.w 67 rfl) (own_len l Z a0 C.ws la lb [60, 33, 45, 45] (4 : Int32) cs fv h51 n0 X70.old E61 F62 F63 A64 rfl hcs S1 hfv S2) (argsL := []) (rest := [(.int (0 : Int32))]) (lenOf pd_8 rfl) rfl (by decide) (by decide) (Nat.le_of_ble_eq_true rfl) (by decide) (by decide) rfl rfl (pc' := 154) rfl d14_151 ?_
  rintro T71 _ _ ⟨rfl, rfl⟩ X72
  show Go p e below _ (T71.setTop (mkF m 154 #[rv a, iv (32 : Int32), un] [(.int (4 : Int32)), (.int (0 : Int32))]))
  refine go_icmp_ne C X72 d14_154 (pc' := 157) (pc2 := 169) rfl (by decide) (by decide) (fun (c154 : ¬ (0 : Int32) = (4 : Int32)) => ?_) (fun (c154 : (0 : Int32) = (4 : Int32)) => False.elim (by first | omega | exact absurd c154 (by decide)))
  exact go_ret0 C X72 d14_169 ⟨rfl, K65, E54, F55, F56, F53, F57, F58, F59, F60⟩ (by decide) (by decide)
theorem own_warm32_r (l : Launch) (Z : State) (a0 : Array Value) (hw : ∀ d ∈ tables_1, d.before a0 Z = true) (mc ms mt md be : Addr) (cs : Int32) (fv : Value)   (hE : own_E Z mc ms mt md be cs fv) : own_RC l Z (mc, 1, 1, 0, 0, 0, 0) (32 : Int32) (mc, 0, 0, 0, 0, 0, 0) := fun h n0 a la lb ho ga hS hL n1 n2 => own_warm32 l Z a0 hw a  la lb mc ms mt md be cs fv  h n0 ho hE  hS ga hL n1 n2
theorem d12_0 : decode prog_37_method_9_code 0 = .ok (.aload_n 0, 1) := by decide +kernel
theorem d12_1 : decode prog_37_method_9_code 1 = .ok (.getfield 24, 3) := by decide +kernel
theorem d12_4 : decode prog_37_method_9_code 4 = .ok (.invokevirtual 74, 3) := by decide +kernel
theorem d12_7 : decode prog_37_method_9_code 7 = .ok (.tableswitch 150 0 11 #[61, 69, 77, 77, 85, 93, 101, 101, 109, 132, 132, 140], 61) := by decide +kernel
theorem d12_68 : decode prog_37_method_9_code 68 = .ok (.aload_n 0, 1) := by decide +kernel
theorem d12_69 : decode prog_37_method_9_code 69 = .ok (.iload_n 1, 1) := by decide +kernel
theorem d12_70 : decode prog_37_method_9_code 70 = .ok (.invokevirtual 77, 3) := by decide +kernel
theorem d12_73 : decode prog_37_method_9_code 73 = .ok (.goto 104, 3) := by decide +kernel
theorem d12_177 : decode prog_37_method_9_code 177 = .ok (.return_, 1) := by decide +kernel
theorem ef_own_rdcX (m : MethodId) (a : Addr) (ch : Int32)  : entryFrame m #[(.ref a), (.int ch)] 2 = mkF m 0 #[rv a, iv ch] [] := by
  first | (simp [entryFrame, mkF, argsToLocals, Value.category]; done) | rfl
set_option maxRecDepth 65536 in
set_option maxHeartbeats 40000000 in
theorem own_rdcX (l : Launch) (Z : State) (a0 : Array Value) (hw : ∀ d ∈ tables_1, d.before a0 Z = true) (a : Addr) (ch : Int32) (mc ms mt md be : Addr) (cs : Int32) (fv : Value) (qr : own_Sr) (q' : own_Sv) (h : Heap) (n0 : Nat) (hn0 : Old Z n0 h) (hEL : EW Z a0 consts_1) (hE : own_E Z mc ms mt md be cs fv) (hRC : own_RCX l Z (mc, qr) ch q') (hS : own_S Z h a (mc, qr)) (ga : n0 ≤ a) :
    ConX l Z consts_1 (fun _ => True) (⟨"com/example/plantilla/plantilla/ScriptText", "read", "(C)V"⟩ : MethodName) prog_37_method_9_code 2 none ({ frames := 4, cells := 2, slots := 20, locals := 90 } : Room) #[(.ref a), (.int ch)] h n0 (fun v h' vm' => v = none ∧ Keep h h' [a] ∧ own_S Z h' a q' ∧ ∃ la lb : Addr, LdV Z "com/example/plantilla/plantilla/ScriptText" 120 la vm' ∧ Sg Z h' la lb own_LT ∧ la ≠ a ∧ lb ≠ a) := by
  refine conX_of hw (plainFor_of_name pn_com_example_plantilla_plantilla_ScriptText) hn0 ?_
  intro p e sv0 s m below meth c T0 C _ WI0 X0
  refine Go.cast (congrArg T0.setTop (ef_own_rdcX m a ch)) ?_
  have hE1 := hE
  obtain ⟨SM0, SM1, SM2, SM3, EM0, EM1, EM2, EM3, FM0, FM1, FM2, FM3, SB, AB, hcs, S1, hfv, S2⟩ := hE1
  have E0 := hS.1
  have FF0 : Fld Z h a "com/example/plantilla/plantilla/ScriptText" "mode" "Lcom/example/plantilla/plantilla/ScriptText$Mode;" (.ref mc) := hS.2.1
  refine go_aloadN C X0 1 rfl d12_0 rfl rfl ?_
  refine go_getF C X0 (C.w 44 rfl) Via.refl FF0 (pc' := 4) rfl d12_1 (fun T1 X2 => ?_)
  refine go_virtualU C X2 (EM0.ext X2.old.2) (C.w 103 rfl) (C.w 104 rfl) (C.w 105 rfl) (C.w 107 rfl) (C.w 106 rfl) (C.w 108 rfl) (C.w 109 rfl) (own_ord l Z a0 C.ws mc 0 h n0 X2.old (FM0.ext X2.old.2)) (argsL := []) (rest := []) (lenOf pd_8 rfl) rfl (by decide) (by decide) (Nat.le_of_ble_eq_true rfl) (by decide) (by decide) rfl rfl (pc' := 7) rfl d12_4 ?_
  rintro T3 _ _ ⟨rfl, rfl⟩ X4
  show Go p e below _ (T3.setTop (mkF m 7 #[rv a, iv ch] [(.int (0 : Int32))]))
  refine go_tabIn C X4 d12_7 (by decide) (off := 61) (by first | decide | rfl) (pc2 := 68) (by decide) (by decide) ?_
  refine go_aloadN C X4 69 rfl d12_68 rfl rfl ?_
  refine go_iloadN C X4 70 rfl d12_69 rfl ?_
  refine go_privateX C X4 WI0 hEL E0 (C.w 112 rfl) (C.w 113 rfl) (Jvm.Kit.selects_private (by decide) (C.w 28 rfl) (C.w 114 rfl) (C.w 113 rfl)) (C.w 114 rfl) (C.w 29 rfl) (C.w 115 rfl) (hRC h n0 a X4.old ga hS) (fun _ _ => trivial) (argsL := [(.int ch)]) (rest := []) (lenOf pd_7 rfl) rfl (by decide) (by decide) (Nat.le_of_ble_eq_true rfl) (by decide) (by decide) rfl rfl (pc' := 73) rfl d12_70 ?_
  rintro s T6 h8 _ ⟨rfl, K9, S9, la, lb, hLd, hL9, n1, n2⟩ C WI9 X7
  show Go p e below _ (T6.setTop (mkF m 73 #[rv a, iv ch] []))
  refine go_goto C X7 d12_73 (pc' := 177) (by decide) (by decide) ?_
  exact go_ret0X C X7 WI9 hEL d12_177 (fun vm' W9 => ⟨rfl, K9, S9, la, lb, hLd.warm W9, hL9, n1, n2⟩) (by decide) (by decide)
theorem own_rX (l : Launch) (Z : State) (a0 : Array Value) (hw : ∀ d ∈ tables_1, d.before a0 Z = true) (mc ms mt md be : Addr) (cs : Int32) (fv : Value) (hEL : EW Z a0 consts_1) (hE : own_E Z mc ms mt md be cs fv) {qr : own_Sr} {ch : Int32} {q' : own_Sv} (hRC : own_RCX l Z (mc, qr) ch q') : own_RX l Z (mc, qr) ch q' := fun h n0 a ho ga hS => own_rdcX l Z a0 hw a ch mc ms mt md be cs fv qr q' h n0 ho hEL hE hRC hS ga
theorem ef_own_rdc (m : MethodId) (a : Addr) (ch : Int32)  : entryFrame m #[(.ref a), (.int ch)] 2 = mkF m 0 #[rv a, iv ch] [] := by
  first | (simp [entryFrame, mkF, argsToLocals, Value.category]; done) | rfl
set_option maxRecDepth 65536 in
set_option maxHeartbeats 40000000 in
theorem own_rdc (l : Launch) (Z : State) (a0 : Array Value) (hw : ∀ d ∈ tables_1, d.before a0 Z = true) (a : Addr) (ch : Int32) (la lb : Addr) (mc ms mt md be : Addr) (cs : Int32) (fv : Value) (qr : own_Sr) (q' : own_Sv) (h : Heap) (n0 : Nat) (hn0 : Old Z n0 h) (hE : own_E Z mc ms mt md be cs fv) (hRC : own_RC l Z (mc, qr) ch q') (hS : own_S Z h a (mc, qr)) (ga : n0 ≤ a) (hL : Sg Z h la lb own_LT) (nla : la ≠ a) (nlb : lb ≠ a) :
    ConP l Z (LdV Z "com/example/plantilla/plantilla/ScriptText" 120 la) (⟨"com/example/plantilla/plantilla/ScriptText", "read", "(C)V"⟩ : MethodName) prog_37_method_9_code 2 none ({ frames := 4, cells := 0, slots := 0, locals := 90 } : Room) #[(.ref a), (.int ch)] h n0 (fun v h' => v = none ∧ Keep h h' [a] ∧ own_S Z h' a q') := by
  refine conP_of hw (plainFor_of_name pn_com_example_plantilla_plantilla_ScriptText) hn0 ?_
  intro p e s m below meth c T0 C hPX X0
  refine Go.cast (congrArg T0.setTop (ef_own_rdc m a ch)) ?_
  have hE1 := hE
  obtain ⟨SM0, SM1, SM2, SM3, EM0, EM1, EM2, EM3, FM0, FM1, FM2, FM3, SB, AB, hcs, S1, hfv, S2⟩ := hE1
  have E0 := hS.1
  have FF0 : Fld Z h a "com/example/plantilla/plantilla/ScriptText" "mode" "Lcom/example/plantilla/plantilla/ScriptText$Mode;" (.ref mc) := hS.2.1
  refine go_aloadN C X0 1 rfl d12_0 rfl rfl ?_
  refine go_getF C X0 (C.w 44 rfl) Via.refl FF0 (pc' := 4) rfl d12_1 (fun T1 X2 => ?_)
  refine go_virtualU C X2 (EM0.ext X2.old.2) (C.w 103 rfl) (C.w 104 rfl) (C.w 105 rfl) (C.w 107 rfl) (C.w 106 rfl) (C.w 108 rfl) (C.w 109 rfl) (own_ord l Z a0 C.ws mc 0 h n0 X2.old (FM0.ext X2.old.2)) (argsL := []) (rest := []) (lenOf pd_8 rfl) rfl (by decide) (by decide) (Nat.le_of_ble_eq_true rfl) (by decide) (by decide) rfl rfl (pc' := 7) rfl d12_4 ?_
  rintro T3 _ _ ⟨rfl, rfl⟩ X4
  show Go p e below _ (T3.setTop (mkF m 7 #[rv a, iv ch] [(.int (0 : Int32))]))
  refine go_tabIn C X4 d12_7 (by decide) (off := 61) (by first | decide | rfl) (pc2 := 68) (by decide) (by decide) ?_
  refine go_aloadN C X4 69 rfl d12_68 rfl rfl ?_
  refine go_iloadN C X4 70 rfl d12_69 rfl ?_
  refine go_privateP C X4 E0 (C.w 112 rfl) (C.w 113 rfl) (Jvm.Kit.selects_private (by decide) (C.w 28 rfl) (C.w 114 rfl) (C.w 113 rfl)) (C.w 114 rfl) (C.w 29 rfl) (C.w 115 rfl) (hRC h n0 a la lb X4.old ga hS hL nla nlb) (fun vm' W => hPX.warm W) (argsL := [(.int ch)]) (rest := []) (lenOf pd_7 rfl) rfl (by decide) (by decide) (Nat.le_of_ble_eq_true rfl) (by decide) (by decide) rfl rfl (pc' := 73) rfl d12_70 ?_
  rintro T6 h8 _ ⟨rfl, K9, S9⟩ X7
  show Go p e below _ (T6.setTop (mkF m 73 #[rv a, iv ch] []))
  refine go_goto C X7 d12_73 (pc' := 177) (by decide) (by decide) ?_
  exact go_ret0 C X7 d12_177 ⟨rfl, K9, S9⟩ (by decide) (by decide)
theorem own_r (l : Launch) (Z : State) (a0 : Array Value) (hw : ∀ d ∈ tables_1, d.before a0 Z = true) (mc ms mt md be : Addr) (cs : Int32) (fv : Value) (hE : own_E Z mc ms mt md be cs fv) {qr : own_Sr} {ch : Int32} {q' : own_Sv} (hRC : own_RC l Z (mc, qr) ch q') : own_R l Z (mc, qr) ch q' := fun h n0 a la lb ho ga hS hL n1 n2 => own_rdc l Z a0 hw a ch la lb mc ms mt md be cs fv qr q' h n0 ho hE hRC hS ga hL n1 n2
theorem d12_84 : decode prog_37_method_9_code 84 = .ok (.aload_n 0, 1) := by decide +kernel
theorem d12_85 : decode prog_37_method_9_code 85 = .ok (.iload_n 1, 1) := by decide +kernel
theorem d26_0 : decode prog_37_method_13_code 0 = .ok (.aload_n 0, 1) := by decide +kernel
theorem d26_1 : decode prog_37_method_13_code 1 = .ok (.getfield 37, 3) := by decide +kernel
theorem d26_4 : decode prog_37_method_13_code 4 = .ok (.ifCond .eq 11, 3) := by decide +kernel
theorem d26_15 : decode prog_37_method_13_code 15 = .ok (.iload_n 1, 1) := by decide +kernel
theorem d26_16 : decode prog_37_method_13_code 16 = .ok (.bipush 92, 2) := by decide +kernel
theorem d26_18 : decode prog_37_method_13_code 18 = .ok (.if_icmp .ne 11, 3) := by decide +kernel
theorem d26_21 : decode prog_37_method_13_code 21 = .ok (.aload_n 0, 1) := by decide +kernel
theorem d26_22 : decode prog_37_method_13_code 22 = .ok (.iconst 1, 1) := by decide +kernel
theorem d26_23 : decode prog_37_method_13_code 23 = .ok (.putfield 37, 3) := by decide +kernel
theorem d26_26 : decode prog_37_method_13_code 26 = .ok (.goto 28, 3) := by decide +kernel
theorem d26_54 : decode prog_37_method_13_code 54 = .ok (.return_, 1) := by decide +kernel
theorem ef_own_m26_28 (m : MethodId) (a : Addr)  : entryFrame m #[(.ref a), (.int (92 : Int32))] 2 = mkF m 0 #[rv a, iv (92 : Int32)] [] := by
  first | (simp [entryFrame, mkF, argsToLocals, Value.category]; done) | rfl
set_option maxRecDepth 65536 in
set_option maxHeartbeats 40000000 in
theorem own_m26_28 (l : Launch) (Z : State) (a0 : Array Value) (hw : ∀ d ∈ tables_1, d.before a0 Z = true) (a : Addr) (mc ms mt md be : Addr) (cs : Int32) (fv : Value)  (h : Heap) (n0 : Nat) (hn0 : Old Z n0 h) (hE : own_E Z mc ms mt md be cs fv)  (hS : own_F Z h a ms (1 : Int32) (0 : Int64) (0 : Int32) (0 : Int32) (0 : Int64) (0 : Int32)) (ga : n0 ≤ a) :
    Con l Z (⟨"com/example/plantilla/plantilla/ScriptText", "readString", "(C)V"⟩ : MethodName) prog_37_method_13_code 2 none ({ frames := 0, cells := 0, slots := 0, locals := 0 } : Room) #[(.ref a), (.int (92 : Int32))] h n0 (fun v h' => v = none ∧ Keep h h' [a] ∧ own_F Z h' a ms (1 : Int32) (0 : Int64) (1 : Int32) (0 : Int32) (0 : Int64) (0 : Int32)) := by
  refine con_of hw (plainFor_of_name pn_com_example_plantilla_plantilla_ScriptText) hn0 ?_
  intro p e s m below meth c T0 C X0
  refine Go.cast (congrArg T0.setTop (ef_own_m26_28 m a)) ?_
  have hE1 := hE
  obtain ⟨SM0, SM1, SM2, SM3, EM0, EM1, EM2, EM3, FM0, FM1, FM2, FM3, SB, AB, hcs, S1, hfv, S2⟩ := hE1
  obtain ⟨E0, FF0, FF1, FF2, FF3, FF4, FF5, FF6⟩ := hS
  refine go_aloadN C X0 1 rfl d26_0 rfl rfl ?_
  refine go_getF C X0 (C.w 50 rfl) Via.refl FF3 (pc' := 4) rfl d26_1 (fun T1 X2 => ?_)
  refine go_if_eq C X2 d26_4 (pc' := 7) (pc2 := 15) rfl (by decide) (by decide) (fun (c4 : (0 : Int32) = (0 : Int32)) => ?_) (fun (c4 : ¬ (0 : Int32) = (0 : Int32)) => False.elim (by first | omega | exact absurd c4 (by decide)))
  refine go_iloadN C X2 16 rfl d26_15 rfl ?_
  refine go_bipush C X2 18 rfl d26_16 (z := 92) rfl ?_
  refine go_icmp_ne C X2 d26_18 (pc' := 21) (pc2 := 29) rfl (by decide) (by decide) (fun (c18 : ¬ (92 : Int32) = (92 : Int32)) => False.elim (by first | omega | exact absurd c18 (by decide))) (fun (c18 : (92 : Int32) = (92 : Int32)) => ?_)
  refine go_aloadN C X2 22 rfl d26_21 rfl rfl ?_
  refine go_iconst C X2 23 rfl d26_22 (z := 1) rfl ?_
  refine go_putFN C X2 (C.w 50 rfl) Via.refl FF3 E0 (Or.inl (C.w 51 rfl)) (C.w 28 rfl) ga (ty := .boolean) (by decide) (v' := (.int (1 : Int32))) rfl rfl (pc' := 26) rfl d26_23 (fun T3 h5 W6 X4 => ?_)
  have F7 := FF3.same W6
  have E8 := E0.wr W6
  have F9 := FF0.other W6 (Or.inr (slot_ne (Or.inl (C.w 45 rfl)) (Or.inl (C.w 51 rfl)) (by decide) (t := (.object "com/example/plantilla/plantilla/ScriptText$Mode")) (t' := .boolean) (by decide) (by decide)))
  have F10 := FF1.other W6 (Or.inr (slot_ne (Or.inl (C.w 47 rfl)) (Or.inl (C.w 51 rfl)) (by decide) (t := .boolean) (t' := .boolean) (by decide) (by decide)))
  have F11 := FF2.other W6 (Or.inr (slot_ne (Or.inl (C.w 49 rfl)) (Or.inl (C.w 51 rfl)) (by decide) (t := .long) (t' := .boolean) (by decide) (by decide)))
  have F12 := FF4.other W6 (Or.inr (slot_ne (Or.inl (C.w 53 rfl)) (Or.inl (C.w 51 rfl)) (by decide) (t := .int) (t' := .boolean) (by decide) (by decide)))
  have F13 := FF5.other W6 (Or.inr (slot_ne (Or.inl (C.w 55 rfl)) (Or.inl (C.w 51 rfl)) (by decide) (t := .long) (t' := .boolean) (by decide) (by decide)))
  have F14 := FF6.other W6 (Or.inr (slot_ne (Or.inl (C.w 57 rfl)) (Or.inl (C.w 51 rfl)) (by decide) (t := .int) (t' := .boolean) (by decide) (by decide)))
  have K15 := (Keep.refl h [a]).wr W6 (Or.inl (List.mem_of_getElem? (i := 0) rfl))
  refine go_goto C X4 d26_26 (pc' := 54) (by decide) (by decide) ?_
  exact go_ret0 C X4 d26_54 ⟨rfl, K15, E8, F9, F10, F11, F7, F12, F13, F14⟩ (by decide) (by decide)
theorem d12_86 : decode prog_37_method_9_code 86 = .ok (.invokevirtual 83, 3) := by decide +kernel
theorem d12_89 : decode prog_37_method_9_code 89 = .ok (.goto 88, 3) := by decide +kernel
theorem ef_own_q92 (m : MethodId) (a : Addr)  : entryFrame m #[(.ref a), (.int (92 : Int32))] 2 = mkF m 0 #[rv a, iv (92 : Int32)] [] := by
  first | (simp [entryFrame, mkF, argsToLocals, Value.category]; done) | rfl
set_option maxRecDepth 65536 in
set_option maxHeartbeats 40000000 in
theorem own_q92 (l : Launch) (Z : State) (a0 : Array Value) (hw : ∀ d ∈ tables_1, d.before a0 Z = true) (a : Addr) (la lb : Addr) (mc ms mt md be : Addr) (cs : Int32) (fv : Value)  (h : Heap) (n0 : Nat) (hn0 : Old Z n0 h) (hE : own_E Z mc ms mt md be cs fv)  (hS : own_F Z h a ms (1 : Int32) (0 : Int64) (0 : Int32) (0 : Int32) (0 : Int64) (0 : Int32)) (ga : n0 ≤ a) :
    ConP l Z (LdV Z "com/example/plantilla/plantilla/ScriptText" 120 la) (⟨"com/example/plantilla/plantilla/ScriptText", "read", "(C)V"⟩ : MethodName) prog_37_method_9_code 2 none ({ frames := 4, cells := 0, slots := 0, locals := 90 } : Room) #[(.ref a), (.int (92 : Int32))] h n0 (fun v h' => v = none ∧ Keep h h' [a] ∧ own_F Z h' a ms (1 : Int32) (0 : Int64) (1 : Int32) (0 : Int32) (0 : Int64) (0 : Int32)) := by
  refine conP_of hw (plainFor_of_name pn_com_example_plantilla_plantilla_ScriptText) hn0 ?_
  intro p e s m below meth c T0 C hPX X0
  refine Go.cast (congrArg T0.setTop (ef_own_q92 m a)) ?_
  have hE1 := hE
  obtain ⟨SM0, SM1, SM2, SM3, EM0, EM1, EM2, EM3, FM0, FM1, FM2, FM3, SB, AB, hcs, S1, hfv, S2⟩ := hE1
  obtain ⟨E0, FF0, FF1, FF2, FF3, FF4, FF5, FF6⟩ := hS
  refine go_aloadN C X0 1 rfl d12_0 rfl rfl ?_
  refine go_getF C X0 (C.w 44 rfl) Via.refl FF0 (pc' := 4) rfl d12_1 (fun T1 X2 => ?_)
  refine go_virtualU C X2 (EM1.ext X2.old.2) (C.w 103 rfl) (C.w 104 rfl) (C.w 105 rfl) (C.w 107 rfl) (C.w 106 rfl) (C.w 108 rfl) (C.w 109 rfl) (own_ord l Z a0 C.ws ms 2 h n0 X2.old (FM1.ext X2.old.2)) (argsL := []) (rest := []) (lenOf pd_8 rfl) rfl (by decide) (by decide) (Nat.le_of_ble_eq_true rfl) (by decide) (by decide) rfl rfl (pc' := 7) rfl d12_4 ?_
  rintro T3 _ _ ⟨rfl, rfl⟩ X4
  show Go p e below _ (T3.setTop (mkF m 7 #[rv a, iv (92 : Int32)] [(.int (2 : Int32))]))
  refine go_tabIn C X4 d12_7 (by decide) (off := 77) (by first | decide | rfl) (pc2 := 84) (by decide) (by decide) ?_
  refine go_aloadN C X4 85 rfl d12_84 rfl rfl ?_
  refine go_iloadN C X4 86 rfl d12_85 rfl ?_
  refine go_private C X4 E0 (C.w 168 rfl) (C.w 169 rfl) (Jvm.Kit.selects_private (by decide) (C.w 28 rfl) (C.w 170 rfl) (C.w 169 rfl)) (C.w 170 rfl) (C.w 29 rfl) (C.w 171 rfl) (own_m26_28 l Z a0 C.ws a mc ms mt md be cs fv  h n0 X4.old hE  ⟨E0, FF0, FF1, FF2, FF3, FF4, FF5, FF6⟩ ga) (argsL := [(.int (92 : Int32))]) (rest := []) (lenOf pd_7 rfl) rfl (by decide) (by decide) (Nat.le_of_ble_eq_true rfl) (by decide) (by decide) rfl rfl (pc' := 89) rfl d12_86 ?_
  rintro T6 h8 _ ⟨rfl, Kq9, Eq9, Fq90, Fq91, Fq92, Fq93, Fq94, Fq95, Fq96⟩ X7
  show Go p e below _ (T6.setTop (mkF m 89 #[rv a, iv (92 : Int32)] []))
  have E10 := E0.keep Kq9
  have K11 := (Keep.refl h [a]).trans Kq9 (allS (Or.inl (List.mem_of_getElem? (i := 0) rfl)) all0)
  refine go_goto C X7 d12_89 (pc' := 177) (by decide) (by decide) ?_
  exact go_ret0 C X7 d12_177 ⟨rfl, K11, Eq9, Fq90, Fq91, Fq92, Fq93, Fq94, Fq95, Fq96⟩ (by decide) (by decide)
theorem own_q92_r (l : Launch) (Z : State) (a0 : Array Value) (hw : ∀ d ∈ tables_1, d.before a0 Z = true) (mc ms mt md be : Addr) (cs : Int32) (fv : Value)  (hE : own_E Z mc ms mt md be cs fv)  : own_R l Z (ms, 1, 0, 0, 0, 0, 0) (92 : Int32) (ms, 1, 0, 1, 0, 0, 0) := fun h n0 a la lb ho ga hS _ _ _ => own_q92 l Z a0 hw a la lb mc ms mt md be cs fv  h n0 ho hE  hS ga
theorem d26_29 : decode prog_37_method_13_code 29 = .ok (.iload_n 1, 1) := by decide +kernel
theorem d26_30 : decode prog_37_method_13_code 30 = .ok (.aload_n 0, 1) := by decide +kernel
theorem d26_31 : decode prog_37_method_13_code 31 = .ok (.getfield 24, 3) := by decide +kernel
theorem d26_34 : decode prog_37_method_13_code 34 = .ok (.getstatic 145, 3) := by decide +kernel
theorem d26_37 : decode prog_37_method_13_code 37 = .ok (.if_acmp .ne 8, 3) := by decide +kernel
theorem d26_40 : decode prog_37_method_13_code 40 = .ok (.bipush 39, 2) := by decide +kernel
theorem d26_42 : decode prog_37_method_13_code 42 = .ok (.goto 5, 3) := by decide +kernel
theorem d26_47 : decode prog_37_method_13_code 47 = .ok (.if_icmp .ne 7, 3) := by decide +kernel
theorem d26_50 : decode prog_37_method_13_code 50 = .ok (.aload_n 0, 1) := by decide +kernel
theorem d27_0 : decode prog_37_method_18_code 0 = .ok (.aload_n 0, 1) := by decide +kernel
theorem d27_1 : decode prog_37_method_18_code 1 = .ok (.getstatic 18, 3) := by decide +kernel
theorem d27_4 : decode prog_37_method_18_code 4 = .ok (.putfield 24, 3) := by decide +kernel
theorem d27_7 : decode prog_37_method_18_code 7 = .ok (.aload_n 0, 1) := by decide +kernel
theorem d27_8 : decode prog_37_method_18_code 8 = .ok (.iconst 0, 1) := by decide +kernel
theorem d27_9 : decode prog_37_method_18_code 9 = .ok (.putfield 27, 3) := by decide +kernel
theorem d27_12 : decode prog_37_method_18_code 12 = .ok (.return_, 1) := by decide +kernel
theorem ef_own_m27_30 (m : MethodId) (a : Addr)  : entryFrame m #[(.ref a)] 1 = mkF m 0 #[rv a] [] := by
  first | (simp [entryFrame, mkF, argsToLocals, Value.category]; done) | rfl
set_option maxRecDepth 65536 in
set_option maxHeartbeats 40000000 in
theorem own_m27_30 (l : Launch) (Z : State) (a0 : Array Value) (hw : ∀ d ∈ tables_1, d.before a0 Z = true) (a : Addr) (mc ms mt md be : Addr) (cs : Int32) (fv : Value)  (h : Heap) (n0 : Nat) (hn0 : Old Z n0 h) (hE : own_E Z mc ms mt md be cs fv)  (hS : own_F Z h a ms (1 : Int32) (0 : Int64) (0 : Int32) (0 : Int32) (0 : Int64) (0 : Int32)) (ga : n0 ≤ a) :
    Con l Z (⟨"com/example/plantilla/plantilla/ScriptText", "endLiteral", "()V"⟩ : MethodName) prog_37_method_18_code 1 none ({ frames := 0, cells := 0, slots := 0, locals := 0 } : Room) #[(.ref a)] h n0 (fun v h' => v = none ∧ Keep h h' [a] ∧ own_F Z h' a mc (0 : Int32) (0 : Int64) (0 : Int32) (0 : Int32) (0 : Int64) (0 : Int32)) := by
  refine con_of hw (plainFor_of_name pn_com_example_plantilla_plantilla_ScriptText) hn0 ?_
  intro p e s m below meth c T0 C X0
  refine Go.cast (congrArg T0.setTop (ef_own_m27_30 m a)) ?_
  have hE1 := hE
  obtain ⟨SM0, SM1, SM2, SM3, EM0, EM1, EM2, EM3, FM0, FM1, FM2, FM3, SB, AB, hcs, S1, hfv, S2⟩ := hE1
  obtain ⟨E0, FF0, FF1, FF2, FF3, FF4, FF5, FF6⟩ := hS
  refine go_aloadN C X0 1 rfl d27_0 rfl rfl ?_
  refine go_getS C X0 (C.w 41 rfl) (SM0.ext X0.old.2) (pc' := 4) rfl d27_1 (fun T1 X2 => ?_)
  refine go_putF C X2 (C.w 44 rfl) Via.refl FF0 E0 (Or.inl (C.w 45 rfl)) (C.w 28 rfl) ga (ty := (.object "com/example/plantilla/plantilla/ScriptText$Mode")) (by decide) rfl rfl (pc' := 7) rfl d27_4 (fun T3 h5 W6 X4 => ?_)
  have F7 := FF0.same W6
  have E8 := E0.wr W6
  have F9 := FF1.other W6 (Or.inr (slot_ne (Or.inl (C.w 47 rfl)) (Or.inl (C.w 45 rfl)) (by decide) (t := .boolean) (t' := (.object "com/example/plantilla/plantilla/ScriptText$Mode")) (by decide) (by decide)))
  have F10 := FF2.other W6 (Or.inr (slot_ne (Or.inl (C.w 49 rfl)) (Or.inl (C.w 45 rfl)) (by decide) (t := .long) (t' := (.object "com/example/plantilla/plantilla/ScriptText$Mode")) (by decide) (by decide)))
  have F11 := FF3.other W6 (Or.inr (slot_ne (Or.inl (C.w 51 rfl)) (Or.inl (C.w 45 rfl)) (by decide) (t := .boolean) (t' := (.object "com/example/plantilla/plantilla/ScriptText$Mode")) (by decide) (by decide)))
  have F12 := FF4.other W6 (Or.inr (slot_ne (Or.inl (C.w 53 rfl)) (Or.inl (C.w 45 rfl)) (by decide) (t := .int) (t' := (.object "com/example/plantilla/plantilla/ScriptText$Mode")) (by decide) (by decide)))
  have F13 := FF5.other W6 (Or.inr (slot_ne (Or.inl (C.w 55 rfl)) (Or.inl (C.w 45 rfl)) (by decide) (t := .long) (t' := (.object "com/example/plantilla/plantilla/ScriptText$Mode")) (by decide) (by decide)))
  have F14 := FF6.other W6 (Or.inr (slot_ne (Or.inl (C.w 57 rfl)) (Or.inl (C.w 45 rfl)) (by decide) (t := .int) (t' := (.object "com/example/plantilla/plantilla/ScriptText$Mode")) (by decide) (by decide)))
  have K15 := (Keep.refl h [a]).wr W6 (Or.inl (List.mem_of_getElem? (i := 0) rfl))
  refine go_aloadN C X4 8 rfl d27_7 rfl rfl ?_
  refine go_iconst C X4 9 rfl d27_8 (z := 0) rfl ?_
  refine go_putFN C X4 (C.w 46 rfl) Via.refl F9 E8 (Or.inl (C.w 47 rfl)) (C.w 28 rfl) ga (ty := .boolean) (by decide) (v' := (.int (0 : Int32))) rfl rfl (pc' := 12) rfl d27_9 (fun T16 h18 W19 X17 => ?_)
  have F20 := F9.same W19
  have E21 := E8.wr W19
  have F22 := F7.other W19 (Or.inr (slot_ne (Or.inl (C.w 45 rfl)) (Or.inl (C.w 47 rfl)) (by decide) (t := (.object "com/example/plantilla/plantilla/ScriptText$Mode")) (t' := .boolean) (by decide) (by decide)))
  have F23 := F10.other W19 (Or.inr (slot_ne (Or.inl (C.w 49 rfl)) (Or.inl (C.w 47 rfl)) (by decide) (t := .long) (t' := .boolean) (by decide) (by decide)))
  have F24 := F11.other W19 (Or.inr (slot_ne (Or.inl (C.w 51 rfl)) (Or.inl (C.w 47 rfl)) (by decide) (t := .boolean) (t' := .boolean) (by decide) (by decide)))
  have F25 := F12.other W19 (Or.inr (slot_ne (Or.inl (C.w 53 rfl)) (Or.inl (C.w 47 rfl)) (by decide) (t := .int) (t' := .boolean) (by decide) (by decide)))
  have F26 := F13.other W19 (Or.inr (slot_ne (Or.inl (C.w 55 rfl)) (Or.inl (C.w 47 rfl)) (by decide) (t := .long) (t' := .boolean) (by decide) (by decide)))
  have F27 := F14.other W19 (Or.inr (slot_ne (Or.inl (C.w 57 rfl)) (Or.inl (C.w 47 rfl)) (by decide) (t := .int) (t' := .boolean) (by decide) (by decide)))
  have K28 := K15.wr W19 (Or.inl (List.mem_of_getElem? (i := 0) rfl))
  exact go_ret0 C X17 d27_12 ⟨rfl, K28, E21, F22, F20, F23, F24, F25, F26, F27⟩ (by decide) (by decide)
theorem d26_51 : decode prog_37_method_13_code 51 = .ok (.invokevirtual 167, 3) := by decide +kernel
theorem ef_own_m26_29 (m : MethodId) (a : Addr)  : entryFrame m #[(.ref a), (.int (39 : Int32))] 2 = mkF m 0 #[rv a, iv (39 : Int32)] [] := by
  first | (simp [entryFrame, mkF, argsToLocals, Value.category]; done) | rfl
set_option maxRecDepth 65536 in
set_option maxHeartbeats 40000000 in
theorem own_m26_29 (l : Launch) (Z : State) (a0 : Array Value) (hw : ∀ d ∈ tables_1, d.before a0 Z = true) (a : Addr) (mc ms mt md be : Addr) (cs : Int32) (fv : Value)  (h : Heap) (n0 : Nat) (hn0 : Old Z n0 h) (hE : own_E Z mc ms mt md be cs fv)  (hS : own_F Z h a ms (1 : Int32) (0 : Int64) (0 : Int32) (0 : Int32) (0 : Int64) (0 : Int32)) (ga : n0 ≤ a) :
    Con l Z (⟨"com/example/plantilla/plantilla/ScriptText", "readString", "(C)V"⟩ : MethodName) prog_37_method_13_code 2 none ({ frames := 1, cells := 0, slots := 0, locals := 12 } : Room) #[(.ref a), (.int (39 : Int32))] h n0 (fun v h' => v = none ∧ Keep h h' [a] ∧ own_F Z h' a mc (0 : Int32) (0 : Int64) (0 : Int32) (0 : Int32) (0 : Int64) (0 : Int32)) := by
  refine con_of hw (plainFor_of_name pn_com_example_plantilla_plantilla_ScriptText) hn0 ?_
  intro p e s m below meth c T0 C X0
  refine Go.cast (congrArg T0.setTop (ef_own_m26_29 m a)) ?_
  have hE1 := hE
  obtain ⟨SM0, SM1, SM2, SM3, EM0, EM1, EM2, EM3, FM0, FM1, FM2, FM3, SB, AB, hcs, S1, hfv, S2⟩ := hE1
  obtain ⟨E0, FF0, FF1, FF2, FF3, FF4, FF5, FF6⟩ := hS
  refine go_aloadN C X0 1 rfl d26_0 rfl rfl ?_
  refine go_getF C X0 (C.w 50 rfl) Via.refl FF3 (pc' := 4) rfl d26_1 (fun T1 X2 => ?_)
  refine go_if_eq C X2 d26_4 (pc' := 7) (pc2 := 15) rfl (by decide) (by decide) (fun (c4 : (0 : Int32) = (0 : Int32)) => ?_) (fun (c4 : ¬ (0 : Int32) = (0 : Int32)) => False.elim (by first | omega | exact absurd c4 (by decide)))
  refine go_iloadN C X2 16 rfl d26_15 rfl ?_
  refine go_bipush C X2 18 rfl d26_16 (z := 92) rfl ?_
  refine go_icmp_ne C X2 d26_18 (pc' := 21) (pc2 := 29) rfl (by decide) (by decide) (fun (c18 : ¬ (39 : Int32) = (92 : Int32)) => ?_) (fun (c18 : (39 : Int32) = (92 : Int32)) => False.elim (by first | omega | exact absurd c18 (by decide)))
  refine go_iloadN C X2 30 rfl d26_29 rfl ?_
  refine go_aloadN C X2 31 rfl d26_30 rfl rfl ?_
  refine go_getF C X2 (C.w 44 rfl) Via.refl FF0 (pc' := 34) rfl d26_31 (fun T3 X4 => ?_)
  refine go_getS C X4 (C.w 136 rfl) (SM1.ext X4.old.2) (pc' := 37) rfl d26_34 (fun T5 X6 => ?_)
  refine go_acmp_ne C X6 rfl rfl d26_37 (pc' := 40) (pc2 := 45) rfl (by decide) (by decide) (fun (c37 : ¬ ((.ref ms) : Value) = (.ref ms)) => False.elim (c37 rfl)) (fun (c37 : ((.ref ms) : Value) = (.ref ms)) => ?_)
  refine go_bipush C X6 42 rfl d26_40 (z := 39) rfl ?_
  refine go_goto C X6 d26_42 (pc' := 47) (by decide) (by decide) ?_
  refine go_icmp_ne C X6 d26_47 (pc' := 50) (pc2 := 54) rfl (by decide) (by decide) (fun (c47 : ¬ (39 : Int32) = (39 : Int32)) => False.elim (by first | omega | exact absurd c47 (by decide))) (fun (c47 : (39 : Int32) = (39 : Int32)) => ?_)
  refine go_aloadN C X6 51 rfl d26_50 rfl rfl ?_
  refine go_private C X6 E0 (C.w 172 rfl) (C.w 173 rfl) (Jvm.Kit.selects_private (by decide) (C.w 28 rfl) (C.w 174 rfl) (C.w 173 rfl)) (C.w 174 rfl) (C.w 29 rfl) (C.w 175 rfl) (own_m27_30 l Z a0 C.ws a mc ms mt md be cs fv  h n0 X6.old hE  ⟨E0, FF0, FF1, FF2, FF3, FF4, FF5, FF6⟩ ga) (argsL := []) (rest := []) (lenOf pd_10 rfl) rfl (by decide) (by decide) (Nat.le_of_ble_eq_true rfl) (by decide) (by decide) rfl rfl (pc' := 54) rfl d26_51 ?_
  rintro T7 h9 _ ⟨rfl, Kq10, Eq10, Fq100, Fq101, Fq102, Fq103, Fq104, Fq105, Fq106⟩ X8
  show Go p e below _ (T7.setTop (mkF m 54 #[rv a, iv (39 : Int32)] []))
  have E11 := E0.keep Kq10
  have K12 := (Keep.refl h [a]).trans Kq10 (allS (Or.inl (List.mem_of_getElem? (i := 0) rfl)) all0)
  exact go_ret0 C X8 d26_54 ⟨rfl, K12, Eq10, Fq100, Fq101, Fq102, Fq103, Fq104, Fq105, Fq106⟩ (by decide) (by decide)
theorem ef_own_q39 (m : MethodId) (a : Addr)  : entryFrame m #[(.ref a), (.int (39 : Int32))] 2 = mkF m 0 #[rv a, iv (39 : Int32)] [] := by
  first | (simp [entryFrame, mkF, argsToLocals, Value.category]; done) | rfl
set_option maxRecDepth 65536 in
set_option maxHeartbeats 40000000 in
theorem own_q39 (l : Launch) (Z : State) (a0 : Array Value) (hw : ∀ d ∈ tables_1, d.before a0 Z = true) (a : Addr) (la lb : Addr) (mc ms mt md be : Addr) (cs : Int32) (fv : Value)  (h : Heap) (n0 : Nat) (hn0 : Old Z n0 h) (hE : own_E Z mc ms mt md be cs fv)  (hS : own_F Z h a ms (1 : Int32) (0 : Int64) (0 : Int32) (0 : Int32) (0 : Int64) (0 : Int32)) (ga : n0 ≤ a) :
    ConP l Z (LdV Z "com/example/plantilla/plantilla/ScriptText" 120 la) (⟨"com/example/plantilla/plantilla/ScriptText", "read", "(C)V"⟩ : MethodName) prog_37_method_9_code 2 none ({ frames := 4, cells := 0, slots := 0, locals := 90 } : Room) #[(.ref a), (.int (39 : Int32))] h n0 (fun v h' => v = none ∧ Keep h h' [a] ∧ own_F Z h' a mc (0 : Int32) (0 : Int64) (0 : Int32) (0 : Int32) (0 : Int64) (0 : Int32)) := by
  refine conP_of hw (plainFor_of_name pn_com_example_plantilla_plantilla_ScriptText) hn0 ?_
  intro p e s m below meth c T0 C hPX X0
  refine Go.cast (congrArg T0.setTop (ef_own_q39 m a)) ?_
  have hE1 := hE
  obtain ⟨SM0, SM1, SM2, SM3, EM0, EM1, EM2, EM3, FM0, FM1, FM2, FM3, SB, AB, hcs, S1, hfv, S2⟩ := hE1
  obtain ⟨E0, FF0, FF1, FF2, FF3, FF4, FF5, FF6⟩ := hS
  refine go_aloadN C X0 1 rfl d12_0 rfl rfl ?_
  refine go_getF C X0 (C.w 44 rfl) Via.refl FF0 (pc' := 4) rfl d12_1 (fun T1 X2 => ?_)
  refine go_virtualU C X2 (EM1.ext X2.old.2) (C.w 103 rfl) (C.w 104 rfl) (C.w 105 rfl) (C.w 107 rfl) (C.w 106 rfl) (C.w 108 rfl) (C.w 109 rfl) (own_ord l Z a0 C.ws ms 2 h n0 X2.old (FM1.ext X2.old.2)) (argsL := []) (rest := []) (lenOf pd_8 rfl) rfl (by decide) (by decide) (Nat.le_of_ble_eq_true rfl) (by decide) (by decide) rfl rfl (pc' := 7) rfl d12_4 ?_
  rintro T3 _ _ ⟨rfl, rfl⟩ X4
  show Go p e below _ (T3.setTop (mkF m 7 #[rv a, iv (39 : Int32)] [(.int (2 : Int32))]))
  refine go_tabIn C X4 d12_7 (by decide) (off := 77) (by first | decide | rfl) (pc2 := 84) (by decide) (by decide) ?_
  refine go_aloadN C X4 85 rfl d12_84 rfl rfl ?_
  refine go_iloadN C X4 86 rfl d12_85 rfl ?_
  refine go_private C X4 E0 (C.w 168 rfl) (C.w 169 rfl) (Jvm.Kit.selects_private (by decide) (C.w 28 rfl) (C.w 170 rfl) (C.w 169 rfl)) (C.w 170 rfl) (C.w 29 rfl) (C.w 171 rfl) (own_m26_29 l Z a0 C.ws a mc ms mt md be cs fv  h n0 X4.old hE  ⟨E0, FF0, FF1, FF2, FF3, FF4, FF5, FF6⟩ ga) (argsL := [(.int (39 : Int32))]) (rest := []) (lenOf pd_7 rfl) rfl (by decide) (by decide) (Nat.le_of_ble_eq_true rfl) (by decide) (by decide) rfl rfl (pc' := 89) rfl d12_86 ?_
  rintro T6 h8 _ ⟨rfl, Kq9, Eq9, Fq90, Fq91, Fq92, Fq93, Fq94, Fq95, Fq96⟩ X7
  show Go p e below _ (T6.setTop (mkF m 89 #[rv a, iv (39 : Int32)] []))
  have E10 := E0.keep Kq9
  have K11 := (Keep.refl h [a]).trans Kq9 (allS (Or.inl (List.mem_of_getElem? (i := 0) rfl)) all0)
  refine go_goto C X7 d12_89 (pc' := 177) (by decide) (by decide) ?_
  exact go_ret0 C X7 d12_177 ⟨rfl, K11, Eq9, Fq90, Fq91, Fq92, Fq93, Fq94, Fq95, Fq96⟩ (by decide) (by decide)
theorem own_q39_r (l : Launch) (Z : State) (a0 : Array Value) (hw : ∀ d ∈ tables_1, d.before a0 Z = true) (mc ms mt md be : Addr) (cs : Int32) (fv : Value)  (hE : own_E Z mc ms mt md be cs fv)  : own_R l Z (ms, 1, 0, 0, 0, 0, 0) (39 : Int32) (mc, 0, 0, 0, 0, 0, 0) := fun h n0 a la lb ho ga hS _ _ _ => own_q39 l Z a0 hw a la lb mc ms mt md be cs fv  h n0 ho hE  hS ga
theorem d12_92 : decode prog_37_method_9_code 92 = .ok (.aload_n 0, 1) := by decide +kernel
theorem d12_93 : decode prog_37_method_9_code 93 = .ok (.iload_n 1, 1) := by decide +kernel
theorem d23_0 : decode prog_37_method_14_code 0 = .ok (.aload_n 0, 1) := by decide +kernel
theorem d23_1 : decode prog_37_method_14_code 1 = .ok (.getfield 37, 3) := by decide +kernel
theorem d23_4 : decode prog_37_method_14_code 4 = .ok (.ifCond .eq 11, 3) := by decide +kernel
theorem d23_15 : decode prog_37_method_14_code 15 = .ok (.iload_n 1, 1) := by decide +kernel
theorem d23_16 : decode prog_37_method_14_code 16 = .ok (.bipush 92, 2) := by decide +kernel
theorem d23_18 : decode prog_37_method_14_code 18 = .ok (.if_icmp .ne 11, 3) := by decide +kernel
theorem d23_29 : decode prog_37_method_14_code 29 = .ok (.iload_n 1, 1) := by decide +kernel
theorem d23_30 : decode prog_37_method_14_code 30 = .ok (.bipush 96, 2) := by decide +kernel
theorem d23_32 : decode prog_37_method_14_code 32 = .ok (.if_icmp .ne 10, 3) := by decide +kernel
theorem d23_42 : decode prog_37_method_14_code 42 = .ok (.iload_n 1, 1) := by decide +kernel
theorem d23_43 : decode prog_37_method_14_code 43 = .ok (.bipush 36, 2) := by decide +kernel
theorem d23_45 : decode prog_37_method_14_code 45 = .ok (.if_icmp .ne 10, 3) := by decide +kernel
theorem d23_48 : decode prog_37_method_14_code 48 = .ok (.aload_n 0, 1) := by decide +kernel
theorem d23_49 : decode prog_37_method_14_code 49 = .ok (.getstatic 170, 3) := by decide +kernel
theorem d23_52 : decode prog_37_method_14_code 52 = .ok (.putfield 24, 3) := by decide +kernel
theorem d23_55 : decode prog_37_method_14_code 55 = .ok (.return_, 1) := by decide +kernel
theorem ef_own_m23_31 (m : MethodId) (a : Addr)  : entryFrame m #[(.ref a), (.int (36 : Int32))] 2 = mkF m 0 #[rv a, iv (36 : Int32)] [] := by
  first | (simp [entryFrame, mkF, argsToLocals, Value.category]; done) | rfl
set_option maxRecDepth 65536 in
set_option maxHeartbeats 40000000 in
theorem own_m23_31 (l : Launch) (Z : State) (a0 : Array Value) (hw : ∀ d ∈ tables_1, d.before a0 Z = true) (a : Addr) (mc ms mt md be : Addr) (cs : Int32) (fv : Value) (k : Int32) (h : Heap) (n0 : Nat) (hn0 : Old Z n0 h) (hE : own_E Z mc ms mt md be cs fv) (hk : 0 ≤ k.toInt ∧ k.toInt < 63) (hS : own_F Z h a mt (1 : Int32) (0 : Int64) (0 : Int32) k (0 : Int64) (0 : Int32)) (ga : n0 ≤ a) :
    Con l Z (⟨"com/example/plantilla/plantilla/ScriptText", "readTemplate", "(C)V"⟩ : MethodName) prog_37_method_14_code 2 none ({ frames := 0, cells := 0, slots := 0, locals := 0 } : Room) #[(.ref a), (.int (36 : Int32))] h n0 (fun v h' => v = none ∧ Keep h h' [a] ∧ own_F Z h' a md (1 : Int32) (0 : Int64) (0 : Int32) k (0 : Int64) (0 : Int32)) := by
  refine con_of hw (plainFor_of_name pn_com_example_plantilla_plantilla_ScriptText) hn0 ?_
  intro p e s m below meth c T0 C X0
  refine Go.cast (congrArg T0.setTop (ef_own_m23_31 m a)) ?_
  have hE1 := hE
  obtain ⟨SM0, SM1, SM2, SM3, EM0, EM1, EM2, EM3, FM0, FM1, FM2, FM3, SB, AB, hcs, S1, hfv, S2⟩ := hE1
  obtain ⟨E0, FF0, FF1, FF2, FF3, FF4, FF5, FF6⟩ := hS
  refine go_aloadN C X0 1 rfl d23_0 rfl rfl ?_
  refine go_getF C X0 (C.w 50 rfl) Via.refl FF3 (pc' := 4) rfl d23_1 (fun T1 X2 => ?_)
  refine go_if_eq C X2 d23_4 (pc' := 7) (pc2 := 15) rfl (by decide) (by decide) (fun (c4 : (0 : Int32) = (0 : Int32)) => ?_) (fun (c4 : ¬ (0 : Int32) = (0 : Int32)) => False.elim (by first | omega | exact absurd c4 (by decide)))
  refine go_iloadN C X2 16 rfl d23_15 rfl ?_
  refine go_bipush C X2 18 rfl d23_16 (z := 92) rfl ?_
  refine go_icmp_ne C X2 d23_18 (pc' := 21) (pc2 := 29) rfl (by decide) (by decide) (fun (c18 : ¬ (36 : Int32) = (92 : Int32)) => ?_) (fun (c18 : (36 : Int32) = (92 : Int32)) => False.elim (by first | omega | exact absurd c18 (by decide)))
  refine go_iloadN C X2 30 rfl d23_29 rfl ?_
  refine go_bipush C X2 32 rfl d23_30 (z := 96) rfl ?_
  refine go_icmp_ne C X2 d23_32 (pc' := 35) (pc2 := 42) rfl (by decide) (by decide) (fun (c32 : ¬ (36 : Int32) = (96 : Int32)) => ?_) (fun (c32 : (36 : Int32) = (96 : Int32)) => False.elim (by first | omega | exact absurd c32 (by decide)))
  refine go_iloadN C X2 43 rfl d23_42 rfl ?_
  refine go_bipush C X2 45 rfl d23_43 (z := 36) rfl ?_
  refine go_icmp_ne C X2 d23_45 (pc' := 48) (pc2 := 55) rfl (by decide) (by decide) (fun (c45 : ¬ (36 : Int32) = (36 : Int32)) => False.elim (by first | omega | exact absurd c45 (by decide))) (fun (c45 : (36 : Int32) = (36 : Int32)) => ?_)
  refine go_aloadN C X2 49 rfl d23_48 rfl rfl ?_
  refine go_getS C X2 (C.w 158 rfl) (SM3.ext X2.old.2) (pc' := 52) rfl d23_49 (fun T3 X4 => ?_)
  refine go_putF C X4 (C.w 44 rfl) Via.refl FF0 E0 (Or.inl (C.w 45 rfl)) (C.w 28 rfl) ga (ty := (.object "com/example/plantilla/plantilla/ScriptText$Mode")) (by decide) rfl rfl (pc' := 55) rfl d23_52 (fun T5 h7 W8 X6 => ?_)
  have F9 := FF0.same W8
  have E10 := E0.wr W8
  have F11 := FF1.other W8 (Or.inr (slot_ne (Or.inl (C.w 47 rfl)) (Or.inl (C.w 45 rfl)) (by decide) (t := .boolean) (t' := (.object "com/example/plantilla/plantilla/ScriptText$Mode")) (by decide) (by decide)))
  have F12 := FF2.other W8 (Or.inr (slot_ne (Or.inl (C.w 49 rfl)) (Or.inl (C.w 45 rfl)) (by decide) (t := .long) (t' := (.object "com/example/plantilla/plantilla/ScriptText$Mode")) (by decide) (by decide)))
  have F13 := FF3.other W8 (Or.inr (slot_ne (Or.inl (C.w 51 rfl)) (Or.inl (C.w 45 rfl)) (by decide) (t := .boolean) (t' := (.object "com/example/plantilla/plantilla/ScriptText$Mode")) (by decide) (by decide)))
  have F14 := FF4.other W8 (Or.inr (slot_ne (Or.inl (C.w 53 rfl)) (Or.inl (C.w 45 rfl)) (by decide) (t := .int) (t' := (.object "com/example/plantilla/plantilla/ScriptText$Mode")) (by decide) (by decide)))
  have F15 := FF5.other W8 (Or.inr (slot_ne (Or.inl (C.w 55 rfl)) (Or.inl (C.w 45 rfl)) (by decide) (t := .long) (t' := (.object "com/example/plantilla/plantilla/ScriptText$Mode")) (by decide) (by decide)))
  have F16 := FF6.other W8 (Or.inr (slot_ne (Or.inl (C.w 57 rfl)) (Or.inl (C.w 45 rfl)) (by decide) (t := .int) (t' := (.object "com/example/plantilla/plantilla/ScriptText$Mode")) (by decide) (by decide)))
  have K17 := (Keep.refl h [a]).wr W8 (Or.inl (List.mem_of_getElem? (i := 0) rfl))
  exact go_ret0 C X6 d23_55 ⟨rfl, K17, E10, F9, F11, F12, F13, F14, F15, F16⟩ (by decide) (by decide)
theorem d12_94 : decode prog_37_method_9_code 94 = .ok (.invokevirtual 86, 3) := by decide +kernel
theorem d12_97 : decode prog_37_method_9_code 97 = .ok (.goto 80, 3) := by decide +kernel
theorem ef_own_t36 (m : MethodId) (a : Addr)  : entryFrame m #[(.ref a), (.int (36 : Int32))] 2 = mkF m 0 #[rv a, iv (36 : Int32)] [] := by
  first | (simp [entryFrame, mkF, argsToLocals, Value.category]; done) | rfl
set_option maxRecDepth 65536 in
set_option maxHeartbeats 40000000 in
theorem own_t36 (l : Launch) (Z : State) (a0 : Array Value) (hw : ∀ d ∈ tables_1, d.before a0 Z = true) (a : Addr) (la lb : Addr) (mc ms mt md be : Addr) (cs : Int32) (fv : Value) (k : Int32) (h : Heap) (n0 : Nat) (hn0 : Old Z n0 h) (hE : own_E Z mc ms mt md be cs fv) (hk : 0 ≤ k.toInt ∧ k.toInt < 63) (hS : own_F Z h a mt (1 : Int32) (0 : Int64) (0 : Int32) k (0 : Int64) (0 : Int32)) (ga : n0 ≤ a) :
    ConP l Z (LdV Z "com/example/plantilla/plantilla/ScriptText" 120 la) (⟨"com/example/plantilla/plantilla/ScriptText", "read", "(C)V"⟩ : MethodName) prog_37_method_9_code 2 none ({ frames := 4, cells := 0, slots := 0, locals := 90 } : Room) #[(.ref a), (.int (36 : Int32))] h n0 (fun v h' => v = none ∧ Keep h h' [a] ∧ own_F Z h' a md (1 : Int32) (0 : Int64) (0 : Int32) k (0 : Int64) (0 : Int32)) := by
  refine conP_of hw (plainFor_of_name pn_com_example_plantilla_plantilla_ScriptText) hn0 ?_
  intro p e s m below meth c T0 C hPX X0
  refine Go.cast (congrArg T0.setTop (ef_own_t36 m a)) ?_
  have hE1 := hE
  obtain ⟨SM0, SM1, SM2, SM3, EM0, EM1, EM2, EM3, FM0, FM1, FM2, FM3, SB, AB, hcs, S1, hfv, S2⟩ := hE1
  obtain ⟨E0, FF0, FF1, FF2, FF3, FF4, FF5, FF6⟩ := hS
  refine go_aloadN C X0 1 rfl d12_0 rfl rfl ?_
  refine go_getF C X0 (C.w 44 rfl) Via.refl FF0 (pc' := 4) rfl d12_1 (fun T1 X2 => ?_)
  refine go_virtualU C X2 (EM2.ext X2.old.2) (C.w 103 rfl) (C.w 104 rfl) (C.w 105 rfl) (C.w 107 rfl) (C.w 106 rfl) (C.w 108 rfl) (C.w 109 rfl) (own_ord l Z a0 C.ws mt 4 h n0 X2.old (FM2.ext X2.old.2)) (argsL := []) (rest := []) (lenOf pd_8 rfl) rfl (by decide) (by decide) (Nat.le_of_ble_eq_true rfl) (by decide) (by decide) rfl rfl (pc' := 7) rfl d12_4 ?_
  rintro T3 _ _ ⟨rfl, rfl⟩ X4
  show Go p e below _ (T3.setTop (mkF m 7 #[rv a, iv (36 : Int32)] [(.int (4 : Int32))]))
  refine go_tabIn C X4 d12_7 (by decide) (off := 85) (by first | decide | rfl) (pc2 := 92) (by decide) (by decide) ?_
  refine go_aloadN C X4 93 rfl d12_92 rfl rfl ?_
  refine go_iloadN C X4 94 rfl d12_93 rfl ?_
  refine go_private C X4 E0 (C.w 154 rfl) (C.w 155 rfl) (Jvm.Kit.selects_private (by decide) (C.w 28 rfl) (C.w 156 rfl) (C.w 155 rfl)) (C.w 156 rfl) (C.w 29 rfl) (C.w 157 rfl) (own_m23_31 l Z a0 C.ws a mc ms mt md be cs fv k h n0 X4.old hE hk ⟨E0, FF0, FF1, FF2, FF3, FF4, FF5, FF6⟩ ga) (argsL := [(.int (36 : Int32))]) (rest := []) (lenOf pd_7 rfl) rfl (by decide) (by decide) (Nat.le_of_ble_eq_true rfl) (by decide) (by decide) rfl rfl (pc' := 97) rfl d12_94 ?_
  rintro T6 h8 _ ⟨rfl, Kq9, Eq9, Fq90, Fq91, Fq92, Fq93, Fq94, Fq95, Fq96⟩ X7
  show Go p e below _ (T6.setTop (mkF m 97 #[rv a, iv (36 : Int32)] []))
  have E10 := E0.keep Kq9
  have K11 := (Keep.refl h [a]).trans Kq9 (allS (Or.inl (List.mem_of_getElem? (i := 0) rfl)) all0)
  refine go_goto C X7 d12_97 (pc' := 177) (by decide) (by decide) ?_
  exact go_ret0 C X7 d12_177 ⟨rfl, K11, Eq9, Fq90, Fq91, Fq92, Fq93, Fq94, Fq95, Fq96⟩ (by decide) (by decide)
theorem own_t36_r (l : Launch) (Z : State) (a0 : Array Value) (hw : ∀ d ∈ tables_1, d.before a0 Z = true) (mc ms mt md be : Addr) (cs : Int32) (fv : Value) (k : Int32) (hE : own_E Z mc ms mt md be cs fv) (hk : 0 ≤ k.toInt ∧ k.toInt < 63) : own_R l Z (mt, 1, 0, 0, k, 0, 0) (36 : Int32) (md, 1, 0, 0, k, 0, 0) := fun h n0 a la lb ho ga hS _ _ _ => own_t36 l Z a0 hw a la lb mc ms mt md be cs fv k h n0 ho hE hk hS ga
theorem d12_100 : decode prog_37_method_9_code 100 = .ok (.aload_n 0, 1) := by decide +kernel
theorem d12_101 : decode prog_37_method_9_code 101 = .ok (.iload_n 1, 1) := by decide +kernel
theorem d24_0 : decode prog_37_method_15_code 0 = .ok (.iload_n 1, 1) := by decide +kernel
theorem d24_1 : decode prog_37_method_15_code 1 = .ok (.bipush 123, 2) := by decide +kernel
theorem d24_3 : decode prog_37_method_15_code 3 = .ok (.if_icmp .ne 11, 3) := by decide +kernel
theorem d24_6 : decode prog_37_method_15_code 6 = .ok (.aload_n 0, 1) := by decide +kernel
theorem d24_7 : decode prog_37_method_15_code 7 = .ok (.iconst 1, 1) := by decide +kernel
theorem d25_44 : decode prog_37_method_19_code 44 = .ok (.aload_n 0, 1) := by decide +kernel
theorem d25_45 : decode prog_37_method_19_code 45 = .ok (.getfield 44, 3) := by decide +kernel
theorem d25_48 : decode prog_37_method_19_code 48 = .ok (.lload_n 2, 1) := by decide +kernel
theorem d25_49 : decode prog_37_method_19_code 49 = .ok (.lor, 1) := by decide +kernel
theorem d25_50 : decode prog_37_method_19_code 50 = .ok (.goto 13, 3) := by decide +kernel
theorem ef_own_m25_33 (m : MethodId) (a : Addr)  : entryFrame m #[(.ref a), (.int (1 : Int32))] 4 = mkF m 0 #[rv a, iv (1 : Int32), un, un] [] := by
  first | (simp [entryFrame, mkF, argsToLocals, Value.category]; done) | rfl
set_option maxRecDepth 65536 in
set_option maxHeartbeats 40000000 in
theorem own_m25_33 (l : Launch) (Z : State) (a0 : Array Value) (hw : ∀ d ∈ tables_1, d.before a0 Z = true) (a : Addr) (mc ms mt md be : Addr) (cs : Int32) (fv : Value)  (h : Heap) (n0 : Nat) (hn0 : Old Z n0 h) (hE : own_E Z mc ms mt md be cs fv)  (hS : own_F Z h a md (1 : Int32) (0 : Int64) (0 : Int32) (0 : Int32) (0 : Int64) (0 : Int32)) (ga : n0 ≤ a) :
    Con l Z (⟨"com/example/plantilla/plantilla/ScriptText", "openBrace", "(Z)V"⟩ : MethodName) prog_37_method_19_code 4 none ({ frames := 0, cells := 0, slots := 0, locals := 0 } : Room) #[(.ref a), (.int (1 : Int32))] h n0 (fun v h' => v = none ∧ Keep h h' [a] ∧ own_F Z h' a mc (1 : Int32) (0 : Int64) (0 : Int32) (1 : Int32) (1 : Int64) (0 : Int32)) := by
  refine con_of hw (plainFor_of_name pn_com_example_plantilla_plantilla_ScriptText) hn0 ?_
  intro p e s m below meth c T0 C X0
  refine Go.cast (congrArg T0.setTop (ef_own_m25_33 m a)) ?_
  have hE1 := hE
  obtain ⟨SM0, SM1, SM2, SM3, EM0, EM1, EM2, EM3, FM0, FM1, FM2, FM3, SB, AB, hcs, S1, hfv, S2⟩ := hE1
  obtain ⟨E0, FF0, FF1, FF2, FF3, FF4, FF5, FF6⟩ := hS
  refine go_aloadN C X0 1 rfl d25_0 rfl rfl ?_
  refine go_getF C X0 (C.w 52 rfl) Via.refl FF4 (pc' := 4) rfl d25_1 (fun T1 X2 => ?_)
  refine go_bipush C X2 6 rfl d25_4 (z := 64) rfl ?_
  refine go_icmp_lt C X2 d25_6 (pc' := 9) (pc2 := 23) rfl (by decide) (by decide) (fun (c6 : 0 < 64) => ?_) (fun (c6 : 64 ≤ 0) => False.elim (by first | omega | exact absurd c6 (by decide)))
  refine go_aloadN C X2 24 rfl d25_23 rfl rfl ?_
  refine go_getF C X2 (C.w 52 rfl) Via.refl FF4 (pc' := 27) rfl d25_24 (fun T3 X4 => ?_)
  refine go_bipush C X4 29 rfl d25_27 (z := 64) rfl ?_
  refine go_icmp_ge C X4 d25_29 (pc' := 32) (pc2 := 66) rfl (by decide) (by decide) (fun (c29 : 64 ≤ 0) => False.elim (by first | omega | exact absurd c29 (by decide))) (fun (c29 : 0 < 64) => ?_)
  refine go_lconst C X4 33 rfl d25_32 (z := 1) rfl ?_
  refine go_aloadN C X4 34 rfl d25_33 rfl rfl ?_
  refine go_getF C X4 (C.w 52 rfl) Via.refl FF4 (pc' := 37) rfl d25_34 (fun T5 X6 => ?_)
  refine go_lshl C X6 38 rfl d25_37 ?_
  show Go p e below _ (T5.setTop (mkF m 38 #[rv a, iv (1 : Int32), un, un] [(.long (1 : Int64))]))
  refine go_lstoreN C X6 39 rfl d25_38 #[rv a, iv (1 : Int32), jv (1 : Int64), sc] rfl ?_
  refine go_aloadN C X6 40 rfl d25_39 rfl rfl ?_
  refine go_iloadN C X6 41 rfl d25_40 rfl ?_
  refine go_if_eq C X6 d25_41 (pc' := 44) (pc2 := 53) rfl (by decide) (by decide) (fun (c41 : (1 : Int32) = (0 : Int32)) => False.elim (by first | omega | exact absurd c41 (by decide))) (fun (c41 : ¬ (1 : Int32) = (0 : Int32)) => ?_)
  refine go_aloadN C X6 45 rfl d25_44 rfl rfl ?_
  refine go_getF C X6 (C.w 54 rfl) Via.refl FF5 (pc' := 48) rfl d25_45 (fun T7 X8 => ?_)
  refine go_lloadN C X8 49 rfl d25_48 rfl ?_
  refine go_lorL C X8 50 rfl d25_49 (z := (1)) rfl ?_
  refine go_goto C X8 d25_50 (pc' := 63) (by decide) (by decide) ?_
  refine go_putF C X8 (C.w 54 rfl) Via.refl FF5 E0 (Or.inl (C.w 55 rfl)) (C.w 28 rfl) ga (ty := .long) (by decide) rfl rfl (pc' := 66) rfl d25_63 (fun T9 h11 W12 X10 => ?_)
  have F13 := FF5.same W12
  have E14 := E0.wr W12
  have F15 := FF0.other W12 (Or.inr (slot_ne (Or.inl (C.w 45 rfl)) (Or.inl (C.w 55 rfl)) (by decide) (t := (.object "com/example/plantilla/plantilla/ScriptText$Mode")) (t' := .long) (by decide) (by decide)))
  have F16 := FF1.other W12 (Or.inr (slot_ne (Or.inl (C.w 47 rfl)) (Or.inl (C.w 55 rfl)) (by decide) (t := .boolean) (t' := .long) (by decide) (by decide)))
  have F17 := FF2.other W12 (Or.inr (slot_ne (Or.inl (C.w 49 rfl)) (Or.inl (C.w 55 rfl)) (by decide) (t := .long) (t' := .long) (by decide) (by decide)))
  have F18 := FF3.other W12 (Or.inr (slot_ne (Or.inl (C.w 51 rfl)) (Or.inl (C.w 55 rfl)) (by decide) (t := .boolean) (t' := .long) (by decide) (by decide)))
  have F19 := FF4.other W12 (Or.inr (slot_ne (Or.inl (C.w 53 rfl)) (Or.inl (C.w 55 rfl)) (by decide) (t := .int) (t' := .long) (by decide) (by decide)))
  have F20 := FF6.other W12 (Or.inr (slot_ne (Or.inl (C.w 57 rfl)) (Or.inl (C.w 55 rfl)) (by decide) (t := .int) (t' := .long) (by decide) (by decide)))
  have K21 := (Keep.refl h [a]).wr W12 (Or.inl (List.mem_of_getElem? (i := 0) rfl))
  refine go_aloadN C X10 67 rfl d25_66 rfl rfl ?_
  refine go_dup C X10 68 rfl d25_67 rfl ?_
  refine go_getF C X10 (C.w 52 rfl) Via.refl F19 (pc' := 71) rfl d25_68 (fun T22 X23 => ?_)
  refine go_iconst C X23 72 rfl d25_71 (z := 1) rfl ?_
  refine go_iaddL C X23 73 rfl d25_72 (z := (1)) rfl ?_
  refine go_putF C X23 (C.w 52 rfl) Via.refl F19 E14 (Or.inl (C.w 53 rfl)) (C.w 28 rfl) ga (ty := .int) (by decide) rfl rfl (pc' := 76) rfl d25_73 (fun T24 h26 W27 X25 => ?_)
  have F28 := F19.same W27
  have E29 := E14.wr W27
  have F30 := F15.other W27 (Or.inr (slot_ne (Or.inl (C.w 45 rfl)) (Or.inl (C.w 53 rfl)) (by decide) (t := (.object "com/example/plantilla/plantilla/ScriptText$Mode")) (t' := .int) (by decide) (by decide)))
  have F31 := F16.other W27 (Or.inr (slot_ne (Or.inl (C.w 47 rfl)) (Or.inl (C.w 53 rfl)) (by decide) (t := .boolean) (t' := .int) (by decide) (by decide)))
  have F32 := F17.other W27 (Or.inr (slot_ne (Or.inl (C.w 49 rfl)) (Or.inl (C.w 53 rfl)) (by decide) (t := .long) (t' := .int) (by decide) (by decide)))
  have F33 := F18.other W27 (Or.inr (slot_ne (Or.inl (C.w 51 rfl)) (Or.inl (C.w 53 rfl)) (by decide) (t := .boolean) (t' := .int) (by decide) (by decide)))
  have F34 := F13.other W27 (Or.inr (slot_ne (Or.inl (C.w 55 rfl)) (Or.inl (C.w 53 rfl)) (by decide) (t := .long) (t' := .int) (by decide) (by decide)))
  have F35 := F20.other W27 (Or.inr (slot_ne (Or.inl (C.w 57 rfl)) (Or.inl (C.w 53 rfl)) (by decide) (t := .int) (t' := .int) (by decide) (by decide)))
  have K36 := K21.wr W27 (Or.inl (List.mem_of_getElem? (i := 0) rfl))
  refine go_aloadN C X25 77 rfl d25_76 rfl rfl ?_
  refine go_getS C X25 (C.w 41 rfl) (SM0.ext X25.old.2) (pc' := 80) rfl d25_77 (fun T37 X38 => ?_)
  refine go_putF C X38 (C.w 44 rfl) Via.refl F30 E29 (Or.inl (C.w 45 rfl)) (C.w 28 rfl) ga (ty := (.object "com/example/plantilla/plantilla/ScriptText$Mode")) (by decide) rfl rfl (pc' := 83) rfl d25_80 (fun T39 h41 W42 X40 => ?_)
  have F43 := F30.same W42
  have E44 := E29.wr W42
  have F45 := F31.other W42 (Or.inr (slot_ne (Or.inl (C.w 47 rfl)) (Or.inl (C.w 45 rfl)) (by decide) (t := .boolean) (t' := (.object "com/example/plantilla/plantilla/ScriptText$Mode")) (by decide) (by decide)))
  have F46 := F32.other W42 (Or.inr (slot_ne (Or.inl (C.w 49 rfl)) (Or.inl (C.w 45 rfl)) (by decide) (t := .long) (t' := (.object "com/example/plantilla/plantilla/ScriptText$Mode")) (by decide) (by decide)))
  have F47 := F33.other W42 (Or.inr (slot_ne (Or.inl (C.w 51 rfl)) (Or.inl (C.w 45 rfl)) (by decide) (t := .boolean) (t' := (.object "com/example/plantilla/plantilla/ScriptText$Mode")) (by decide) (by decide)))
  have F48 := F28.other W42 (Or.inr (slot_ne (Or.inl (C.w 53 rfl)) (Or.inl (C.w 45 rfl)) (by decide) (t := .int) (t' := (.object "com/example/plantilla/plantilla/ScriptText$Mode")) (by decide) (by decide)))
  have F49 := F34.other W42 (Or.inr (slot_ne (Or.inl (C.w 55 rfl)) (Or.inl (C.w 45 rfl)) (by decide) (t := .long) (t' := (.object "com/example/plantilla/plantilla/ScriptText$Mode")) (by decide) (by decide)))
  have F50 := F35.other W42 (Or.inr (slot_ne (Or.inl (C.w 57 rfl)) (Or.inl (C.w 45 rfl)) (by decide) (t := .int) (t' := (.object "com/example/plantilla/plantilla/ScriptText$Mode")) (by decide) (by decide)))
  have K51 := K36.wr W42 (Or.inl (List.mem_of_getElem? (i := 0) rfl))
  refine go_aloadN C X40 84 rfl d25_83 rfl rfl ?_
  refine go_iconst C X40 85 rfl d25_84 (z := 1) rfl ?_
  refine go_putFN C X40 (C.w 46 rfl) Via.refl F45 E44 (Or.inl (C.w 47 rfl)) (C.w 28 rfl) ga (ty := .boolean) (by decide) (v' := (.int (1 : Int32))) rfl rfl (pc' := 88) rfl d25_85 (fun T52 h54 W55 X53 => ?_)
  have F56 := F45.same W55
  have E57 := E44.wr W55
  have F58 := F43.other W55 (Or.inr (slot_ne (Or.inl (C.w 45 rfl)) (Or.inl (C.w 47 rfl)) (by decide) (t := (.object "com/example/plantilla/plantilla/ScriptText$Mode")) (t' := .boolean) (by decide) (by decide)))
  have F59 := F46.other W55 (Or.inr (slot_ne (Or.inl (C.w 49 rfl)) (Or.inl (C.w 47 rfl)) (by decide) (t := .long) (t' := .boolean) (by decide) (by decide)))
  have F60 := F47.other W55 (Or.inr (slot_ne (Or.inl (C.w 51 rfl)) (Or.inl (C.w 47 rfl)) (by decide) (t := .boolean) (t' := .boolean) (by decide) (by decide)))
  have F61 := F48.other W55 (Or.inr (slot_ne (Or.inl (C.w 53 rfl)) (Or.inl (C.w 47 rfl)) (by decide) (t := .int) (t' := .boolean) (by decide) (by decide)))
  have F62 := F49.other W55 (Or.inr (slot_ne (Or.inl (C.w 55 rfl)) (Or.inl (C.w 47 rfl)) (by decide) (t := .long) (t' := .boolean) (by decide) (by decide)))
  have F63 := F50.other W55 (Or.inr (slot_ne (Or.inl (C.w 57 rfl)) (Or.inl (C.w 47 rfl)) (by decide) (t := .int) (t' := .boolean) (by decide) (by decide)))
  have K64 := K51.wr W55 (Or.inl (List.mem_of_getElem? (i := 0) rfl))
  exact go_ret0 C X53 d25_88 ⟨rfl, K64, E57, F58, F56, F59, F60, F61, F62, F63⟩ (by decide) (by decide)
theorem d24_8 : decode prog_37_method_15_code 8 = .ok (.invokevirtual 154, 3) := by decide +kernel
theorem d24_11 : decode prog_37_method_15_code 11 = .ok (.goto 15, 3) := by decide +kernel
theorem d24_26 : decode prog_37_method_15_code 26 = .ok (.return_, 1) := by decide +kernel
theorem ef_own_m24_32 (m : MethodId) (a : Addr)  : entryFrame m #[(.ref a), (.int (123 : Int32))] 2 = mkF m 0 #[rv a, iv (123 : Int32)] [] := by
  first | (simp [entryFrame, mkF, argsToLocals, Value.category]; done) | rfl
set_option maxRecDepth 65536 in
set_option maxHeartbeats 40000000 in
theorem own_m24_32 (l : Launch) (Z : State) (a0 : Array Value) (hw : ∀ d ∈ tables_1, d.before a0 Z = true) (a : Addr) (mc ms mt md be : Addr) (cs : Int32) (fv : Value)  (h : Heap) (n0 : Nat) (hn0 : Old Z n0 h) (hE : own_E Z mc ms mt md be cs fv)  (hS : own_F Z h a md (1 : Int32) (0 : Int64) (0 : Int32) (0 : Int32) (0 : Int64) (0 : Int32)) (ga : n0 ≤ a) :
    Con l Z (⟨"com/example/plantilla/plantilla/ScriptText", "readAfterDollar", "(C)V"⟩ : MethodName) prog_37_method_15_code 2 none ({ frames := 1, cells := 0, slots := 0, locals := 15 } : Room) #[(.ref a), (.int (123 : Int32))] h n0 (fun v h' => v = none ∧ Keep h h' [a] ∧ own_F Z h' a mc (1 : Int32) (0 : Int64) (0 : Int32) (1 : Int32) (1 : Int64) (0 : Int32)) := by
  refine con_of hw (plainFor_of_name pn_com_example_plantilla_plantilla_ScriptText) hn0 ?_
  intro p e s m below meth c T0 C X0
  refine Go.cast (congrArg T0.setTop (ef_own_m24_32 m a)) ?_
  have hE1 := hE
  obtain ⟨SM0, SM1, SM2, SM3, EM0, EM1, EM2, EM3, FM0, FM1, FM2, FM3, SB, AB, hcs, S1, hfv, S2⟩ := hE1
  obtain ⟨E0, FF0, FF1, FF2, FF3, FF4, FF5, FF6⟩ := hS
  refine go_iloadN C X0 1 rfl d24_0 rfl ?_
  refine go_bipush C X0 3 rfl d24_1 (z := 123) rfl ?_
  refine go_icmp_ne C X0 d24_3 (pc' := 6) (pc2 := 14) rfl (by decide) (by decide) (fun (c3 : ¬ (123 : Int32) = (123 : Int32)) => False.elim (by first | omega | exact absurd c3 (by decide))) (fun (c3 : (123 : Int32) = (123 : Int32)) => ?_)
  refine go_aloadN C X0 7 rfl d24_6 rfl rfl ?_
  refine go_iconst C X0 8 rfl d24_7 (z := 1) rfl ?_
  refine go_private C X0 E0 (C.w 164 rfl) (C.w 165 rfl) (Jvm.Kit.selects_private (by decide) (C.w 28 rfl) (C.w 166 rfl) (C.w 165 rfl)) (C.w 166 rfl) (C.w 29 rfl) (C.w 167 rfl) (own_m25_33 l Z a0 C.ws a mc ms mt md be cs fv  h n0 X0.old hE  ⟨E0, FF0, FF1, FF2, FF3, FF4, FF5, FF6⟩ ga) (argsL := [(.int (1 : Int32))]) (rest := []) (lenOf pd_9 rfl) rfl (by decide) (by decide) (Nat.le_of_ble_eq_true rfl) (by decide) (by decide) rfl rfl (pc' := 11) rfl d24_8 ?_
  rintro T1 h3 _ ⟨rfl, Kq4, Eq4, Fq40, Fq41, Fq42, Fq43, Fq44, Fq45, Fq46⟩ X2
  show Go p e below _ (T1.setTop (mkF m 11 #[rv a, iv (123 : Int32)] []))
  have E5 := E0.keep Kq4
  have K6 := (Keep.refl h [a]).trans Kq4 (allS (Or.inl (List.mem_of_getElem? (i := 0) rfl)) all0)
  refine go_goto C X2 d24_11 (pc' := 26) (by decide) (by decide) ?_
  exact go_ret0 C X2 d24_26 ⟨rfl, K6, Eq4, Fq40, Fq41, Fq42, Fq43, Fq44, Fq45, Fq46⟩ (by decide) (by decide)
theorem d12_102 : decode prog_37_method_9_code 102 = .ok (.invokevirtual 89, 3) := by decide +kernel
theorem d12_105 : decode prog_37_method_9_code 105 = .ok (.goto 72, 3) := by decide +kernel
theorem ef_own_d0 (m : MethodId) (a : Addr)  : entryFrame m #[(.ref a), (.int (123 : Int32))] 2 = mkF m 0 #[rv a, iv (123 : Int32)] [] := by
  first | (simp [entryFrame, mkF, argsToLocals, Value.category]; done) | rfl
set_option maxRecDepth 65536 in
set_option maxHeartbeats 40000000 in
theorem own_d0 (l : Launch) (Z : State) (a0 : Array Value) (hw : ∀ d ∈ tables_1, d.before a0 Z = true) (a : Addr) (la lb : Addr) (mc ms mt md be : Addr) (cs : Int32) (fv : Value)  (h : Heap) (n0 : Nat) (hn0 : Old Z n0 h) (hE : own_E Z mc ms mt md be cs fv)  (hS : own_F Z h a md (1 : Int32) (0 : Int64) (0 : Int32) (0 : Int32) (0 : Int64) (0 : Int32)) (ga : n0 ≤ a) :
    ConP l Z (LdV Z "com/example/plantilla/plantilla/ScriptText" 120 la) (⟨"com/example/plantilla/plantilla/ScriptText", "read", "(C)V"⟩ : MethodName) prog_37_method_9_code 2 none ({ frames := 4, cells := 0, slots := 0, locals := 90 } : Room) #[(.ref a), (.int (123 : Int32))] h n0 (fun v h' => v = none ∧ Keep h h' [a] ∧ own_F Z h' a mc (1 : Int32) (0 : Int64) (0 : Int32) (1 : Int32) (1 : Int64) (0 : Int32)) := by
  refine conP_of hw (plainFor_of_name pn_com_example_plantilla_plantilla_ScriptText) hn0 ?_
  intro p e s m below meth c T0 C hPX X0
  refine Go.cast (congrArg T0.setTop (ef_own_d0 m a)) ?_
  have hE1 := hE
  obtain ⟨SM0, SM1, SM2, SM3, EM0, EM1, EM2, EM3, FM0, FM1, FM2, FM3, SB, AB, hcs, S1, hfv, S2⟩ := hE1
  obtain ⟨E0, FF0, FF1, FF2, FF3, FF4, FF5, FF6⟩ := hS
  refine go_aloadN C X0 1 rfl d12_0 rfl rfl ?_
  refine go_getF C X0 (C.w 44 rfl) Via.refl FF0 (pc' := 4) rfl d12_1 (fun T1 X2 => ?_)
  refine go_virtualU C X2 (EM3.ext X2.old.2) (C.w 103 rfl) (C.w 104 rfl) (C.w 105 rfl) (C.w 107 rfl) (C.w 106 rfl) (C.w 108 rfl) (C.w 109 rfl) (own_ord l Z a0 C.ws md 5 h n0 X2.old (FM3.ext X2.old.2)) (argsL := []) (rest := []) (lenOf pd_8 rfl) rfl (by decide) (by decide) (Nat.le_of_ble_eq_true rfl) (by decide) (by decide) rfl rfl (pc' := 7) rfl d12_4 ?_
  rintro T3 _ _ ⟨rfl, rfl⟩ X4
  show Go p e below _ (T3.setTop (mkF m 7 #[rv a, iv (123 : Int32)] [(.int (5 : Int32))]))
  refine go_tabIn C X4 d12_7 (by decide) (off := 93) (by first | decide | rfl) (pc2 := 100) (by decide) (by decide) ?_
  refine go_aloadN C X4 101 rfl d12_100 rfl rfl ?_
  refine go_iloadN C X4 102 rfl d12_101 rfl ?_
  refine go_private C X4 E0 (C.w 160 rfl) (C.w 161 rfl) (Jvm.Kit.selects_private (by decide) (C.w 28 rfl) (C.w 162 rfl) (C.w 161 rfl)) (C.w 162 rfl) (C.w 29 rfl) (C.w 163 rfl) (own_m24_32 l Z a0 C.ws a mc ms mt md be cs fv  h n0 X4.old hE  ⟨E0, FF0, FF1, FF2, FF3, FF4, FF5, FF6⟩ ga) (argsL := [(.int (123 : Int32))]) (rest := []) (lenOf pd_7 rfl) rfl (by decide) (by decide) (Nat.le_of_ble_eq_true rfl) (by decide) (by decide) rfl rfl (pc' := 105) rfl d12_102 ?_
  rintro T6 h8 _ ⟨rfl, Kq9, Eq9, Fq90, Fq91, Fq92, Fq93, Fq94, Fq95, Fq96⟩ X7
  show Go p e below _ (T6.setTop (mkF m 105 #[rv a, iv (123 : Int32)] []))
  have E10 := E0.keep Kq9
  have K11 := (Keep.refl h [a]).trans Kq9 (allS (Or.inl (List.mem_of_getElem? (i := 0) rfl)) all0)
  refine go_goto C X7 d12_105 (pc' := 177) (by decide) (by decide) ?_
  exact go_ret0 C X7 d12_177 ⟨rfl, K11, Eq9, Fq90, Fq91, Fq92, Fq93, Fq94, Fq95, Fq96⟩ (by decide) (by decide)
theorem own_d0_r (l : Launch) (Z : State) (a0 : Array Value) (hw : ∀ d ∈ tables_1, d.before a0 Z = true) (mc ms mt md be : Addr) (cs : Int32) (fv : Value)  (hE : own_E Z mc ms mt md be cs fv)  : own_R l Z (md, 1, 0, 0, 0, 0, 0) (123 : Int32) (mc, 1, 0, 0, 1, 1, 0) := fun h n0 a la lb ho ga hS _ _ _ => own_d0 l Z a0 hw a la lb mc ms mt md be cs fv  h n0 ho hE  hS ga
theorem ef_own_m25_35 (m : MethodId) (a : Addr)  : entryFrame m #[(.ref a), (.int (1 : Int32))] 4 = mkF m 0 #[rv a, iv (1 : Int32), un, un] [] := by
  first | (simp [entryFrame, mkF, argsToLocals, Value.category]; done) | rfl
set_option maxRecDepth 65536 in
set_option maxHeartbeats 40000000 in
theorem own_m25_35 (l : Launch) (Z : State) (a0 : Array Value) (hw : ∀ d ∈ tables_1, d.before a0 Z = true) (a : Addr) (mc ms mt md be : Addr) (cs : Int32) (fv : Value)  (h : Heap) (n0 : Nat) (hn0 : Old Z n0 h) (hE : own_E Z mc ms mt md be cs fv)  (hS : own_F Z h a md (1 : Int32) (0 : Int64) (0 : Int32) (32 : Int32) (0 : Int64) (0 : Int32)) (ga : n0 ≤ a) :
    Con l Z (⟨"com/example/plantilla/plantilla/ScriptText", "openBrace", "(Z)V"⟩ : MethodName) prog_37_method_19_code 4 none ({ frames := 0, cells := 0, slots := 0, locals := 0 } : Room) #[(.ref a), (.int (1 : Int32))] h n0 (fun v h' => v = none ∧ Keep h h' [a] ∧ own_F Z h' a mc (1 : Int32) (0 : Int64) (0 : Int32) (33 : Int32) (4294967296 : Int64) (0 : Int32)) := by
  refine con_of hw (plainFor_of_name pn_com_example_plantilla_plantilla_ScriptText) hn0 ?_
  intro p e s m below meth c T0 C X0
  refine Go.cast (congrArg T0.setTop (ef_own_m25_35 m a)) ?_
  have hE1 := hE
  obtain ⟨SM0, SM1, SM2, SM3, EM0, EM1, EM2, EM3, FM0, FM1, FM2, FM3, SB, AB, hcs, S1, hfv, S2⟩ := hE1
  obtain ⟨E0, FF0, FF1, FF2, FF3, FF4, FF5, FF6⟩ := hS
  refine go_aloadN C X0 1 rfl d25_0 rfl rfl ?_
  refine go_getF C X0 (C.w 52 rfl) Via.refl FF4 (pc' := 4) rfl d25_1 (fun T1 X2 => ?_)
  refine go_bipush C X2 6 rfl d25_4 (z := 64) rfl ?_
  refine go_icmp_lt C X2 d25_6 (pc' := 9) (pc2 := 23) rfl (by decide) (by decide) (fun (c6 : 32 < 64) => ?_) (fun (c6 : 64 ≤ 32) => False.elim (by first | omega | exact absurd c6 (by decide)))
  refine go_aloadN C X2 24 rfl d25_23 rfl rfl ?_
  refine go_getF C X2 (C.w 52 rfl) Via.refl FF4 (pc' := 27) rfl d25_24 (fun T3 X4 => ?_)
  refine go_bipush C X4 29 rfl d25_27 (z := 64) rfl ?_
  refine go_icmp_ge C X4 d25_29 (pc' := 32) (pc2 := 66) rfl (by decide) (by decide) (fun (c29 : 64 ≤ 32) => False.elim (by first | omega | exact absurd c29 (by decide))) (fun (c29 : 32 < 64) => ?_)
  refine go_lconst C X4 33 rfl d25_32 (z := 1) rfl ?_
  refine go_aloadN C X4 34 rfl d25_33 rfl rfl ?_
  refine go_getF C X4 (C.w 52 rfl) Via.refl FF4 (pc' := 37) rfl d25_34 (fun T5 X6 => ?_)
  refine go_lshl C X6 38 rfl d25_37 ?_
  show Go p e below _ (T5.setTop (mkF m 38 #[rv a, iv (1 : Int32), un, un] [(.long (4294967296 : Int64))]))
  refine go_lstoreN C X6 39 rfl d25_38 #[rv a, iv (1 : Int32), jv (4294967296 : Int64), sc] rfl ?_
  refine go_aloadN C X6 40 rfl d25_39 rfl rfl ?_
  refine go_iloadN C X6 41 rfl d25_40 rfl ?_
  refine go_if_eq C X6 d25_41 (pc' := 44) (pc2 := 53) rfl (by decide) (by decide) (fun (c41 : (1 : Int32) = (0 : Int32)) => False.elim (by first | omega | exact absurd c41 (by decide))) (fun (c41 : ¬ (1 : Int32) = (0 : Int32)) => ?_)
  refine go_aloadN C X6 45 rfl d25_44 rfl rfl ?_
  refine go_getF C X6 (C.w 54 rfl) Via.refl FF5 (pc' := 48) rfl d25_45 (fun T7 X8 => ?_)
  refine go_lloadN C X8 49 rfl d25_48 rfl ?_
  refine go_lorL C X8 50 rfl d25_49 (z := (4294967296)) rfl ?_
  refine go_goto C X8 d25_50 (pc' := 63) (by decide) (by decide) ?_
  refine go_putF C X8 (C.w 54 rfl) Via.refl FF5 E0 (Or.inl (C.w 55 rfl)) (C.w 28 rfl) ga (ty := .long) (by decide) rfl rfl (pc' := 66) rfl d25_63 (fun T9 h11 W12 X10 => ?_)
  have F13 := FF5.same W12
  have E14 := E0.wr W12
  have F15 := FF0.other W12 (Or.inr (slot_ne (Or.inl (C.w 45 rfl)) (Or.inl (C.w 55 rfl)) (by decide) (t := (.object "com/example/plantilla/plantilla/ScriptText$Mode")) (t' := .long) (by decide) (by decide)))
  have F16 := FF1.other W12 (Or.inr (slot_ne (Or.inl (C.w 47 rfl)) (Or.inl (C.w 55 rfl)) (by decide) (t := .boolean) (t' := .long) (by decide) (by decide)))
  have F17 := FF2.other W12 (Or.inr (slot_ne (Or.inl (C.w 49 rfl)) (Or.inl (C.w 55 rfl)) (by decide) (t := .long) (t' := .long) (by decide) (by decide)))
  have F18 := FF3.other W12 (Or.inr (slot_ne (Or.inl (C.w 51 rfl)) (Or.inl (C.w 55 rfl)) (by decide) (t := .boolean) (t' := .long) (by decide) (by decide)))
  have F19 := FF4.other W12 (Or.inr (slot_ne (Or.inl (C.w 53 rfl)) (Or.inl (C.w 55 rfl)) (by decide) (t := .int) (t' := .long) (by decide) (by decide)))
  have F20 := FF6.other W12 (Or.inr (slot_ne (Or.inl (C.w 57 rfl)) (Or.inl (C.w 55 rfl)) (by decide) (t := .int) (t' := .long) (by decide) (by decide)))
  have K21 := (Keep.refl h [a]).wr W12 (Or.inl (List.mem_of_getElem? (i := 0) rfl))
  refine go_aloadN C X10 67 rfl d25_66 rfl rfl ?_
  refine go_dup C X10 68 rfl d25_67 rfl ?_
  refine go_getF C X10 (C.w 52 rfl) Via.refl F19 (pc' := 71) rfl d25_68 (fun T22 X23 => ?_)
  refine go_iconst C X23 72 rfl d25_71 (z := 1) rfl ?_
  refine go_iaddL C X23 73 rfl d25_72 (z := (33)) rfl ?_
  refine go_putF C X23 (C.w 52 rfl) Via.refl F19 E14 (Or.inl (C.w 53 rfl)) (C.w 28 rfl) ga (ty := .int) (by decide) rfl rfl (pc' := 76) rfl d25_73 (fun T24 h26 W27 X25 => ?_)
  have F28 := F19.same W27
  have E29 := E14.wr W27
  have F30 := F15.other W27 (Or.inr (slot_ne (Or.inl (C.w 45 rfl)) (Or.inl (C.w 53 rfl)) (by decide) (t := (.object "com/example/plantilla/plantilla/ScriptText$Mode")) (t' := .int) (by decide) (by decide)))
  have F31 := F16.other W27 (Or.inr (slot_ne (Or.inl (C.w 47 rfl)) (Or.inl (C.w 53 rfl)) (by decide) (t := .boolean) (t' := .int) (by decide) (by decide)))
  have F32 := F17.other W27 (Or.inr (slot_ne (Or.inl (C.w 49 rfl)) (Or.inl (C.w 53 rfl)) (by decide) (t := .long) (t' := .int) (by decide) (by decide)))
  have F33 := F18.other W27 (Or.inr (slot_ne (Or.inl (C.w 51 rfl)) (Or.inl (C.w 53 rfl)) (by decide) (t := .boolean) (t' := .int) (by decide) (by decide)))
  have F34 := F13.other W27 (Or.inr (slot_ne (Or.inl (C.w 55 rfl)) (Or.inl (C.w 53 rfl)) (by decide) (t := .long) (t' := .int) (by decide) (by decide)))
  have F35 := F20.other W27 (Or.inr (slot_ne (Or.inl (C.w 57 rfl)) (Or.inl (C.w 53 rfl)) (by decide) (t := .int) (t' := .int) (by decide) (by decide)))
  have K36 := K21.wr W27 (Or.inl (List.mem_of_getElem? (i := 0) rfl))
  refine go_aloadN C X25 77 rfl d25_76 rfl rfl ?_
  refine go_getS C X25 (C.w 41 rfl) (SM0.ext X25.old.2) (pc' := 80) rfl d25_77 (fun T37 X38 => ?_)
  refine go_putF C X38 (C.w 44 rfl) Via.refl F30 E29 (Or.inl (C.w 45 rfl)) (C.w 28 rfl) ga (ty := (.object "com/example/plantilla/plantilla/ScriptText$Mode")) (by decide) rfl rfl (pc' := 83) rfl d25_80 (fun T39 h41 W42 X40 => ?_)
  have F43 := F30.same W42
  have E44 := E29.wr W42
  have F45 := F31.other W42 (Or.inr (slot_ne (Or.inl (C.w 47 rfl)) (Or.inl (C.w 45 rfl)) (by decide) (t := .boolean) (t' := (.object "com/example/plantilla/plantilla/ScriptText$Mode")) (by decide) (by decide)))
  have F46 := F32.other W42 (Or.inr (slot_ne (Or.inl (C.w 49 rfl)) (Or.inl (C.w 45 rfl)) (by decide) (t := .long) (t' := (.object "com/example/plantilla/plantilla/ScriptText$Mode")) (by decide) (by decide)))
  have F47 := F33.other W42 (Or.inr (slot_ne (Or.inl (C.w 51 rfl)) (Or.inl (C.w 45 rfl)) (by decide) (t := .boolean) (t' := (.object "com/example/plantilla/plantilla/ScriptText$Mode")) (by decide) (by decide)))
  have F48 := F28.other W42 (Or.inr (slot_ne (Or.inl (C.w 53 rfl)) (Or.inl (C.w 45 rfl)) (by decide) (t := .int) (t' := (.object "com/example/plantilla/plantilla/ScriptText$Mode")) (by decide) (by decide)))
  have F49 := F34.other W42 (Or.inr (slot_ne (Or.inl (C.w 55 rfl)) (Or.inl (C.w 45 rfl)) (by decide) (t := .long) (t' := (.object "com/example/plantilla/plantilla/ScriptText$Mode")) (by decide) (by decide)))
  have F50 := F35.other W42 (Or.inr (slot_ne (Or.inl (C.w 57 rfl)) (Or.inl (C.w 45 rfl)) (by decide) (t := .int) (t' := (.object "com/example/plantilla/plantilla/ScriptText$Mode")) (by decide) (by decide)))
  have K51 := K36.wr W42 (Or.inl (List.mem_of_getElem? (i := 0) rfl))
  refine go_aloadN C X40 84 rfl d25_83 rfl rfl ?_
  refine go_iconst C X40 85 rfl d25_84 (z := 1) rfl ?_
  refine go_putFN C X40 (C.w 46 rfl) Via.refl F45 E44 (Or.inl (C.w 47 rfl)) (C.w 28 rfl) ga (ty := .boolean) (by decide) (v' := (.int (1 : Int32))) rfl rfl (pc' := 88) rfl d25_85 (fun T52 h54 W55 X53 => ?_)
  have F56 := F45.same W55
  have E57 := E44.wr W55
  have F58 := F43.other W55 (Or.inr (slot_ne (Or.inl (C.w 45 rfl)) (Or.inl (C.w 47 rfl)) (by decide) (t := (.object "com/example/plantilla/plantilla/ScriptText$Mode")) (t' := .boolean) (by decide) (by decide)))
  have F59 := F46.other W55 (Or.inr (slot_ne (Or.inl (C.w 49 rfl)) (Or.inl (C.w 47 rfl)) (by decide) (t := .long) (t' := .boolean) (by decide) (by decide)))
  have F60 := F47.other W55 (Or.inr (slot_ne (Or.inl (C.w 51 rfl)) (Or.inl (C.w 47 rfl)) (by decide) (t := .boolean) (t' := .boolean) (by decide) (by decide)))
  have F61 := F48.other W55 (Or.inr (slot_ne (Or.inl (C.w 53 rfl)) (Or.inl (C.w 47 rfl)) (by decide) (t := .int) (t' := .boolean) (by decide) (by decide)))
  have F62 := F49.other W55 (Or.inr (slot_ne (Or.inl (C.w 55 rfl)) (Or.inl (C.w 47 rfl)) (by decide) (t := .long) (t' := .boolean) (by decide) (by decide)))
  have F63 := F50.other W55 (Or.inr (slot_ne (Or.inl (C.w 57 rfl)) (Or.inl (C.w 47 rfl)) (by decide) (t := .int) (t' := .boolean) (by decide) (by decide)))
  have K64 := K51.wr W55 (Or.inl (List.mem_of_getElem? (i := 0) rfl))
  exact go_ret0 C X53 d25_88 ⟨rfl, K64, E57, F58, F56, F59, F60, F61, F62, F63⟩ (by decide) (by decide)
theorem ef_own_m24_34 (m : MethodId) (a : Addr)  : entryFrame m #[(.ref a), (.int (123 : Int32))] 2 = mkF m 0 #[rv a, iv (123 : Int32)] [] := by
  first | (simp [entryFrame, mkF, argsToLocals, Value.category]; done) | rfl
set_option maxRecDepth 65536 in
set_option maxHeartbeats 40000000 in
theorem own_m24_34 (l : Launch) (Z : State) (a0 : Array Value) (hw : ∀ d ∈ tables_1, d.before a0 Z = true) (a : Addr) (mc ms mt md be : Addr) (cs : Int32) (fv : Value)  (h : Heap) (n0 : Nat) (hn0 : Old Z n0 h) (hE : own_E Z mc ms mt md be cs fv)  (hS : own_F Z h a md (1 : Int32) (0 : Int64) (0 : Int32) (32 : Int32) (0 : Int64) (0 : Int32)) (ga : n0 ≤ a) :
    Con l Z (⟨"com/example/plantilla/plantilla/ScriptText", "readAfterDollar", "(C)V"⟩ : MethodName) prog_37_method_15_code 2 none ({ frames := 1, cells := 0, slots := 0, locals := 15 } : Room) #[(.ref a), (.int (123 : Int32))] h n0 (fun v h' => v = none ∧ Keep h h' [a] ∧ own_F Z h' a mc (1 : Int32) (0 : Int64) (0 : Int32) (33 : Int32) (4294967296 : Int64) (0 : Int32)) := by
  refine con_of hw (plainFor_of_name pn_com_example_plantilla_plantilla_ScriptText) hn0 ?_
  intro p e s m below meth c T0 C X0
  refine Go.cast (congrArg T0.setTop (ef_own_m24_34 m a)) ?_
  have hE1 := hE
  obtain ⟨SM0, SM1, SM2, SM3, EM0, EM1, EM2, EM3, FM0, FM1, FM2, FM3, SB, AB, hcs, S1, hfv, S2⟩ := hE1
  obtain ⟨E0, FF0, FF1, FF2, FF3, FF4, FF5, FF6⟩ := hS
  refine go_iloadN C X0 1 rfl d24_0 rfl ?_
  refine go_bipush C X0 3 rfl d24_1 (z := 123) rfl ?_
  refine go_icmp_ne C X0 d24_3 (pc' := 6) (pc2 := 14) rfl (by decide) (by decide) (fun (c3 : ¬ (123 : Int32) = (123 : Int32)) => False.elim (by first | omega | exact absurd c3 (by decide))) (fun (c3 : (123 : Int32) = (123 : Int32)) => ?_)
  refine go_aloadN C X0 7 rfl d24_6 rfl rfl ?_
  refine go_iconst C X0 8 rfl d24_7 (z := 1) rfl ?_
  refine go_private C X0 E0 (C.w 164 rfl) (C.w 165 rfl) (Jvm.Kit.selects_private (by decide) (C.w 28 rfl) (C.w 166 rfl) (C.w 165 rfl)) (C.w 166 rfl) (C.w 29 rfl) (C.w 167 rfl) (own_m25_35 l Z a0 C.ws a mc ms mt md be cs fv  h n0 X0.old hE  ⟨E0, FF0, FF1, FF2, FF3, FF4, FF5, FF6⟩ ga) (argsL := [(.int (1 : Int32))]) (rest := []) (lenOf pd_9 rfl) rfl (by decide) (by decide) (Nat.le_of_ble_eq_true rfl) (by decide) (by decide) rfl rfl (pc' := 11) rfl d24_8 ?_
  rintro T1 h3 _ ⟨rfl, Kq4, Eq4, Fq40, Fq41, Fq42, Fq43, Fq44, Fq45, Fq46⟩ X2
  show Go p e below _ (T1.setTop (mkF m 11 #[rv a, iv (123 : Int32)] []))
  have E5 := E0.keep Kq4
  have K6 := (Keep.refl h [a]).trans Kq4 (allS (Or.inl (List.mem_of_getElem? (i := 0) rfl)) all0)
  refine go_goto C X2 d24_11 (pc' := 26) (by decide) (by decide) ?_
  exact go_ret0 C X2 d24_26 ⟨rfl, K6, Eq4, Fq40, Fq41, Fq42, Fq43, Fq44, Fq45, Fq46⟩ (by decide) (by decide)
theorem ef_own_d32 (m : MethodId) (a : Addr)  : entryFrame m #[(.ref a), (.int (123 : Int32))] 2 = mkF m 0 #[rv a, iv (123 : Int32)] [] := by
  first | (simp [entryFrame, mkF, argsToLocals, Value.category]; done) | rfl
set_option maxRecDepth 65536 in
set_option maxHeartbeats 40000000 in
theorem own_d32 (l : Launch) (Z : State) (a0 : Array Value) (hw : ∀ d ∈ tables_1, d.before a0 Z = true) (a : Addr) (la lb : Addr) (mc ms mt md be : Addr) (cs : Int32) (fv : Value)  (h : Heap) (n0 : Nat) (hn0 : Old Z n0 h) (hE : own_E Z mc ms mt md be cs fv)  (hS : own_F Z h a md (1 : Int32) (0 : Int64) (0 : Int32) (32 : Int32) (0 : Int64) (0 : Int32)) (ga : n0 ≤ a) :
    ConP l Z (LdV Z "com/example/plantilla/plantilla/ScriptText" 120 la) (⟨"com/example/plantilla/plantilla/ScriptText", "read", "(C)V"⟩ : MethodName) prog_37_method_9_code 2 none ({ frames := 4, cells := 0, slots := 0, locals := 90 } : Room) #[(.ref a), (.int (123 : Int32))] h n0 (fun v h' => v = none ∧ Keep h h' [a] ∧ own_F Z h' a mc (1 : Int32) (0 : Int64) (0 : Int32) (33 : Int32) (4294967296 : Int64) (0 : Int32)) := by
  refine conP_of hw (plainFor_of_name pn_com_example_plantilla_plantilla_ScriptText) hn0 ?_
  intro p e s m below meth c T0 C hPX X0
  refine Go.cast (congrArg T0.setTop (ef_own_d32 m a)) ?_
  have hE1 := hE
  obtain ⟨SM0, SM1, SM2, SM3, EM0, EM1, EM2, EM3, FM0, FM1, FM2, FM3, SB, AB, hcs, S1, hfv, S2⟩ := hE1
  obtain ⟨E0, FF0, FF1, FF2, FF3, FF4, FF5, FF6⟩ := hS
  refine go_aloadN C X0 1 rfl d12_0 rfl rfl ?_
  refine go_getF C X0 (C.w 44 rfl) Via.refl FF0 (pc' := 4) rfl d12_1 (fun T1 X2 => ?_)
  refine go_virtualU C X2 (EM3.ext X2.old.2) (C.w 103 rfl) (C.w 104 rfl) (C.w 105 rfl) (C.w 107 rfl) (C.w 106 rfl) (C.w 108 rfl) (C.w 109 rfl) (own_ord l Z a0 C.ws md 5 h n0 X2.old (FM3.ext X2.old.2)) (argsL := []) (rest := []) (lenOf pd_8 rfl) rfl (by decide) (by decide) (Nat.le_of_ble_eq_true rfl) (by decide) (by decide) rfl rfl (pc' := 7) rfl d12_4 ?_
  rintro T3 _ _ ⟨rfl, rfl⟩ X4
  show Go p e below _ (T3.setTop (mkF m 7 #[rv a, iv (123 : Int32)] [(.int (5 : Int32))]))
  refine go_tabIn C X4 d12_7 (by decide) (off := 93) (by first | decide | rfl) (pc2 := 100) (by decide) (by decide) ?_
  refine go_aloadN C X4 101 rfl d12_100 rfl rfl ?_
  refine go_iloadN C X4 102 rfl d12_101 rfl ?_
  refine go_private C X4 E0 (C.w 160 rfl) (C.w 161 rfl) (Jvm.Kit.selects_private (by decide) (C.w 28 rfl) (C.w 162 rfl) (C.w 161 rfl)) (C.w 162 rfl) (C.w 29 rfl) (C.w 163 rfl) (own_m24_34 l Z a0 C.ws a mc ms mt md be cs fv  h n0 X4.old hE  ⟨E0, FF0, FF1, FF2, FF3, FF4, FF5, FF6⟩ ga) (argsL := [(.int (123 : Int32))]) (rest := []) (lenOf pd_7 rfl) rfl (by decide) (by decide) (Nat.le_of_ble_eq_true rfl) (by decide) (by decide) rfl rfl (pc' := 105) rfl d12_102 ?_
  rintro T6 h8 _ ⟨rfl, Kq9, Eq9, Fq90, Fq91, Fq92, Fq93, Fq94, Fq95, Fq96⟩ X7
  show Go p e below _ (T6.setTop (mkF m 105 #[rv a, iv (123 : Int32)] []))
  have E10 := E0.keep Kq9
  have K11 := (Keep.refl h [a]).trans Kq9 (allS (Or.inl (List.mem_of_getElem? (i := 0) rfl)) all0)
  refine go_goto C X7 d12_105 (pc' := 177) (by decide) (by decide) ?_
  exact go_ret0 C X7 d12_177 ⟨rfl, K11, Eq9, Fq90, Fq91, Fq92, Fq93, Fq94, Fq95, Fq96⟩ (by decide) (by decide)
theorem own_d32_r (l : Launch) (Z : State) (a0 : Array Value) (hw : ∀ d ∈ tables_1, d.before a0 Z = true) (mc ms mt md be : Addr) (cs : Int32) (fv : Value)  (hE : own_E Z mc ms mt md be cs fv)  : own_R l Z (md, 1, 0, 0, 32, 0, 0) (123 : Int32) (mc, 1, 0, 0, 33, 4294967296, 0) := fun h n0 a la lb ho ga hS _ _ _ => own_d32 l Z a0 hw a la lb mc ms mt md be cs fv  h n0 ho hE  hS ga
def own_Ch (l : Launch) (Z : State) : List Int32 → own_Sv → own_Sv → Prop
  | [], q, q' => q = q'
  | c :: cs, q, q' => ∃ q1, own_R l Z q c q1 ∧ own_Ch l Z cs q1 q'
def own_XCh (l : Launch) (Z : State) (bs : List Int32) (q q' : own_Sv) : Prop := (bs = [] ∧ q = q') ∨ ∃ (c : Int32) (cs : List Int32) (q1 : own_Sv), bs = c :: cs ∧ own_RX l Z q c q1 ∧ own_Ch l Z cs q1 q'
theorem own_LTk {Z : State} {h h' : Heap} {la lb a : Addr} (L : Sg Z h la lb own_LT) (K : Keep h h' [a]) (n1 : la ≠ a) (n2 : lb ≠ a) : Sg Z h' la lb own_LT := ⟨L.1.keep K, L.2.1.keep K (ninS n1 nin0), L.2.2.1.keep K (ninS n1 nin0), L.2.2.2.keep K (ninS n2 nin0)⟩
theorem d4_0 : decode prog_37_method_8_code 0 = .ok (.iconst 0, 1) := by decide +kernel
theorem d4_1 : decode prog_37_method_8_code 1 = .ok (.istore_n 2, 1) := by decide +kernel
theorem d4_2 : decode prog_37_method_8_code 2 = .ok (.iload_n 2, 1) := by decide +kernel
theorem d4_3 : decode prog_37_method_8_code 3 = .ok (.aload_n 1, 1) := by decide +kernel
theorem d4_4 : decode prog_37_method_8_code 4 = .ok (.invokevirtual 61, 3) := by decide +kernel
theorem d4_7 : decode prog_37_method_8_code 7 = .ok (.if_icmp .ge 18, 3) := by decide +kernel
theorem d4_25 : decode prog_37_method_8_code 25 = .ok (.return_, 1) := by decide +kernel
theorem d4_10 : decode prog_37_method_8_code 10 = .ok (.aload_n 0, 1) := by decide +kernel
theorem d4_11 : decode prog_37_method_8_code 11 = .ok (.aload_n 1, 1) := by decide +kernel
theorem d4_12 : decode prog_37_method_8_code 12 = .ok (.iload_n 2, 1) := by decide +kernel
theorem pd_13 : parseMethodDescriptor "(I)C" = some ⟨[.int], some .char⟩ := by decide +kernel
theorem d4_13 : decode prog_37_method_8_code 13 = .ok (.invokevirtual 67, 3) := by decide +kernel
theorem d4_16 : decode prog_37_method_8_code 16 = .ok (.invokevirtual 71, 3) := by decide +kernel
theorem d4_19 : decode prog_37_method_8_code 19 = .ok (.iinc 2 1, 3) := by decide +kernel
theorem d4_22 : decode prog_37_method_8_code 22 = .ok (.goto (-20), 3) := by decide +kernel
theorem ef_own_rdX (m : MethodId) (a : Addr) (sa : Addr)  : entryFrame m #[(.ref a), (.ref sa)] 3 = mkF m 0 #[rv a, rv sa, un] [] := by
  first | (simp [entryFrame, mkF, argsToLocals, Value.category]; done) | rfl
set_option maxRecDepth 65536 in
set_option maxHeartbeats 40000000 in
theorem own_rdX (l : Launch) (Z : State) (a0 : Array Value) (hw : ∀ d ∈ tables_1, d.before a0 Z = true) (a : Addr) (sa : Addr) (sb : Addr) (bs : List Int32) (q q2 : own_Sv) (mc ms mt md be : Addr) (cs : Int32) (fv : Value) (h : Heap) (n0 : Nat) (hn0 : Old Z n0 h) (hEL : EW Z a0 consts_1) (hE : own_E Z mc ms mt md be cs fv) (hS : own_S Z h a q) (ga : n0 ≤ a) (hT : Sg Z h sa sb (ia bs)) (hb : own_asc bs) (nsa : sa ≠ a) (nsb : sb ≠ a) (hCh : own_XCh l Z bs q q2) :
    ConX l Z consts_1 (fun _ => True) (⟨"com/example/plantilla/plantilla/ScriptText", "read", "(Ljava/lang/String;)V"⟩ : MethodName) prog_37_method_8_code 3 none ({ frames := 5, cells := 2, slots := 20, locals := 103 } : Room) #[(.ref a), (.ref sa)] h n0 (fun v h' vm' => v = none ∧ Keep h h' [a] ∧ own_S Z h' a q2) := by
  refine conX_of hw (plainFor_of_name pn_com_example_plantilla_plantilla_ScriptText) hn0 ?_
  intro p e sv0 s m below meth c T0 C _ WI0 X0
  refine Go.cast (congrArg T0.setTop (ef_own_rdX m a sa)) ?_
  have hE1 := hE
  obtain ⟨SM0, SM1, SM2, SM3, EM0, EM1, EM2, EM3, FM0, FM1, FM2, FM3, SB, AB, hcs, S1, hfv, S2⟩ := hE1
  refine go_iconst C X0 1 rfl d4_0 (z := 0) rfl ?_
  refine go_istoreN C X0 2 rfl d4_1 #[rv a, rv sa, iv (0 : Int32)] rfl ?_
  have hl31 := hT.2.2.2.len
  rw [ia_len] at hl31
  have hn := own_l32 hl31
  have hl30 : bs.length < 2147483648 := hl31
  have z0 : (0 : Int32).toInt = 0 := rfl
  rcases hCh with ⟨hb0, hq⟩ | ⟨c9, cs9, q1, hb0, hR, hCh⟩
  · have hb1 : bs.length = 0 := by rw [hb0]; rfl
    refine go_iloadN C X0 3 rfl d4_2 rfl ?_
    refine go_aloadN C X0 4 rfl d4_3 rfl rfl ?_
    refine go_virtual C X0 hT.1 (C.w 63 rfl) (C.w 64 rfl) (notFace_of_selects (args := #[]) (mvT C.hZ (C.w 66 rfl))) (C.w 66 rfl) (C.w 65 rfl) (C.w 3 rfl) (C.w 67 rfl) (own_len l Z a0 C.ws sa sb bs bs.length.toInt32 cs fv h n0 X0.old hT.1 hT.2.1 hT.2.2.1 hT.2.2.2 rfl hcs S1 hfv S2) (argsL := []) (rest := [(.int (0 : Int32))]) (lenOf pd_8 rfl) rfl (by decide) (by decide) (Nat.le_of_ble_eq_true rfl) (by decide) (by decide) rfl rfl (pc' := 7) rfl d4_4 ?_
    rintro T1 _ _ ⟨rfl, rfl⟩ X2
    show Go p e below _ (T1.setTop (mkF m 7 #[rv a, rv sa, iv (0 : Int32)] [(.int bs.length.toInt32), (.int (0 : Int32))]))
    refine go_icmp_ge C X2 d4_7 (pc' := 10) (pc2 := 25) rfl (by decide) (by decide) (fun (c7 : bs.length.toInt32.toInt ≤ 0) => ?_) (fun (c7 : 0 < bs.length.toInt32.toInt) => False.elim (by omega))
    exact go_ret0X C X2 WI0 hEL d4_25 (fun vm' W9 => ⟨rfl, Keep.refl h [a], by rw [← hq]; exact hS⟩) (by decide) (by decide)
  · have hb1 : bs.length = cs9.length + 1 := by rw [hb0]; rfl
    refine go_iloadN C X0 3 rfl d4_2 rfl ?_
    refine go_aloadN C X0 4 rfl d4_3 rfl rfl ?_
    refine go_virtual C X0 hT.1 (C.w 63 rfl) (C.w 64 rfl) (notFace_of_selects (args := #[]) (mvT C.hZ (C.w 66 rfl))) (C.w 66 rfl) (C.w 65 rfl) (C.w 3 rfl) (C.w 67 rfl) (own_len l Z a0 C.ws sa sb bs bs.length.toInt32 cs fv h n0 X0.old hT.1 hT.2.1 hT.2.2.1 hT.2.2.2 rfl hcs S1 hfv S2) (argsL := []) (rest := [(.int (0 : Int32))]) (lenOf pd_8 rfl) rfl (by decide) (by decide) (Nat.le_of_ble_eq_true rfl) (by decide) (by decide) rfl rfl (pc' := 7) rfl d4_4 ?_
    rintro T4 _ _ ⟨rfl, rfl⟩ X5
    show Go p e below _ (T4.setTop (mkF m 7 #[rv a, rv sa, iv (0 : Int32)] [(.int bs.length.toInt32), (.int (0 : Int32))]))
    refine go_icmp_ge C X5 d4_7 (pc' := 10) (pc2 := 25) rfl (by decide) (by decide) (fun (c7 : bs.length.toInt32.toInt ≤ 0) => False.elim (by omega)) (fun (c7 : 0 < bs.length.toInt32.toInt) => ?_)
    refine go_aloadN C X5 11 rfl d4_10 rfl rfl ?_
    refine go_aloadN C X5 12 rfl d4_11 rfl rfl ?_
    refine go_iloadN C X5 13 rfl d4_12 rfl ?_
    refine go_virtual C X5 hT.1 (C.w 76 rfl) (C.w 77 rfl) (notFace_of_selects (args := #[]) (mvT C.hZ (C.w 79 rfl))) (C.w 79 rfl) (C.w 78 rfl) (C.w 3 rfl) (C.w 80 rfl) (own_chr l Z a0 C.ws sa (0 : Int32) sb bs cs fv h n0 X5.old hT.1 hT.2.1 hT.2.2.1 hT.2.2.2 hb ⟨by decide, by omega⟩ hcs S1 hfv S2) (argsL := [(.int (0 : Int32))]) (rest := [(.ref a)]) (lenOf pd_13 rfl) rfl (by decide) (by decide) (Nat.le_of_ble_eq_true rfl) (by decide) (by decide) rfl rfl (pc' := 16) rfl d4_13 ?_
    rintro T7 _ _ ⟨rfl, rfl⟩ X8
    show Go p e below _ (T7.setTop (mkF m 16 #[rv a, rv sa, iv (0 : Int32)] [(.int (at32 bs (0 : Int32))), (.ref a)]))
    have e0 : at32 bs (0 : Int32) = c9 := by rw [hb0]; rfl
    rw [e0]
    refine go_virtualX C X8 WI0 hEL hS.1 (C.w 98 rfl) (C.w 99 rfl) (notFace_of_selects (args := #[]) (mvT C.hZ (C.w 101 rfl))) (C.w 101 rfl) (C.w 100 rfl) (C.w 29 rfl) (C.w 102 rfl) (hR h n0 a X8.old ga hS) (fun _ _ => trivial) (argsL := [(.int c9)]) (rest := []) (lenOf pd_7 rfl) rfl (by decide) (by decide) (Nat.le_of_ble_eq_true rfl) (by decide) (by decide) rfl rfl (pc' := 19) rfl d4_16 ?_
    rintro s T10 h12 _ ⟨rfl, K1, hS1, la, lb, hLd, hL1, nla, nlb⟩ C WI13 X11
    show Go p e below _ (T10.setTop (mkF m 19 #[rv a, rv sa, iv (0 : Int32)] []))
    have E14 := hS.1.keep K1
    have E15 := hT.1.keep K1
    have F16 := hT.2.1.keep K1 (ninS nsa nin0)
    have F17 := hT.2.2.1.keep K1 (ninS nsa nin0)
    have A18 := hT.2.2.2.keep K1 (ninS nsb nin0)
    have K19 := (Keep.refl h [a]).trans K1 (allS (Or.inl (List.mem_of_getElem? (i := 0) rfl)) all0)
    refine go_iinc C X11 22 rfl d4_19 rfl (z := 1) rfl #[rv a, rv sa, iv (1 : Int32)] rfl ?_
    refine go_goto C X11 d4_22 (pc' := 2) (by decide) (by decide) ?_
    have LP : ∀ (mm : Nat) (T1 : State) (h1 : Heap) (X1 : St Z p l e ({ frames := 5, cells := 2, slots := 20, locals := 103 } : Room) s m #[(.ref a), (.ref sa)] below meth c n0 T1 h1 (0 + 2) (0 + 20)) (i : Int32) (q3 : own_Sv) (_ : own_S Z h1 a q3) (_ : Sg Z h1 sa sb (ia bs)) (_ : Sg Z h1 la lb own_LT) (_ : Keep h h1 [a]) (_ : Wi Z consts_1 sv0 s h1) (_ : own_Ch l Z (bs.drop i.toNatClampNeg) q3 q2) (_ : 0 ≤ i.toInt ∧ i.toInt + mm = bs.length), Go p e below (FinX Z consts_1 sv0 ({ frames := 5, cells := 2, slots := 20, locals := 103 } : Room).cells ({ frames := 5, cells := 2, slots := 20, locals := 103 } : Room).slots n0 (fun v h' vm' => v = none ∧ Keep h h' [a] ∧ own_S Z h' a q2)) (T1.setTop (mkF m 2 #[rv a, rv sa, iv i] [])) := by
      intro mm
      induction mm with
      | zero =>
        intro T1 h1 X1 i q3 hS3 hT3 hL3 K3 WI3 hC3 q9
        refine go_iloadN C X1 3 rfl d4_2 rfl ?_
        refine go_aloadN C X1 4 rfl d4_3 rfl rfl ?_
        refine go_virtual C X1 hT3.1 (C.w 63 rfl) (C.w 64 rfl) (notFace_of_selects (args := #[]) (mvT C.hZ (C.w 66 rfl))) (C.w 66 rfl) (C.w 65 rfl) (C.w 3 rfl) (C.w 67 rfl) (own_len l Z a0 C.ws sa sb bs bs.length.toInt32 cs fv h1 n0 X1.old hT3.1 hT3.2.1 hT3.2.2.1 hT3.2.2.2 rfl hcs S1 hfv S2) (argsL := []) (rest := [(.int i)]) (lenOf pd_8 rfl) rfl (by decide) (by decide) (Nat.le_of_ble_eq_true rfl) (by decide) (by decide) rfl rfl (pc' := 7) rfl d4_4 ?_
        rintro T20 _ _ ⟨rfl, rfl⟩ X21
        show Go p e below _ (T20.setTop (mkF m 7 #[rv a, rv sa, iv i] [(.int bs.length.toInt32), (.int i)]))
        refine go_icmp_ge C X21 d4_7 (pc' := 10) (pc2 := 25) rfl (by decide) (by decide) (fun (c7 : bs.length.toInt32.toInt ≤ i.toInt) => ?_) (fun (c7 : i.toInt < bs.length.toInt32.toInt) => False.elim (by omega))
        exact go_ret0X C X21 WI3 hEL d4_25 (fun vm' W9 => ⟨rfl, K3, by have e : bs.drop i.toNatClampNeg = [] := List.drop_eq_nil_of_le (by have := clamp_eq q9.1; omega); rw [e] at hC3; have e2 : q3 = q2 := hC3; rw [← e2]; exact hS3⟩) (by decide) (by decide)
      | succ mm ih =>
        intro T1 h1 X1 i q3 hS3 hT3 hL3 K3 WI3 hC3 q9
        refine go_iloadN C X1 3 rfl d4_2 rfl ?_
        refine go_aloadN C X1 4 rfl d4_3 rfl rfl ?_
        refine go_virtual C X1 hT3.1 (C.w 63 rfl) (C.w 64 rfl) (notFace_of_selects (args := #[]) (mvT C.hZ (C.w 66 rfl))) (C.w 66 rfl) (C.w 65 rfl) (C.w 3 rfl) (C.w 67 rfl) (own_len l Z a0 C.ws sa sb bs bs.length.toInt32 cs fv h1 n0 X1.old hT3.1 hT3.2.1 hT3.2.2.1 hT3.2.2.2 rfl hcs S1 hfv S2) (argsL := []) (rest := [(.int i)]) (lenOf pd_8 rfl) rfl (by decide) (by decide) (Nat.le_of_ble_eq_true rfl) (by decide) (by decide) rfl rfl (pc' := 7) rfl d4_4 ?_
        rintro T23 _ _ ⟨rfl, rfl⟩ X24
        show Go p e below _ (T23.setTop (mkF m 7 #[rv a, rv sa, iv i] [(.int bs.length.toInt32), (.int i)]))
        refine go_icmp_ge C X24 d4_7 (pc' := 10) (pc2 := 25) rfl (by decide) (by decide) (fun (c7 : bs.length.toInt32.toInt ≤ i.toInt) => False.elim (by omega)) (fun (c7 : i.toInt < bs.length.toInt32.toInt) => ?_)
        refine go_aloadN C X24 11 rfl d4_10 rfl rfl ?_
        refine go_aloadN C X24 12 rfl d4_11 rfl rfl ?_
        refine go_iloadN C X24 13 rfl d4_12 rfl ?_
        refine go_virtual C X24 hT3.1 (C.w 76 rfl) (C.w 77 rfl) (notFace_of_selects (args := #[]) (mvT C.hZ (C.w 79 rfl))) (C.w 79 rfl) (C.w 78 rfl) (C.w 3 rfl) (C.w 80 rfl) (own_chr l Z a0 C.ws sa i sb bs cs fv h1 n0 X24.old hT3.1 hT3.2.1 hT3.2.2.1 hT3.2.2.2 hb ⟨q9.1, by omega⟩ hcs S1 hfv S2) (argsL := [(.int i)]) (rest := [(.ref a)]) (lenOf pd_13 rfl) rfl (by decide) (by decide) (Nat.le_of_ble_eq_true rfl) (by decide) (by decide) rfl rfl (pc' := 16) rfl d4_13 ?_
        rintro T26 _ _ ⟨rfl, rfl⟩ X27
        show Go p e below _ (T26.setTop (mkF m 16 #[rv a, rv sa, iv i] [(.int (at32 bs i)), (.ref a)]))
        rw [own_drop q9.1 (by omega) hl31] at hC3
        obtain ⟨q4, hR4, hC4⟩ : ∃ q4, own_R l Z q3 (at32 bs i) q4 ∧ own_Ch l Z (bs.drop (i + 1).toNatClampNeg) q4 q2 := hC3
        refine go_virtualP C X27 hS3.1 (C.w 98 rfl) (C.w 99 rfl) (notFace_of_selects (args := #[]) (mvT C.hZ (C.w 101 rfl))) (C.w 101 rfl) (C.w 100 rfl) (C.w 29 rfl) (C.w 102 rfl) (hR4 h1 n0 a la lb X27.old ga hS3 hL3 nla nlb) (fun vm' W => hLd.warm W) (argsL := [(.int (at32 bs i))]) (rest := []) (lenOf pd_7 rfl) rfl (by decide) (by decide) (Nat.le_of_ble_eq_true rfl) (by decide) (by decide) rfl rfl (pc' := 19) rfl d4_16 ?_
        rintro T29 h31 _ ⟨rfl, K5, hS5⟩ X30
        show Go p e below _ (T29.setTop (mkF m 19 #[rv a, rv sa, iv i] []))
        have WI32 := WI3.keep K5 (sfS (safeE C hS3.1 (by decide) (by decide)) sf0)
        have E33 := hS3.1.keep K5
        have E34 := hT3.1.keep K5
        have F35 := hT3.2.1.keep K5 (ninS nsa nin0)
        have F36 := hT3.2.2.1.keep K5 (ninS nsa nin0)
        have A37 := hT3.2.2.2.keep K5 (ninS nsb nin0)
        have K38 := K3.trans K5 (allS (Or.inl (List.mem_of_getElem? (i := 0) rfl)) all0)
        have hL5 := own_LTk hL3 K5 nla nlb
        refine go_iinc C X30 22 rfl d4_19 rfl (z := 1) rfl #[rv a, rv sa, iv (i + (1 : Int32))] rfl ?_
        refine go_goto C X30 d4_22 (pc' := 2) (by decide) (by decide) ?_
        have e1 : (i + 1).toInt = i.toInt + 1 := i_add rfl rfl (by omega) (by omega)
        exact ih _ _ X30 _ q4 hS5 ⟨E34, F35, F36, A37⟩ hL5 K38 WI32 hC4 ⟨by omega, by omega⟩
    have e1 : (1 : Int32).toNatClampNeg = 1 := by decide
    have z1 : (1 : Int32).toInt = 1 := rfl
    exact LP cs9.length _ _ X11 (1 : Int32) q1 hS1 ⟨E15, F16, F17, A18⟩ hL1 K19 WI13 (by rw [hb0, e1]; exact hCh) ⟨by decide, by omega⟩
def own_s6 (r1 r2 : own_Sr) : Int32 := if r1.1 = r2.1 then if r1.2.1 = r2.2.1 then if r1.2.2.1 = r2.2.2.1 then if r1.2.2.2.1 = r2.2.2.2.1 then if r1.2.2.2.2.1 = r2.2.2.2.2.1 then if r1.2.2.2.2.2 = r2.2.2.2.2.2 then 1 else 0 else 0 else 0 else 0 else 0 else 0
def own_sq (q1 q2 : own_Sv) : Int32 := if q1.1 = q2.1 then own_s6 q1.2 q2.2 else 0
theorem d18_0 : decode prog_37_method_4_code 0 = .ok (.aload_n 0, 1) := by decide +kernel
theorem d18_1 : decode prog_37_method_4_code 1 = .ok (.getfield 24, 3) := by decide +kernel
theorem d18_4 : decode prog_37_method_4_code 4 = .ok (.aload_n 1, 1) := by decide +kernel
theorem d18_5 : decode prog_37_method_4_code 5 = .ok (.getfield 24, 3) := by decide +kernel
theorem d18_8 : decode prog_37_method_4_code 8 = .ok (.if_acmp .ne 75, 3) := by decide +kernel
theorem d18_83 : decode prog_37_method_4_code 83 = .ok (.iconst 0, 1) := by decide +kernel
theorem d18_84 : decode prog_37_method_4_code 84 = .ok (.ireturn, 1) := by decide +kernel
theorem d18_11 : decode prog_37_method_4_code 11 = .ok (.aload_n 0, 1) := by decide +kernel
theorem d18_12 : decode prog_37_method_4_code 12 = .ok (.getfield 27, 3) := by decide +kernel
theorem d18_15 : decode prog_37_method_4_code 15 = .ok (.aload_n 1, 1) := by decide +kernel
theorem d18_16 : decode prog_37_method_4_code 16 = .ok (.getfield 27, 3) := by decide +kernel
theorem d18_19 : decode prog_37_method_4_code 19 = .ok (.if_icmp .ne 64, 3) := by decide +kernel
theorem d18_22 : decode prog_37_method_4_code 22 = .ok (.aload_n 0, 1) := by decide +kernel
theorem d18_23 : decode prog_37_method_4_code 23 = .ok (.getfield 33, 3) := by decide +kernel
theorem d18_26 : decode prog_37_method_4_code 26 = .ok (.aload_n 1, 1) := by decide +kernel
theorem d18_27 : decode prog_37_method_4_code 27 = .ok (.getfield 33, 3) := by decide +kernel
theorem d18_30 : decode prog_37_method_4_code 30 = .ok (.lcmp, 1) := by decide +kernel
theorem d18_31 : decode prog_37_method_4_code 31 = .ok (.ifCond .ne 52, 3) := by decide +kernel
theorem d18_34 : decode prog_37_method_4_code 34 = .ok (.aload_n 0, 1) := by decide +kernel
theorem d18_35 : decode prog_37_method_4_code 35 = .ok (.getfield 37, 3) := by decide +kernel
theorem d18_38 : decode prog_37_method_4_code 38 = .ok (.aload_n 1, 1) := by decide +kernel
theorem d18_39 : decode prog_37_method_4_code 39 = .ok (.getfield 37, 3) := by decide +kernel
theorem d18_42 : decode prog_37_method_4_code 42 = .ok (.if_icmp .ne 41, 3) := by decide +kernel
theorem d18_45 : decode prog_37_method_4_code 45 = .ok (.aload_n 0, 1) := by decide +kernel
theorem d18_46 : decode prog_37_method_4_code 46 = .ok (.getfield 40, 3) := by decide +kernel
theorem d18_49 : decode prog_37_method_4_code 49 = .ok (.aload_n 1, 1) := by decide +kernel
theorem d18_50 : decode prog_37_method_4_code 50 = .ok (.getfield 40, 3) := by decide +kernel
theorem d18_53 : decode prog_37_method_4_code 53 = .ok (.if_icmp .ne 30, 3) := by decide +kernel
theorem d18_56 : decode prog_37_method_4_code 56 = .ok (.aload_n 0, 1) := by decide +kernel
theorem d18_57 : decode prog_37_method_4_code 57 = .ok (.getfield 44, 3) := by decide +kernel
theorem d18_60 : decode prog_37_method_4_code 60 = .ok (.aload_n 1, 1) := by decide +kernel
theorem d18_61 : decode prog_37_method_4_code 61 = .ok (.getfield 44, 3) := by decide +kernel
theorem d18_64 : decode prog_37_method_4_code 64 = .ok (.lcmp, 1) := by decide +kernel
theorem d18_65 : decode prog_37_method_4_code 65 = .ok (.ifCond .ne 18, 3) := by decide +kernel
theorem d18_68 : decode prog_37_method_4_code 68 = .ok (.aload_n 0, 1) := by decide +kernel
theorem d18_69 : decode prog_37_method_4_code 69 = .ok (.getfield 47, 3) := by decide +kernel
theorem d18_72 : decode prog_37_method_4_code 72 = .ok (.aload_n 1, 1) := by decide +kernel
theorem d18_73 : decode prog_37_method_4_code 73 = .ok (.getfield 47, 3) := by decide +kernel
theorem d18_76 : decode prog_37_method_4_code 76 = .ok (.if_icmp .ne 7, 3) := by decide +kernel
theorem d18_79 : decode prog_37_method_4_code 79 = .ok (.iconst 1, 1) := by decide +kernel
theorem d18_80 : decode prog_37_method_4_code 80 = .ok (.goto 4, 3) := by decide +kernel
theorem ef_own_same (m : MethodId) (a : Addr) (b : Addr)  : entryFrame m #[(.ref a), (.ref b)] 2 = mkF m 0 #[rv a, rv b] [] := by
  first | (simp [entryFrame, mkF, argsToLocals, Value.category]; done) | rfl
set_option maxRecDepth 65536 in
set_option maxHeartbeats 40000000 in
theorem own_same (l : Launch) (Z : State) (a0 : Array Value) (hw : ∀ d ∈ tables_1, d.before a0 Z = true) (a : Addr) (b : Addr) (q1 q2 : own_Sv) (h : Heap) (n0 : Nat) (hn0 : Old Z n0 h) (hA : own_S Z h a q1) (hB : own_S Z h b q2) :
    Con l Z (⟨"com/example/plantilla/plantilla/ScriptText", "sameAs", "(Lcom/example/plantilla/plantilla/ScriptText;)Z"⟩ : MethodName) prog_37_method_4_code 2 (some .boolean) ({ frames := 0, cells := 0, slots := 0, locals := 0 } : Room) #[(.ref a), (.ref b)] h n0 (fun v h' => v = some (.int (own_sq q1 q2)) ∧ h = h') := by
  refine con_of hw (plainFor_of_name pn_com_example_plantilla_plantilla_ScriptText) hn0 ?_
  intro p e s m below meth c T0 C X0
  refine Go.cast (congrArg T0.setTop (ef_own_same m a b)) ?_
  obtain ⟨E0, FF0, FF1, FF2, FF3, FF4, FF5, FF6⟩ := hA
  obtain ⟨E1, GG0, GG1, GG2, GG3, GG4, GG5, GG6⟩ := hB
  refine go_aloadN C X0 1 rfl d18_0 rfl rfl ?_
  refine go_getF C X0 (C.w 44 rfl) Via.refl FF0 (pc' := 4) rfl d18_1 (fun T1 X2 => ?_)
  refine go_aloadN C X2 5 rfl d18_4 rfl rfl ?_
  refine go_getF C X2 (C.w 44 rfl) Via.refl GG0 (pc' := 8) rfl d18_5 (fun T3 X4 => ?_)
  refine go_acmp_ne C X4 rfl rfl d18_8 (pc' := 11) (pc2 := 83) rfl (by decide) (by decide) (fun (c8 : ¬ ((.ref q1.1) : Value) = (.ref q2.1)) => ?_) (fun (c8 : ((.ref q1.1) : Value) = (.ref q2.1)) => ?_)
  · refine go_iconst C X4 84 rfl d18_83 (z := 0) rfl ?_
    exact go_retN C X4 (by simp) (z' := 0) rfl d18_84 ⟨by unfold own_sq own_s6; rw [if_neg (fun q => c8 (congrArg Value.ref q))], rfl⟩ (by decide) (by decide)
  · refine go_aloadN C X4 12 rfl d18_11 rfl rfl ?_
    refine go_getF C X4 (C.w 46 rfl) Via.refl FF1 (pc' := 15) rfl d18_12 (fun T5 X6 => ?_)
    refine go_aloadN C X6 16 rfl d18_15 rfl rfl ?_
    refine go_getF C X6 (C.w 46 rfl) Via.refl GG1 (pc' := 19) rfl d18_16 (fun T7 X8 => ?_)
    refine go_icmp_ne C X8 d18_19 (pc' := 22) (pc2 := 83) rfl (by decide) (by decide) (fun (c19 : ¬ q1.2.1 = q2.2.1) => ?_) (fun (c19 : q1.2.1 = q2.2.1) => ?_)
    · refine go_iconst C X8 84 rfl d18_83 (z := 0) rfl ?_
      exact go_retN C X8 (by simp) (z' := 0) rfl d18_84 ⟨by unfold own_sq own_s6; rw [if_pos (Value.ref.inj c8), if_neg c19], rfl⟩ (by decide) (by decide)
    · refine go_aloadN C X8 23 rfl d18_22 rfl rfl ?_
      refine go_getF C X8 (C.w 48 rfl) Via.refl FF2 (pc' := 26) rfl d18_23 (fun T9 X10 => ?_)
      refine go_aloadN C X10 27 rfl d18_26 rfl rfl ?_
      refine go_getF C X10 (C.w 48 rfl) Via.refl GG2 (pc' := 30) rfl d18_27 (fun T11 X12 => ?_)
      refine go_lif_ne C X12 (pc1 := 31) rfl d18_30 d18_31 (pc' := 34) (pc2 := 83) rfl (by decide) (by decide) (fun (c31 : ¬ q1.2.2.1 = q2.2.2.1) => ?_) (fun (c31 : q1.2.2.1 = q2.2.2.1) => ?_)
      · refine go_iconst C X12 84 rfl d18_83 (z := 0) rfl ?_
        exact go_retN C X12 (by simp) (z' := 0) rfl d18_84 ⟨by unfold own_sq own_s6; rw [if_pos (Value.ref.inj c8), if_pos c19, if_neg c31], rfl⟩ (by decide) (by decide)
      · refine go_aloadN C X12 35 rfl d18_34 rfl rfl ?_
        refine go_getF C X12 (C.w 50 rfl) Via.refl FF3 (pc' := 38) rfl d18_35 (fun T13 X14 => ?_)
        refine go_aloadN C X14 39 rfl d18_38 rfl rfl ?_
        refine go_getF C X14 (C.w 50 rfl) Via.refl GG3 (pc' := 42) rfl d18_39 (fun T15 X16 => ?_)
        refine go_icmp_ne C X16 d18_42 (pc' := 45) (pc2 := 83) rfl (by decide) (by decide) (fun (c42 : ¬ q1.2.2.2.1 = q2.2.2.2.1) => ?_) (fun (c42 : q1.2.2.2.1 = q2.2.2.2.1) => ?_)
        · refine go_iconst C X16 84 rfl d18_83 (z := 0) rfl ?_
          exact go_retN C X16 (by simp) (z' := 0) rfl d18_84 ⟨by unfold own_sq own_s6; rw [if_pos (Value.ref.inj c8), if_pos c19, if_pos c31, if_neg c42], rfl⟩ (by decide) (by decide)
        · refine go_aloadN C X16 46 rfl d18_45 rfl rfl ?_
          refine go_getF C X16 (C.w 52 rfl) Via.refl FF4 (pc' := 49) rfl d18_46 (fun T17 X18 => ?_)
          refine go_aloadN C X18 50 rfl d18_49 rfl rfl ?_
          refine go_getF C X18 (C.w 52 rfl) Via.refl GG4 (pc' := 53) rfl d18_50 (fun T19 X20 => ?_)
          refine go_icmp_ne C X20 d18_53 (pc' := 56) (pc2 := 83) rfl (by decide) (by decide) (fun (c53 : ¬ q1.2.2.2.2.1 = q2.2.2.2.2.1) => ?_) (fun (c53 : q1.2.2.2.2.1 = q2.2.2.2.2.1) => ?_)
          · refine go_iconst C X20 84 rfl d18_83 (z := 0) rfl ?_
            exact go_retN C X20 (by simp) (z' := 0) rfl d18_84 ⟨by unfold own_sq own_s6; rw [if_pos (Value.ref.inj c8), if_pos c19, if_pos c31, if_pos c42, if_neg c53], rfl⟩ (by decide) (by decide)
          · refine go_aloadN C X20 57 rfl d18_56 rfl rfl ?_
            refine go_getF C X20 (C.w 54 rfl) Via.refl FF5 (pc' := 60) rfl d18_57 (fun T21 X22 => ?_)
            refine go_aloadN C X22 61 rfl d18_60 rfl rfl ?_
            refine go_getF C X22 (C.w 54 rfl) Via.refl GG5 (pc' := 64) rfl d18_61 (fun T23 X24 => ?_)
            refine go_lif_ne C X24 (pc1 := 65) rfl d18_64 d18_65 (pc' := 68) (pc2 := 83) rfl (by decide) (by decide) (fun (c65 : ¬ q1.2.2.2.2.2.1 = q2.2.2.2.2.2.1) => ?_) (fun (c65 : q1.2.2.2.2.2.1 = q2.2.2.2.2.2.1) => ?_)
            · refine go_iconst C X24 84 rfl d18_83 (z := 0) rfl ?_
              exact go_retN C X24 (by simp) (z' := 0) rfl d18_84 ⟨by unfold own_sq own_s6; rw [if_pos (Value.ref.inj c8), if_pos c19, if_pos c31, if_pos c42, if_pos c53, if_neg c65], rfl⟩ (by decide) (by decide)
            · refine go_aloadN C X24 69 rfl d18_68 rfl rfl ?_
              refine go_getF C X24 (C.w 56 rfl) Via.refl FF6 (pc' := 72) rfl d18_69 (fun T25 X26 => ?_)
              refine go_aloadN C X26 73 rfl d18_72 rfl rfl ?_
              refine go_getF C X26 (C.w 56 rfl) Via.refl GG6 (pc' := 76) rfl d18_73 (fun T27 X28 => ?_)
              refine go_icmp_ne C X28 d18_76 (pc' := 79) (pc2 := 83) rfl (by decide) (by decide) (fun (c76 : ¬ q1.2.2.2.2.2.2 = q2.2.2.2.2.2.2) => ?_) (fun (c76 : q1.2.2.2.2.2.2 = q2.2.2.2.2.2.2) => ?_)
              · refine go_iconst C X28 84 rfl d18_83 (z := 0) rfl ?_
                exact go_retN C X28 (by simp) (z' := 0) rfl d18_84 ⟨by unfold own_sq own_s6; rw [if_pos (Value.ref.inj c8), if_pos c19, if_pos c31, if_pos c42, if_pos c53, if_pos c65, if_neg c76], rfl⟩ (by decide) (by decide)
              · refine go_iconst C X28 80 rfl d18_79 (z := 1) rfl ?_
                refine go_goto C X28 d18_80 (pc' := 84) (by decide) (by decide) ?_
                exact go_retN C X28 (by simp) (z' := 1) rfl d18_84 ⟨by unfold own_sq own_s6; rw [if_pos (Value.ref.inj c8), if_pos c19, if_pos c31, if_pos c42, if_pos c53, if_pos c65, if_pos c76], rfl⟩ (by decide) (by decide)
def own_bs (x : Int32) : List Int32 := if x = 0 then [] else if x = 1 then [39] else if x = 2 then [39, 92] else if x = 3 then [41] else if x = 4 then [97] else if x = 5 then [123] else if x = 6 then [96, 36, 123] else if x = 7 then [60] else if x = 8 then [97, 98, 99, 100, 101, 102, 103] else if x = 9 then [98, 98, 99, 100, 101, 102, 103] else if x = 10 then [123, 123, 123, 123, 123, 123, 123, 123, 123, 123, 123, 123, 123, 123, 123, 123, 123, 123, 123, 123, 123, 123, 123, 123, 123, 123, 123, 123, 123, 123, 123, 123, 96, 36, 123] else if x = 11 then [123, 123, 123, 123, 123, 123, 123, 123, 123, 123, 123, 123, 123, 123, 123, 123, 123, 123, 123, 123, 123, 123, 123, 123, 123, 123, 123, 123, 123, 123, 123, 123, 123] else if x = 12 then [32] else if x = 13 then [97, 32] else if x = 14 then [125] else [39, 39]
def own_mi (x : Int32) : Int32 := if x = 1 then 1 else if x = 2 then 1 else 0
def own_qr (x : Int32) : own_Sr := if x = 0 then (1, 0, 0, 0, 0, 0) else if x = 1 then (1, 0, 0, 0, 0, 0) else if x = 2 then (1, 0, 1, 0, 0, 0) else if x = 3 then (0, 0, 0, 0, 0, 0) else if x = 4 then (1, 1, 0, 0, 0, 0) else if x = 5 then (1, 0, 0, 1, 0, 0) else if x = 6 then (1, 0, 0, 1, 1, 0) else if x = 7 then (1, 0, 0, 0, 0, 1) else if x = 8 then (1, 70918361479, 0, 0, 0, 0) else if x = 9 then (1, 139637838215, 0, 0, 0, 0) else if x = 10 then (1, 0, 0, 33, 4294967296, 0) else if x = 11 then (1, 0, 0, 33, 0, 0) else if x = 12 then (1, 0, 0, 0, 0, 0) else if x = 13 then (0, 0, 0, 0, 0, 0) else if x = 14 then (1, 0, 0, 0, 0, 0) else (0, 0, 0, 0, 0, 0)
def own_q (mc ms : Addr) (x : Int32) : own_Sv := (if own_mi x = 0 then mc else ms, own_qr x)
def own_cls : List Int32 := [0, 1, 2, 3, 4, 5, 6, 7, 8, 9, 10, 11, 0, 3, 0, 3]
theorem own_k16 {k : Int32} (h0 : 0 ≤ k.toInt) (h1 : k.toInt ≤ 15) : k = 0 ∨ k = 1 ∨ k = 2 ∨ k = 3 ∨ k = 4 ∨ k = 5 ∨ k = 6 ∨ k = 7 ∨ k = 8 ∨ k = 9 ∨ k = 10 ∨ k = 11 ∨ k = 12 ∨ k = 13 ∨ k = 14 ∨ k = 15 := by
  have q : k.toInt = 0 ∨ k.toInt = 1 ∨ k.toInt = 2 ∨ k.toInt = 3 ∨ k.toInt = 4 ∨ k.toInt = 5 ∨ k.toInt = 6 ∨ k.toInt = 7 ∨ k.toInt = 8 ∨ k.toInt = 9 ∨ k.toInt = 10 ∨ k.toInt = 11 ∨ k.toInt = 12 ∨ k.toInt = 13 ∨ k.toInt = 14 ∨ k.toInt = 15 := by omega
  rcases q with q | q | q | q | q | q | q | q | q | q | q | q | q | q | q | q
  · exact Or.inl (i_eq q)
  · exact Or.inr (Or.inl (i_eq q))
  · exact Or.inr (Or.inr (Or.inl (i_eq q)))
  · exact Or.inr (Or.inr (Or.inr (Or.inl (i_eq q))))
  · exact Or.inr (Or.inr (Or.inr (Or.inr (Or.inl (i_eq q)))))
  · exact Or.inr (Or.inr (Or.inr (Or.inr (Or.inr (Or.inl (i_eq q))))))
  · exact Or.inr (Or.inr (Or.inr (Or.inr (Or.inr (Or.inr (Or.inl (i_eq q)))))))
  · exact Or.inr (Or.inr (Or.inr (Or.inr (Or.inr (Or.inr (Or.inr (Or.inl (i_eq q))))))))
  · exact Or.inr (Or.inr (Or.inr (Or.inr (Or.inr (Or.inr (Or.inr (Or.inr (Or.inl (i_eq q)))))))))
  · exact Or.inr (Or.inr (Or.inr (Or.inr (Or.inr (Or.inr (Or.inr (Or.inr (Or.inr (Or.inl (i_eq q))))))))))
  · exact Or.inr (Or.inr (Or.inr (Or.inr (Or.inr (Or.inr (Or.inr (Or.inr (Or.inr (Or.inr (Or.inl (i_eq q)))))))))))
  · exact Or.inr (Or.inr (Or.inr (Or.inr (Or.inr (Or.inr (Or.inr (Or.inr (Or.inr (Or.inr (Or.inr (Or.inl (i_eq q))))))))))))
  · exact Or.inr (Or.inr (Or.inr (Or.inr (Or.inr (Or.inr (Or.inr (Or.inr (Or.inr (Or.inr (Or.inr (Or.inr (Or.inl (i_eq q)))))))))))))
  · exact Or.inr (Or.inr (Or.inr (Or.inr (Or.inr (Or.inr (Or.inr (Or.inr (Or.inr (Or.inr (Or.inr (Or.inr (Or.inr (Or.inl (i_eq q))))))))))))))
  · exact Or.inr (Or.inr (Or.inr (Or.inr (Or.inr (Or.inr (Or.inr (Or.inr (Or.inr (Or.inr (Or.inr (Or.inr (Or.inr (Or.inr (Or.inl (i_eq q)))))))))))))))
  · exact Or.inr (Or.inr (Or.inr (Or.inr (Or.inr (Or.inr (Or.inr (Or.inr (Or.inr (Or.inr (Or.inr (Or.inr (Or.inr (Or.inr (Or.inr ((i_eq q))))))))))))))))
theorem own_kf {k : Int32} (h0 : 0 ≤ k.toInt) (h1 : k.toInt ≤ 15) : ∃ j : Fin 16, k = Int32.ofNat j.val := by
  have e := clamp_eq h0
  refine ⟨⟨k.toNatClampNeg, by omega⟩, i_eq ?_⟩
  have e2 : (Int32.ofNat k.toNatClampNeg).toInt = k.toNatClampNeg := Int32.toInt_ofNat_of_lt (by omega)
  show k.toInt = (Int32.ofNat k.toNatClampNeg).toInt
  omega
theorem own_asc_of {bs : List Int32} (h : bs.all (fun z => decide (0 ≤ z.toInt) && decide (z.toInt < 128)) = true) : own_asc bs := fun z hz => by
  have q := List.all_eq_true.mp h z hz
  simpa using q
theorem own_asc16 {x : Int32} (h0 : 0 ≤ x.toInt) (h1 : x.toInt ≤ 15) : own_asc (own_bs x) := by
  rcases own_k16 h0 h1 with rfl | rfl | rfl | rfl | rfl | rfl | rfl | rfl | rfl | rfl | rfl | rfl | rfl | rfl | rfl | rfl
  all_goals exact own_asc_of (by decide +kernel)
theorem own_chk : ∀ i j : Fin 16, (if own_mi (Int32.ofNat i.val) = own_mi (Int32.ofNat j.val) then own_s6 (own_qr (Int32.ofNat i.val)) (own_qr (Int32.ofNat j.val)) else 0) = if at32 own_cls (Int32.ofNat i.val) = at32 own_cls (Int32.ofNat j.val) then 1 else 0 := by decide +kernel
theorem own_mi2 : ∀ i : Fin 16, own_mi (Int32.ofNat i.val) = 0 ∨ own_mi (Int32.ofNat i.val) = 1 := by decide +kernel
theorem own_fin {mc ms : Addr} (hne : mc ≠ ms) {x y : Int32} (x0 : 0 ≤ x.toInt) (x1 : x.toInt ≤ 15) (y0 : 0 ≤ y.toInt) (y1 : y.toInt ≤ 15) : own_sq (own_q mc ms x) (own_q mc ms y) = if at32 own_cls x = at32 own_cls y then 1 else 0 := by
  obtain ⟨i, rfl⟩ := own_kf x0 x1
  obtain ⟨j, rfl⟩ := own_kf y0 y1
  have z1 : ¬ (0 : Int32) = 1 := by decide
  have z2 : ¬ (1 : Int32) = 0 := by decide
  rw [← own_chk i j]
  show (if (if own_mi (Int32.ofNat i.val) = 0 then mc else ms) = (if own_mi (Int32.ofNat j.val) = 0 then mc else ms) then own_s6 (own_qr (Int32.ofNat i.val)) (own_qr (Int32.ofNat j.val)) else 0) = _
  rcases own_mi2 i with a | a <;> rcases own_mi2 j with b | b <;> rw [a, b]
  · first | (rw [if_pos rfl, if_pos rfl]; done) | rw [if_pos rfl, if_pos rfl, if_pos rfl]
  · rw [if_pos rfl, if_neg z2, if_neg hne, if_neg z1]
  · rw [if_neg z2, if_pos rfl, if_neg (Ne.symm hne), if_neg z2]
  · rw [if_neg z2, if_pos rfl, if_pos rfl]
theorem own_Sk {Z : State} {h h' : Heap} {a b : Addr} {q : own_Sv} (S : own_S Z h a q) (K : Keep h h' [b]) (n : a ≠ b) : own_S Z h' a q := ⟨S.1.keep K, S.2.1.keep K (ninS n nin0), S.2.2.1.keep K (ninS n nin0), S.2.2.2.1.keep K (ninS n nin0), S.2.2.2.2.1.keep K (ninS n nin0), S.2.2.2.2.2.1.keep K (ninS n nin0), S.2.2.2.2.2.2.1.keep K (ninS n nin0), S.2.2.2.2.2.2.2.keep K (ninS n nin0)⟩
theorem own_chrep {l : Launch} {Z : State} {f : Int32 → own_Sv} (hB : ∀ k : Int32, 0 ≤ k.toInt ∧ k.toInt < 63 → own_R l Z (f k) 123 (f (k + 1))) : ∀ (n : Nat) (k j : Int32) (tl : List Int32) (q2 : own_Sv), 0 ≤ k.toInt → j.toInt = k.toInt + n → j.toInt ≤ 63 → own_Ch l Z tl (f j) q2 → own_Ch l Z (List.replicate n 123 ++ tl) (f k) q2
  | 0, k, j, tl, q2, h0, h1, h2, h3 => by
    have e : j = k := i_eq (by omega)
    rw [e] at h3
    exact h3
  | n + 1, k, j, tl, q2, h0, h1, h2, h3 => by
    have e1 : (k + 1).toInt = k.toInt + 1 := i_add rfl rfl (by omega) (by omega)
    exact ⟨f (k + 1), hB k ⟨h0, by omega⟩, own_chrep hB n (k + 1) j tl q2 (by omega) (by omega) h2 h3⟩
set_option maxRecDepth 65536 in
theorem own_chain (l : Launch) (Z : State) (a0 : Array Value) (hw : ∀ d ∈ tables_1, d.before a0 Z = true) (mc ms mt md be : Addr) (cs : Int32) (fv : Value) (hEL : EW Z a0 consts_1) (hE : own_E Z mc ms mt md be cs fv) {x : Int32} (h0 : 0 ≤ x.toInt) (h1 : x.toInt ≤ 15) : own_XCh l Z (own_bs x) (mc, 1, 0, 0, 0, 0, 0) (own_q mc ms x) := by
  have X39 : own_RX l Z (mc, 1, 0, 0, 0, 0, 0) 39 (ms, 1, 0, 0, 0, 0, 0) := own_rX l Z a0 hw mc ms mt md be cs fv hEL hE (own_cold39_r l Z a0 hw mc ms mt md be cs fv hEL hE)
  have X41 : own_RX l Z (mc, 1, 0, 0, 0, 0, 0) 41 (mc, 0, 0, 0, 0, 0, 0) := own_rX l Z a0 hw mc ms mt md be cs fv hEL hE (own_cold41_r l Z a0 hw mc ms mt md be cs fv hEL hE)
  have X123 : own_RX l Z (mc, 1, 0, 0, 0, 0, 0) 123 (mc, 1, 0, 0, 1, 0, 0) := own_rX l Z a0 hw mc ms mt md be cs fv hEL hE (own_cold123_r l Z a0 hw mc ms mt md be cs fv hEL hE)
  have X96 : own_RX l Z (mc, 1, 0, 0, 0, 0, 0) 96 (mt, 1, 0, 0, 0, 0, 0) := own_rX l Z a0 hw mc ms mt md be cs fv hEL hE (own_cold96_r l Z a0 hw mc ms mt md be cs fv hEL hE)
  have X60 : own_RX l Z (mc, 1, 0, 0, 0, 0, 0) 60 (mc, 1, 0, 0, 0, 0, 1) := own_rX l Z a0 hw mc ms mt md be cs fv hEL hE (own_cold60_r l Z a0 hw mc ms mt md be cs fv hEL hE)
  have X125 : own_RX l Z (mc, 1, 0, 0, 0, 0, 0) 125 (mc, 1, 0, 0, 0, 0, 0) := own_rX l Z a0 hw mc ms mt md be cs fv hEL hE (own_cold125_r l Z a0 hw mc ms mt md be cs fv hEL hE)
  have X32 : own_RX l Z (mc, 1, 0, 0, 0, 0, 0) 32 (mc, 1, 0, 0, 0, 0, 0) := own_rX l Z a0 hw mc ms mt md be cs fv hEL hE (own_cold32_r l Z a0 hw mc ms mt md be cs fv hEL hE)
  have XL : ∀ (cc : Int32) (w' : Int64), (97 ≤ cc.toInt ∧ cc.toInt ≤ 122) → own_ap 0 cc = w' → own_RX l Z (mc, 1, 0, 0, 0, 0, 0) cc (mc, 1, w', 0, 0, 0, 0) := fun cc w' hc e => e ▸ own_rX l Z a0 hw mc ms mt md be cs fv hEL hE (own_coldL_r l Z a0 hw mc ms mt md be cs fv cc hEL hE hc)
  have WB : ∀ k : Int32, 0 ≤ k.toInt ∧ k.toInt < 63 → own_R l Z ((fun k : Int32 => ((mc, 1, 0, 0, k, 0, 0) : own_Sv)) k) 123 ((fun k : Int32 => ((mc, 1, 0, 0, k, 0, 0) : own_Sv)) (k + 1)) := fun k hk => own_r l Z a0 hw mc ms mt md be cs fv hE (own_warm123_r l Z a0 hw mc ms mt md be cs fv k hE hk)
  have WT : ∀ k : Int32, 0 ≤ k.toInt ∧ k.toInt < 63 → own_R l Z (mc, 1, 0, 0, k, 0, 0) 96 (mt, 1, 0, 0, k, 0, 0) := fun k hk => own_r l Z a0 hw mc ms mt md be cs fv hE (own_warm96_r l Z a0 hw mc ms mt md be cs fv k hE hk)
  have WL : ∀ (w : Int64) (cc : Int32) (w' : Int64), (¬ w = -1) → w.toInt < 18014398509481984 → (97 ≤ cc.toInt ∧ cc.toInt ≤ 122) → own_ap w cc = w' → own_R l Z (mc, 1, w, 0, 0, 0, 0) cc (mc, 1, w', 0, 0, 0, 0) := fun w cc w' h1 h2 hc e => e ▸ own_r l Z a0 hw mc ms mt md be cs fv hE (own_warmL_r l Z a0 hw mc ms mt md be cs fv w cc hE h1 h2 hc)
  have WS : own_R l Z (mc, 1, 1, 0, 0, 0, 0) 32 (mc, 0, 0, 0, 0, 0, 0) := own_r l Z a0 hw mc ms mt md be cs fv hE (own_warm32_r l Z a0 hw mc ms mt md be cs fv hE)
  have Q1 : own_R l Z (ms, 1, 0, 0, 0, 0, 0) 92 (ms, 1, 0, 1, 0, 0, 0) := own_q92_r l Z a0 hw mc ms mt md be cs fv hE
  have Q2 : own_R l Z (ms, 1, 0, 0, 0, 0, 0) 39 (mc, 0, 0, 0, 0, 0, 0) := own_q39_r l Z a0 hw mc ms mt md be cs fv hE
  have T1 : ∀ k : Int32, 0 ≤ k.toInt ∧ k.toInt < 63 → own_R l Z (mt, 1, 0, 0, k, 0, 0) 36 (md, 1, 0, 0, k, 0, 0) := fun k hk => own_t36_r l Z a0 hw mc ms mt md be cs fv k hE hk
  have T2 : own_R l Z (md, 1, 0, 0, 0, 0, 0) 123 (mc, 1, 0, 0, 1, 1, 0) := own_d0_r l Z a0 hw mc ms mt md be cs fv hE
  have T3 : own_R l Z (md, 1, 0, 0, 32, 0, 0) 123 (mc, 1, 0, 0, 33, 4294967296, 0) := own_d32_r l Z a0 hw mc ms mt md be cs fv hE
  rcases own_k16 h0 h1 with rfl | rfl | rfl | rfl | rfl | rfl | rfl | rfl | rfl | rfl | rfl | rfl | rfl | rfl | rfl | rfl
  · show own_XCh l Z [] (mc, 1, 0, 0, 0, 0, 0) (mc, 1, 0, 0, 0, 0, 0)
    exact Or.inl ⟨rfl, rfl⟩
  · show own_XCh l Z [39] (mc, 1, 0, 0, 0, 0, 0) (ms, 1, 0, 0, 0, 0, 0)
    exact Or.inr ⟨39, [], _, rfl, X39, rfl⟩
  · show own_XCh l Z [39, 92] (mc, 1, 0, 0, 0, 0, 0) (ms, 1, 0, 1, 0, 0, 0)
    exact Or.inr ⟨39, [92], _, rfl, X39, ⟨_, Q1, rfl⟩⟩
  · show own_XCh l Z [41] (mc, 1, 0, 0, 0, 0, 0) (mc, 0, 0, 0, 0, 0, 0)
    exact Or.inr ⟨41, [], _, rfl, X41, rfl⟩
  · show own_XCh l Z [97] (mc, 1, 0, 0, 0, 0, 0) (mc, 1, 1, 0, 0, 0, 0)
    exact Or.inr ⟨97, [], _, rfl, (XL 97 1 (by decide) (by decide)), rfl⟩
  · show own_XCh l Z [123] (mc, 1, 0, 0, 0, 0, 0) (mc, 1, 0, 0, 1, 0, 0)
    exact Or.inr ⟨123, [], _, rfl, X123, rfl⟩
  · show own_XCh l Z [96, 36, 123] (mc, 1, 0, 0, 0, 0, 0) (mc, 1, 0, 0, 1, 1, 0)
    exact Or.inr ⟨96, [36, 123], _, rfl, X96, ⟨_, T1 0 (by decide), ⟨_, T2, rfl⟩⟩⟩
  · show own_XCh l Z [60] (mc, 1, 0, 0, 0, 0, 0) (mc, 1, 0, 0, 0, 0, 1)
    exact Or.inr ⟨60, [], _, rfl, X60, rfl⟩
  · show own_XCh l Z [97, 98, 99, 100, 101, 102, 103] (mc, 1, 0, 0, 0, 0, 0) (mc, 1, 70918361479, 0, 0, 0, 0)
    exact Or.inr ⟨97, [98, 99, 100, 101, 102, 103], _, rfl, (XL 97 1 (by decide) (by decide)), ⟨(mc, 1, 66, 0, 0, 0, 0), WL 1 98 66 (by decide) (by decide) (by decide) (by decide), ⟨(mc, 1, 4227, 0, 0, 0, 0), WL 66 99 4227 (by decide) (by decide) (by decide) (by decide), ⟨(mc, 1, 270532, 0, 0, 0, 0), WL 4227 100 270532 (by decide) (by decide) (by decide) (by decide), ⟨(mc, 1, 17314053, 0, 0, 0, 0), WL 270532 101 17314053 (by decide) (by decide) (by decide) (by decide), ⟨(mc, 1, 1108099398, 0, 0, 0, 0), WL 17314053 102 1108099398 (by decide) (by decide) (by decide) (by decide), ⟨(mc, 1, 70918361479, 0, 0, 0, 0), WL 1108099398 103 70918361479 (by decide) (by decide) (by decide) (by decide), rfl⟩⟩⟩⟩⟩⟩⟩
  · show own_XCh l Z [98, 98, 99, 100, 101, 102, 103] (mc, 1, 0, 0, 0, 0, 0) (mc, 1, 139637838215, 0, 0, 0, 0)
    exact Or.inr ⟨98, [98, 99, 100, 101, 102, 103], _, rfl, (XL 98 2 (by decide) (by decide)), ⟨(mc, 1, 130, 0, 0, 0, 0), WL 2 98 130 (by decide) (by decide) (by decide) (by decide), ⟨(mc, 1, 8323, 0, 0, 0, 0), WL 130 99 8323 (by decide) (by decide) (by decide) (by decide), ⟨(mc, 1, 532676, 0, 0, 0, 0), WL 8323 100 532676 (by decide) (by decide) (by decide) (by decide), ⟨(mc, 1, 34091269, 0, 0, 0, 0), WL 532676 101 34091269 (by decide) (by decide) (by decide) (by decide), ⟨(mc, 1, 2181841222, 0, 0, 0, 0), WL 34091269 102 2181841222 (by decide) (by decide) (by decide) (by decide), ⟨(mc, 1, 139637838215, 0, 0, 0, 0), WL 2181841222 103 139637838215 (by decide) (by decide) (by decide) (by decide), rfl⟩⟩⟩⟩⟩⟩⟩
  · show own_XCh l Z [123, 123, 123, 123, 123, 123, 123, 123, 123, 123, 123, 123, 123, 123, 123, 123, 123, 123, 123, 123, 123, 123, 123, 123, 123, 123, 123, 123, 123, 123, 123, 123, 96, 36, 123] (mc, 1, 0, 0, 0, 0, 0) (mc, 1, 0, 0, 33, 4294967296, 0)
    exact Or.inr ⟨123, List.replicate 31 123 ++ [96, 36, 123], _, rfl, X123, own_chrep WB 31 1 32 [96, 36, 123] _ (by decide) (by decide) (by decide) ⟨_, WT 32 (by decide), ⟨_, T1 32 (by decide), ⟨_, T3, rfl⟩⟩⟩⟩
  · show own_XCh l Z [123, 123, 123, 123, 123, 123, 123, 123, 123, 123, 123, 123, 123, 123, 123, 123, 123, 123, 123, 123, 123, 123, 123, 123, 123, 123, 123, 123, 123, 123, 123, 123, 123] (mc, 1, 0, 0, 0, 0, 0) (mc, 1, 0, 0, 33, 0, 0)
    exact Or.inr ⟨123, List.replicate 32 123 ++ [], _, rfl, X123, own_chrep WB 32 1 33 [] _ (by decide) (by decide) (by decide) rfl⟩
  · show own_XCh l Z [32] (mc, 1, 0, 0, 0, 0, 0) (mc, 1, 0, 0, 0, 0, 0)
    exact Or.inr ⟨32, [], _, rfl, X32, rfl⟩
  · show own_XCh l Z [97, 32] (mc, 1, 0, 0, 0, 0, 0) (mc, 0, 0, 0, 0, 0, 0)
    exact Or.inr ⟨97, [32], _, rfl, (XL 97 1 (by decide) (by decide)), ⟨_, WS, rfl⟩⟩
  · show own_XCh l Z [125] (mc, 1, 0, 0, 0, 0, 0) (mc, 1, 0, 0, 0, 0, 0)
    exact Or.inr ⟨125, [], _, rfl, X125, rfl⟩
  · show own_XCh l Z [39, 39] (mc, 1, 0, 0, 0, 0, 0) (mc, 0, 0, 0, 0, 0, 0)
    exact Or.inr ⟨39, [39], _, rfl, X39, ⟨_, Q2, rfl⟩⟩
theorem own_ch9 : "".toList = [] := by first | rfl | exact String.toList_ofList | decide +kernel | simp
theorem own_lit9 : (∀ c ∈ "".toList, c.toNat < 256) ∧ "".toList.map (fun c => Value.int (Jvm.Lit.byteI c.toNat.toUInt16)) = [] := by
  rw [own_ch9]
  exact ⟨by decide, by first | rfl | decide +kernel⟩
theorem own_len9 : 4 * "".toList.length ≤ 0 := by rw [own_ch9]; decide
theorem own_ch11 : "'".toList = ['\''] := by first | rfl | exact String.toList_ofList | decide +kernel | simp
theorem own_lit11 : (∀ c ∈ "'".toList, c.toNat < 256) ∧ "'".toList.map (fun c => Value.int (Jvm.Lit.byteI c.toNat.toUInt16)) = [.int 39] := by
  rw [own_ch11]
  exact ⟨by decide, by first | rfl | decide +kernel⟩
theorem own_len11 : 4 * "'".toList.length ≤ 4 := by rw [own_ch11]; decide
theorem own_ch13 : "'\\".toList = ['\'', '\\'] := by first | rfl | exact String.toList_ofList | decide +kernel | simp
theorem own_lit13 : (∀ c ∈ "'\\".toList, c.toNat < 256) ∧ "'\\".toList.map (fun c => Value.int (Jvm.Lit.byteI c.toNat.toUInt16)) = [.int 39, .int 92] := by
  rw [own_ch13]
  exact ⟨by decide, by first | rfl | decide +kernel⟩
theorem own_len13 : 4 * "'\\".toList.length ≤ 8 := by rw [own_ch13]; decide
theorem own_ch15 : ")".toList = [')'] := by first | rfl | exact String.toList_ofList | decide +kernel | simp
theorem own_lit15 : (∀ c ∈ ")".toList, c.toNat < 256) ∧ ")".toList.map (fun c => Value.int (Jvm.Lit.byteI c.toNat.toUInt16)) = [.int 41] := by
  rw [own_ch15]
  exact ⟨by decide, by first | rfl | decide +kernel⟩
theorem own_len15 : 4 * ")".toList.length ≤ 4 := by rw [own_ch15]; decide
theorem own_ch17 : "a".toList = ['a'] := by first | rfl | exact String.toList_ofList | decide +kernel | simp
theorem own_lit17 : (∀ c ∈ "a".toList, c.toNat < 256) ∧ "a".toList.map (fun c => Value.int (Jvm.Lit.byteI c.toNat.toUInt16)) = [.int 97] := by
  rw [own_ch17]
  exact ⟨by decide, by first | rfl | decide +kernel⟩
theorem own_len17 : 4 * "a".toList.length ≤ 4 := by rw [own_ch17]; decide
theorem own_ch19 : "{".toList = ['{'] := by first | rfl | exact String.toList_ofList | decide +kernel | simp
theorem own_lit19 : (∀ c ∈ "{".toList, c.toNat < 256) ∧ "{".toList.map (fun c => Value.int (Jvm.Lit.byteI c.toNat.toUInt16)) = [.int 123] := by
  rw [own_ch19]
  exact ⟨by decide, by first | rfl | decide +kernel⟩
theorem own_len19 : 4 * "{".toList.length ≤ 4 := by rw [own_ch19]; decide
theorem own_ch21 : "`${".toList = ['`', '$', '{'] := by first | rfl | exact String.toList_ofList | decide +kernel | simp
theorem own_lit21 : (∀ c ∈ "`${".toList, c.toNat < 256) ∧ "`${".toList.map (fun c => Value.int (Jvm.Lit.byteI c.toNat.toUInt16)) = [.int 96, .int 36, .int 123] := by
  rw [own_ch21]
  exact ⟨by decide, by first | rfl | decide +kernel⟩
theorem own_len21 : 4 * "`${".toList.length ≤ 12 := by rw [own_ch21]; decide
theorem own_ch23 : "<".toList = ['<'] := by first | rfl | exact String.toList_ofList | decide +kernel | simp
theorem own_lit23 : (∀ c ∈ "<".toList, c.toNat < 256) ∧ "<".toList.map (fun c => Value.int (Jvm.Lit.byteI c.toNat.toUInt16)) = [.int 60] := by
  rw [own_ch23]
  exact ⟨by decide, by first | rfl | decide +kernel⟩
theorem own_len23 : 4 * "<".toList.length ≤ 4 := by rw [own_ch23]; decide
theorem own_ch25 : "abcdefg".toList = ['a', 'b', 'c', 'd', 'e', 'f', 'g'] := by first | rfl | exact String.toList_ofList | decide +kernel | simp
theorem own_lit25 : (∀ c ∈ "abcdefg".toList, c.toNat < 256) ∧ "abcdefg".toList.map (fun c => Value.int (Jvm.Lit.byteI c.toNat.toUInt16)) = [.int 97, .int 98, .int 99, .int 100, .int 101, .int 102, .int 103] := by
  rw [own_ch25]
  exact ⟨by decide, by first | rfl | decide +kernel⟩
theorem own_len25 : 4 * "abcdefg".toList.length ≤ 28 := by rw [own_ch25]; decide
theorem own_ch27 : "bbcdefg".toList = ['b', 'b', 'c', 'd', 'e', 'f', 'g'] := by first | rfl | exact String.toList_ofList | decide +kernel | simp
theorem own_lit27 : (∀ c ∈ "bbcdefg".toList, c.toNat < 256) ∧ "bbcdefg".toList.map (fun c => Value.int (Jvm.Lit.byteI c.toNat.toUInt16)) = [.int 98, .int 98, .int 99, .int 100, .int 101, .int 102, .int 103] := by
  rw [own_ch27]
  exact ⟨by decide, by first | rfl | decide +kernel⟩
theorem own_len27 : 4 * "bbcdefg".toList.length ≤ 28 := by rw [own_ch27]; decide
theorem own_ch29 : "{{{{{{{{{{{{{{{{{{{{{{{{{{{{{{{{`${".toList = ['{', '{', '{', '{', '{', '{', '{', '{', '{', '{', '{', '{', '{', '{', '{', '{', '{', '{', '{', '{', '{', '{', '{', '{', '{', '{', '{', '{', '{', '{', '{', '{', '`', '$', '{'] := by first | rfl | exact String.toList_ofList | decide +kernel | simp
theorem own_lit29 : (∀ c ∈ "{{{{{{{{{{{{{{{{{{{{{{{{{{{{{{{{`${".toList, c.toNat < 256) ∧ "{{{{{{{{{{{{{{{{{{{{{{{{{{{{{{{{`${".toList.map (fun c => Value.int (Jvm.Lit.byteI c.toNat.toUInt16)) = [.int 123, .int 123, .int 123, .int 123, .int 123, .int 123, .int 123, .int 123, .int 123, .int 123, .int 123, .int 123, .int 123, .int 123, .int 123, .int 123, .int 123, .int 123, .int 123, .int 123, .int 123, .int 123, .int 123, .int 123, .int 123, .int 123, .int 123, .int 123, .int 123, .int 123, .int 123, .int 123, .int 96, .int 36, .int 123] := by
  rw [own_ch29]
  exact ⟨by decide, by first | rfl | decide +kernel⟩
theorem own_len29 : 4 * "{{{{{{{{{{{{{{{{{{{{{{{{{{{{{{{{`${".toList.length ≤ 140 := by rw [own_ch29]; decide
theorem own_ch31 : "{{{{{{{{{{{{{{{{{{{{{{{{{{{{{{{{{".toList = ['{', '{', '{', '{', '{', '{', '{', '{', '{', '{', '{', '{', '{', '{', '{', '{', '{', '{', '{', '{', '{', '{', '{', '{', '{', '{', '{', '{', '{', '{', '{', '{', '{'] := by first | rfl | exact String.toList_ofList | decide +kernel | simp
theorem own_lit31 : (∀ c ∈ "{{{{{{{{{{{{{{{{{{{{{{{{{{{{{{{{{".toList, c.toNat < 256) ∧ "{{{{{{{{{{{{{{{{{{{{{{{{{{{{{{{{{".toList.map (fun c => Value.int (Jvm.Lit.byteI c.toNat.toUInt16)) = [.int 123, .int 123, .int 123, .int 123, .int 123, .int 123, .int 123, .int 123, .int 123, .int 123, .int 123, .int 123, .int 123, .int 123, .int 123, .int 123, .int 123, .int 123, .int 123, .int 123, .int 123, .int 123, .int 123, .int 123, .int 123, .int 123, .int 123, .int 123, .int 123, .int 123, .int 123, .int 123, .int 123] := by
  rw [own_ch31]
  exact ⟨by decide, by first | rfl | decide +kernel⟩
theorem own_len31 : 4 * "{{{{{{{{{{{{{{{{{{{{{{{{{{{{{{{{{".toList.length ≤ 132 := by rw [own_ch31]; decide
theorem own_ch33 : " ".toList = [' '] := by first | rfl | exact String.toList_ofList | decide +kernel | simp
theorem own_lit33 : (∀ c ∈ " ".toList, c.toNat < 256) ∧ " ".toList.map (fun c => Value.int (Jvm.Lit.byteI c.toNat.toUInt16)) = [.int 32] := by
  rw [own_ch33]
  exact ⟨by decide, by first | rfl | decide +kernel⟩
theorem own_len33 : 4 * " ".toList.length ≤ 4 := by rw [own_ch33]; decide
theorem own_ch35 : "a ".toList = ['a', ' '] := by first | rfl | exact String.toList_ofList | decide +kernel | simp
theorem own_lit35 : (∀ c ∈ "a ".toList, c.toNat < 256) ∧ "a ".toList.map (fun c => Value.int (Jvm.Lit.byteI c.toNat.toUInt16)) = [.int 97, .int 32] := by
  rw [own_ch35]
  exact ⟨by decide, by first | rfl | decide +kernel⟩
theorem own_len35 : 4 * "a ".toList.length ≤ 8 := by rw [own_ch35]; decide
theorem own_ch37 : "}".toList = ['}'] := by first | rfl | exact String.toList_ofList | decide +kernel | simp
theorem own_lit37 : (∀ c ∈ "}".toList, c.toNat < 256) ∧ "}".toList.map (fun c => Value.int (Jvm.Lit.byteI c.toNat.toUInt16)) = [.int 125] := by
  rw [own_ch37]
  exact ⟨by decide, by first | rfl | decide +kernel⟩
theorem own_len37 : 4 * "}".toList.length ≤ 4 := by rw [own_ch37]; decide
theorem own_ch39 : "''".toList = ['\'', '\''] := by first | rfl | exact String.toList_ofList | decide +kernel | simp
theorem own_lit39 : (∀ c ∈ "''".toList, c.toNat < 256) ∧ "''".toList.map (fun c => Value.int (Jvm.Lit.byteI c.toNat.toUInt16)) = [.int 39, .int 39] := by
  rw [own_ch39]
  exact ⟨by decide, by first | rfl | decide +kernel⟩
theorem own_len39 : 4 * "''".toList.length ≤ 8 := by rw [own_ch39]; decide
theorem d1_0 : decode prog_37_method_1_code 0 = .ok (.aload_n 0, 1) := by decide +kernel
theorem d1_1 : decode prog_37_method_1_code 1 = .ok (.invokespecial 3, 3) := by decide +kernel
theorem d1_4 : decode prog_37_method_1_code 4 = .ok (.aload_n 0, 1) := by decide +kernel
theorem d3_0 : decode prog_37_method_3_code 0 = .ok (.aload_n 0, 1) := by decide +kernel
theorem d3_1 : decode prog_37_method_3_code 1 = .ok (.getstatic 18, 3) := by decide +kernel
theorem d3_4 : decode prog_37_method_3_code 4 = .ok (.putfield 24, 3) := by decide +kernel
theorem d3_7 : decode prog_37_method_3_code 7 = .ok (.aload_n 0, 1) := by decide +kernel
theorem d3_8 : decode prog_37_method_3_code 8 = .ok (.iconst 1, 1) := by decide +kernel
theorem d3_9 : decode prog_37_method_3_code 9 = .ok (.putfield 27, 3) := by decide +kernel
theorem d3_12 : decode prog_37_method_3_code 12 = .ok (.aload_n 0, 1) := by decide +kernel
theorem d3_13 : decode prog_37_method_3_code 13 = .ok (.lconst 0, 1) := by decide +kernel
theorem d3_14 : decode prog_37_method_3_code 14 = .ok (.putfield 33, 3) := by decide +kernel
theorem d3_17 : decode prog_37_method_3_code 17 = .ok (.aload_n 0, 1) := by decide +kernel
theorem d3_18 : decode prog_37_method_3_code 18 = .ok (.iconst 0, 1) := by decide +kernel
theorem d3_19 : decode prog_37_method_3_code 19 = .ok (.putfield 37, 3) := by decide +kernel
theorem d3_22 : decode prog_37_method_3_code 22 = .ok (.aload_n 0, 1) := by decide +kernel
theorem d3_23 : decode prog_37_method_3_code 23 = .ok (.iconst 0, 1) := by decide +kernel
theorem d3_24 : decode prog_37_method_3_code 24 = .ok (.putfield 40, 3) := by decide +kernel
theorem d3_27 : decode prog_37_method_3_code 27 = .ok (.aload_n 0, 1) := by decide +kernel
theorem d3_28 : decode prog_37_method_3_code 28 = .ok (.lconst 0, 1) := by decide +kernel
theorem d3_29 : decode prog_37_method_3_code 29 = .ok (.putfield 44, 3) := by decide +kernel
theorem d3_32 : decode prog_37_method_3_code 32 = .ok (.aload_n 0, 1) := by decide +kernel
theorem d3_33 : decode prog_37_method_3_code 33 = .ok (.iconst 0, 1) := by decide +kernel
theorem d3_34 : decode prog_37_method_3_code 34 = .ok (.putfield 47, 3) := by decide +kernel
theorem d3_37 : decode prog_37_method_3_code 37 = .ok (.return_, 1) := by decide +kernel
theorem ef_own_m3_37 (m : MethodId) (a : Addr)  : entryFrame m #[(.ref a)] 1 = mkF m 0 #[rv a] [] := by
  first | (simp [entryFrame, mkF, argsToLocals, Value.category]; done) | rfl
set_option maxRecDepth 65536 in
set_option maxHeartbeats 40000000 in
theorem own_m3_37 (l : Launch) (Z : State) (a0 : Array Value) (hw : ∀ d ∈ tables_1, d.before a0 Z = true) (a : Addr) (mc ms mt md be : Addr) (cs : Int32) (fv : Value)  (h : Heap) (n0 : Nat) (hn0 : Old Z n0 h) (hE : own_E Z mc ms mt md be cs fv)  (E0 : Exa Z h a "com/example/plantilla/plantilla/ScriptText") (FF0 : Fld Z h a "com/example/plantilla/plantilla/ScriptText" "mode" "Lcom/example/plantilla/plantilla/ScriptText$Mode;" .null) (FF1 : Fld Z h a "com/example/plantilla/plantilla/ScriptText" "regexNext" "Z" (.int (0 : Int32))) (FF2 : Fld Z h a "com/example/plantilla/plantilla/ScriptText" "word" "J" (.long (0 : Int64))) (FF3 : Fld Z h a "com/example/plantilla/plantilla/ScriptText" "backslash" "Z" (.int (0 : Int32))) (FF4 : Fld Z h a "com/example/plantilla/plantilla/ScriptText" "braces" "I" (.int (0 : Int32))) (FF5 : Fld Z h a "com/example/plantilla/plantilla/ScriptText" "substitutions" "J" (.long (0 : Int64))) (FF6 : Fld Z h a "com/example/plantilla/plantilla/ScriptText" "commentStart" "I" (.int (0 : Int32))) (ga : n0 ≤ a) :
    Con l Z (⟨"com/example/plantilla/plantilla/ScriptText", "reset", "()V"⟩ : MethodName) prog_37_method_3_code 1 none ({ frames := 0, cells := 0, slots := 0, locals := 0 } : Room) #[(.ref a)] h n0 (fun v h' => v = none ∧ Keep h h' [a] ∧ own_F Z h' a mc (1 : Int32) (0 : Int64) (0 : Int32) (0 : Int32) (0 : Int64) (0 : Int32)) := by
  refine con_of hw (plainFor_of_name pn_com_example_plantilla_plantilla_ScriptText) hn0 ?_
  intro p e s m below meth c T0 C X0
  refine Go.cast (congrArg T0.setTop (ef_own_m3_37 m a)) ?_
  have hE1 := hE
  obtain ⟨SM0, SM1, SM2, SM3, EM0, EM1, EM2, EM3, FM0, FM1, FM2, FM3, SB, AB, hcs, S1, hfv, S2⟩ := hE1
  refine go_aloadN C X0 1 rfl d3_0 rfl rfl ?_
  refine go_getS C X0 (C.w 41 rfl) (SM0.ext X0.old.2) (pc' := 4) rfl d3_1 (fun T1 X2 => ?_)
  refine go_putF C X2 (C.w 44 rfl) Via.refl FF0 E0 (Or.inl (C.w 45 rfl)) (C.w 28 rfl) ga (ty := (.object "com/example/plantilla/plantilla/ScriptText$Mode")) (by decide) rfl rfl (pc' := 7) rfl d3_4 (fun T3 h5 W6 X4 => ?_)
  have F7 := FF0.same W6
  have E8 := E0.wr W6
  have F9 := FF1.other W6 (Or.inr (slot_ne (Or.inl (C.w 47 rfl)) (Or.inl (C.w 45 rfl)) (by decide) (t := .boolean) (t' := (.object "com/example/plantilla/plantilla/ScriptText$Mode")) (by decide) (by decide)))
  have F10 := FF2.other W6 (Or.inr (slot_ne (Or.inl (C.w 49 rfl)) (Or.inl (C.w 45 rfl)) (by decide) (t := .long) (t' := (.object "com/example/plantilla/plantilla/ScriptText$Mode")) (by decide) (by decide)))
  have F11 := FF3.other W6 (Or.inr (slot_ne (Or.inl (C.w 51 rfl)) (Or.inl (C.w 45 rfl)) (by decide) (t := .boolean) (t' := (.object "com/example/plantilla/plantilla/ScriptText$Mode")) (by decide) (by decide)))
  have F12 := FF4.other W6 (Or.inr (slot_ne (Or.inl (C.w 53 rfl)) (Or.inl (C.w 45 rfl)) (by decide) (t := .int) (t' := (.object "com/example/plantilla/plantilla/ScriptText$Mode")) (by decide) (by decide)))
  have F13 := FF5.other W6 (Or.inr (slot_ne (Or.inl (C.w 55 rfl)) (Or.inl (C.w 45 rfl)) (by decide) (t := .long) (t' := (.object "com/example/plantilla/plantilla/ScriptText$Mode")) (by decide) (by decide)))
  have F14 := FF6.other W6 (Or.inr (slot_ne (Or.inl (C.w 57 rfl)) (Or.inl (C.w 45 rfl)) (by decide) (t := .int) (t' := (.object "com/example/plantilla/plantilla/ScriptText$Mode")) (by decide) (by decide)))
  have K15 := (Keep.refl h [a]).wr W6 (Or.inl (List.mem_of_getElem? (i := 0) rfl))
  refine go_aloadN C X4 8 rfl d3_7 rfl rfl ?_
  refine go_iconst C X4 9 rfl d3_8 (z := 1) rfl ?_
  refine go_putFN C X4 (C.w 46 rfl) Via.refl F9 E8 (Or.inl (C.w 47 rfl)) (C.w 28 rfl) ga (ty := .boolean) (by decide) (v' := (.int (1 : Int32))) rfl rfl (pc' := 12) rfl d3_9 (fun T16 h18 W19 X17 => ?_)
  have F20 := F9.same W19
  have E21 := E8.wr W19
  have F22 := F7.other W19 (Or.inr (slot_ne (Or.inl (C.w 45 rfl)) (Or.inl (C.w 47 rfl)) (by decide) (t := (.object "com/example/plantilla/plantilla/ScriptText$Mode")) (t' := .boolean) (by decide) (by decide)))
  have F23 := F10.other W19 (Or.inr (slot_ne (Or.inl (C.w 49 rfl)) (Or.inl (C.w 47 rfl)) (by decide) (t := .long) (t' := .boolean) (by decide) (by decide)))
  have F24 := F11.other W19 (Or.inr (slot_ne (Or.inl (C.w 51 rfl)) (Or.inl (C.w 47 rfl)) (by decide) (t := .boolean) (t' := .boolean) (by decide) (by decide)))
  have F25 := F12.other W19 (Or.inr (slot_ne (Or.inl (C.w 53 rfl)) (Or.inl (C.w 47 rfl)) (by decide) (t := .int) (t' := .boolean) (by decide) (by decide)))
  have F26 := F13.other W19 (Or.inr (slot_ne (Or.inl (C.w 55 rfl)) (Or.inl (C.w 47 rfl)) (by decide) (t := .long) (t' := .boolean) (by decide) (by decide)))
  have F27 := F14.other W19 (Or.inr (slot_ne (Or.inl (C.w 57 rfl)) (Or.inl (C.w 47 rfl)) (by decide) (t := .int) (t' := .boolean) (by decide) (by decide)))
  have K28 := K15.wr W19 (Or.inl (List.mem_of_getElem? (i := 0) rfl))
  refine go_aloadN C X17 13 rfl d3_12 rfl rfl ?_
  refine go_lconst C X17 14 rfl d3_13 (z := 0) rfl ?_
  refine go_putF C X17 (C.w 48 rfl) Via.refl F23 E21 (Or.inl (C.w 49 rfl)) (C.w 28 rfl) ga (ty := .long) (by decide) rfl rfl (pc' := 17) rfl d3_14 (fun T29 h31 W32 X30 => ?_)
  have F33 := F23.same W32
  have E34 := E21.wr W32
  have F35 := F22.other W32 (Or.inr (slot_ne (Or.inl (C.w 45 rfl)) (Or.inl (C.w 49 rfl)) (by decide) (t := (.object "com/example/plantilla/plantilla/ScriptText$Mode")) (t' := .long) (by decide) (by decide)))
  have F36 := F20.other W32 (Or.inr (slot_ne (Or.inl (C.w 47 rfl)) (Or.inl (C.w 49 rfl)) (by decide) (t := .boolean) (t' := .long) (by decide) (by decide)))
  have F37 := F24.other W32 (Or.inr (slot_ne (Or.inl (C.w 51 rfl)) (Or.inl (C.w 49 rfl)) (by decide) (t := .boolean) (t' := .long) (by decide) (by decide)))
  have F38 := F25.other W32 (Or.inr (slot_ne (Or.inl (C.w 53 rfl)) (Or.inl (C.w 49 rfl)) (by decide) (t := .int) (t' := .long) (by decide) (by decide)))
  have F39 := F26.other W32 (Or.inr (slot_ne (Or.inl (C.w 55 rfl)) (Or.inl (C.w 49 rfl)) (by decide) (t := .long) (t' := .long) (by decide) (by decide)))
  have F40 := F27.other W32 (Or.inr (slot_ne (Or.inl (C.w 57 rfl)) (Or.inl (C.w 49 rfl)) (by decide) (t := .int) (t' := .long) (by decide) (by decide)))
  have K41 := K28.wr W32 (Or.inl (List.mem_of_getElem? (i := 0) rfl))
  refine go_aloadN C X30 18 rfl d3_17 rfl rfl ?_
  refine go_iconst C X30 19 rfl d3_18 (z := 0) rfl ?_
  refine go_putFN C X30 (C.w 50 rfl) Via.refl F37 E34 (Or.inl (C.w 51 rfl)) (C.w 28 rfl) ga (ty := .boolean) (by decide) (v' := (.int (0 : Int32))) rfl rfl (pc' := 22) rfl d3_19 (fun T42 h44 W45 X43 => ?_)
  have F46 := F37.same W45
  have E47 := E34.wr W45
  have F48 := F35.other W45 (Or.inr (slot_ne (Or.inl (C.w 45 rfl)) (Or.inl (C.w 51 rfl)) (by decide) (t := (.object "com/example/plantilla/plantilla/ScriptText$Mode")) (t' := .boolean) (by decide) (by decide)))
  have F49 := F36.other W45 (Or.inr (slot_ne (Or.inl (C.w 47 rfl)) (Or.inl (C.w 51 rfl)) (by decide) (t := .boolean) (t' := .boolean) (by decide) (by decide)))
  have F50 := F33.other W45 (Or.inr (slot_ne (Or.inl (C.w 49 rfl)) (Or.inl (C.w 51 rfl)) (by decide) (t := .long) (t' := .boolean) (by decide) (by decide)))
  have F51 := F38.other W45 (Or.inr (slot_ne (Or.inl (C.w 53 rfl)) (Or.inl (C.w 51 rfl)) (by decide) (t := .int) (t' := .boolean) (by decide) (by decide)))
  have F52 := F39.other W45 (Or.inr (slot_ne (Or.inl (C.w 55 rfl)) (Or.inl (C.w 51 rfl)) (by decide) (t := .long) (t' := .boolean) (by decide) (by decide)))
  have F53 := F40.other W45 (Or.inr (slot_ne (Or.inl (C.w 57 rfl)) (Or.inl (C.w 51 rfl)) (by decide) (t := .int) (t' := .boolean) (by decide) (by decide)))
  have K54 := K41.wr W45 (Or.inl (List.mem_of_getElem? (i := 0) rfl))
  refine go_aloadN C X43 23 rfl d3_22 rfl rfl ?_
  refine go_iconst C X43 24 rfl d3_23 (z := 0) rfl ?_
  refine go_putF C X43 (C.w 52 rfl) Via.refl F51 E47 (Or.inl (C.w 53 rfl)) (C.w 28 rfl) ga (ty := .int) (by decide) rfl rfl (pc' := 27) rfl d3_24 (fun T55 h57 W58 X56 => ?_)
  have F59 := F51.same W58
  have E60 := E47.wr W58
  have F61 := F48.other W58 (Or.inr (slot_ne (Or.inl (C.w 45 rfl)) (Or.inl (C.w 53 rfl)) (by decide) (t := (.object "com/example/plantilla/plantilla/ScriptText$Mode")) (t' := .int) (by decide) (by decide)))
  have F62 := F49.other W58 (Or.inr (slot_ne (Or.inl (C.w 47 rfl)) (Or.inl (C.w 53 rfl)) (by decide) (t := .boolean) (t' := .int) (by decide) (by decide)))
  have F63 := F50.other W58 (Or.inr (slot_ne (Or.inl (C.w 49 rfl)) (Or.inl (C.w 53 rfl)) (by decide) (t := .long) (t' := .int) (by decide) (by decide)))
  have F64 := F46.other W58 (Or.inr (slot_ne (Or.inl (C.w 51 rfl)) (Or.inl (C.w 53 rfl)) (by decide) (t := .boolean) (t' := .int) (by decide) (by decide)))
  have F65 := F52.other W58 (Or.inr (slot_ne (Or.inl (C.w 55 rfl)) (Or.inl (C.w 53 rfl)) (by decide) (t := .long) (t' := .int) (by decide) (by decide)))
  have F66 := F53.other W58 (Or.inr (slot_ne (Or.inl (C.w 57 rfl)) (Or.inl (C.w 53 rfl)) (by decide) (t := .int) (t' := .int) (by decide) (by decide)))
  have K67 := K54.wr W58 (Or.inl (List.mem_of_getElem? (i := 0) rfl))
  refine go_aloadN C X56 28 rfl d3_27 rfl rfl ?_
  refine go_lconst C X56 29 rfl d3_28 (z := 0) rfl ?_
  refine go_putF C X56 (C.w 54 rfl) Via.refl F65 E60 (Or.inl (C.w 55 rfl)) (C.w 28 rfl) ga (ty := .long) (by decide) rfl rfl (pc' := 32) rfl d3_29 (fun T68 h70 W71 X69 => ?_)
  have F72 := F65.same W71
  have E73 := E60.wr W71
  have F74 := F61.other W71 (Or.inr (slot_ne (Or.inl (C.w 45 rfl)) (Or.inl (C.w 55 rfl)) (by decide) (t := (.object "com/example/plantilla/plantilla/ScriptText$Mode")) (t' := .long) (by decide) (by decide)))
  have F75 := F62.other W71 (Or.inr (slot_ne (Or.inl (C.w 47 rfl)) (Or.inl (C.w 55 rfl)) (by decide) (t := .boolean) (t' := .long) (by decide) (by decide)))
  have F76 := F63.other W71 (Or.inr (slot_ne (Or.inl (C.w 49 rfl)) (Or.inl (C.w 55 rfl)) (by decide) (t := .long) (t' := .long) (by decide) (by decide)))
  have F77 := F64.other W71 (Or.inr (slot_ne (Or.inl (C.w 51 rfl)) (Or.inl (C.w 55 rfl)) (by decide) (t := .boolean) (t' := .long) (by decide) (by decide)))
  have F78 := F59.other W71 (Or.inr (slot_ne (Or.inl (C.w 53 rfl)) (Or.inl (C.w 55 rfl)) (by decide) (t := .int) (t' := .long) (by decide) (by decide)))
  have F79 := F66.other W71 (Or.inr (slot_ne (Or.inl (C.w 57 rfl)) (Or.inl (C.w 55 rfl)) (by decide) (t := .int) (t' := .long) (by decide) (by decide)))
  have K80 := K67.wr W71 (Or.inl (List.mem_of_getElem? (i := 0) rfl))
  refine go_aloadN C X69 33 rfl d3_32 rfl rfl ?_
  refine go_iconst C X69 34 rfl d3_33 (z := 0) rfl ?_
  refine go_putF C X69 (C.w 56 rfl) Via.refl F79 E73 (Or.inl (C.w 57 rfl)) (C.w 28 rfl) ga (ty := .int) (by decide) rfl rfl (pc' := 37) rfl d3_34 (fun T81 h83 W84 X82 => ?_)
  have F85 := F79.same W84
  have E86 := E73.wr W84
  have F87 := F74.other W84 (Or.inr (slot_ne (Or.inl (C.w 45 rfl)) (Or.inl (C.w 57 rfl)) (by decide) (t := (.object "com/example/plantilla/plantilla/ScriptText$Mode")) (t' := .int) (by decide) (by decide)))
  have F88 := F75.other W84 (Or.inr (slot_ne (Or.inl (C.w 47 rfl)) (Or.inl (C.w 57 rfl)) (by decide) (t := .boolean) (t' := .int) (by decide) (by decide)))
  have F89 := F76.other W84 (Or.inr (slot_ne (Or.inl (C.w 49 rfl)) (Or.inl (C.w 57 rfl)) (by decide) (t := .long) (t' := .int) (by decide) (by decide)))
  have F90 := F77.other W84 (Or.inr (slot_ne (Or.inl (C.w 51 rfl)) (Or.inl (C.w 57 rfl)) (by decide) (t := .boolean) (t' := .int) (by decide) (by decide)))
  have F91 := F78.other W84 (Or.inr (slot_ne (Or.inl (C.w 53 rfl)) (Or.inl (C.w 57 rfl)) (by decide) (t := .int) (t' := .int) (by decide) (by decide)))
  have F92 := F72.other W84 (Or.inr (slot_ne (Or.inl (C.w 55 rfl)) (Or.inl (C.w 57 rfl)) (by decide) (t := .long) (t' := .int) (by decide) (by decide)))
  have K93 := K80.wr W84 (Or.inl (List.mem_of_getElem? (i := 0) rfl))
  exact go_ret0 C X82 d3_37 ⟨rfl, K93, E86, F87, F88, F89, F90, F91, F92, F85⟩ (by decide) (by decide)
theorem d1_5 : decode prog_37_method_1_code 5 = .ok (.invokevirtual 9, 3) := by decide +kernel
theorem d1_8 : decode prog_37_method_1_code 8 = .ok (.return_, 1) := by decide +kernel
theorem ef_own_m1_36 (m : MethodId) (a : Addr)  : entryFrame m #[(.ref a)] 1 = mkF m 0 #[rv a] [] := by
  first | (simp [entryFrame, mkF, argsToLocals, Value.category]; done) | rfl
set_option maxRecDepth 65536 in
set_option maxHeartbeats 40000000 in
theorem own_m1_36 (l : Launch) (Z : State) (a0 : Array Value) (hw : ∀ d ∈ tables_1, d.before a0 Z = true) (a : Addr) (mc ms mt md be : Addr) (cs : Int32) (fv : Value)  (h : Heap) (n0 : Nat) (hn0 : Old Z n0 h) (hE : own_E Z mc ms mt md be cs fv)  (E0 : Exa Z h a "com/example/plantilla/plantilla/ScriptText") (FF0 : Fld Z h a "com/example/plantilla/plantilla/ScriptText" "mode" "Lcom/example/plantilla/plantilla/ScriptText$Mode;" .null) (FF1 : Fld Z h a "com/example/plantilla/plantilla/ScriptText" "regexNext" "Z" (.int (0 : Int32))) (FF2 : Fld Z h a "com/example/plantilla/plantilla/ScriptText" "word" "J" (.long (0 : Int64))) (FF3 : Fld Z h a "com/example/plantilla/plantilla/ScriptText" "backslash" "Z" (.int (0 : Int32))) (FF4 : Fld Z h a "com/example/plantilla/plantilla/ScriptText" "braces" "I" (.int (0 : Int32))) (FF5 : Fld Z h a "com/example/plantilla/plantilla/ScriptText" "substitutions" "J" (.long (0 : Int64))) (FF6 : Fld Z h a "com/example/plantilla/plantilla/ScriptText" "commentStart" "I" (.int (0 : Int32))) (ga : n0 ≤ a) :
    Con l Z (⟨"com/example/plantilla/plantilla/ScriptText", "<init>", "()V"⟩ : MethodName) prog_37_method_1_code 1 none ({ frames := 1, cells := 0, slots := 0, locals := 12 } : Room) #[(.ref a)] h n0 (fun v h' => v = none ∧ Keep h h' [a] ∧ own_F Z h' a mc (1 : Int32) (0 : Int64) (0 : Int32) (0 : Int32) (0 : Int64) (0 : Int32)) := by
  refine con_of hw (plainFor_of_name pn_com_example_plantilla_plantilla_ScriptText) hn0 ?_
  intro p e s m below meth c T0 C X0
  refine Go.cast (congrArg T0.setTop (ef_own_m1_36 m a)) ?_
  have hE1 := hE
  obtain ⟨SM0, SM1, SM2, SM3, EM0, EM1, EM2, EM3, FM0, FM1, FM2, FM3, SB, AB, hcs, S1, hfv, S2⟩ := hE1
  refine go_aloadN C X0 1 rfl d1_0 rfl rfl ?_
  refine go_initO C X0 (C.w 33 rfl) (C.w 34 rfl) (C.w 35 rfl) (by decide) (Nat.le_of_ble_eq_true rfl) rfl (pc' := 4) rfl d1_1 (fun T1 X2 => ?_)
  refine go_aloadN C X2 5 rfl d1_4 rfl rfl ?_
  refine go_virtual C X2 E0 (C.w 36 rfl) (C.w 37 rfl) (notFace_of_selects (args := #[]) (mvT C.hZ (C.w 39 rfl))) (C.w 39 rfl) (C.w 38 rfl) (C.w 29 rfl) (C.w 40 rfl) (own_m3_37 l Z a0 C.ws a mc ms mt md be cs fv  h n0 X2.old hE  E0 FF0 FF1 FF2 FF3 FF4 FF5 FF6 ga) (argsL := []) (rest := []) (lenOf pd_10 rfl) rfl (by decide) (by decide) (Nat.le_of_ble_eq_true rfl) (by decide) (by decide) rfl rfl (pc' := 8) rfl d1_5 ?_
  rintro T3 h5 _ ⟨rfl, Kq6, Eq6, Fq60, Fq61, Fq62, Fq63, Fq64, Fq65, Fq66⟩ X4
  show Go p e below _ (T3.setTop (mkF m 8 #[rv a] []))
  have E7 := E0.keep Kq6
  have K8 := (Keep.refl h [a]).trans Kq6 (allS (Or.inl (List.mem_of_getElem? (i := 0) rfl)) all0)
  exact go_ret0 C X4 d1_8 ⟨rfl, K8, Eq6, Fq60, Fq61, Fq62, Fq63, Fq64, Fq65, Fq66⟩ (by decide) (by decide)
theorem pd_14 : parseMethodDescriptor "(Ljava/lang/String;)V" = some ⟨[(.object "java/lang/String")], none⟩ := by decide +kernel
theorem pd_15 : parseMethodDescriptor "(Lcom/example/plantilla/plantilla/ScriptText;)Z" = some ⟨[(.object "com/example/plantilla/plantilla/ScriptText")], some .boolean⟩ := by decide +kernel
theorem pn_com_example_plantilla_plantilla_ScriptTextSameAsPinLaw : plainName "com/example/plantilla/plantilla/ScriptTextSameAsPinLaw" = true := by first | (simp [plainName, overriddenIn]; done) | decide +kernel
theorem ef_own_law (m : MethodId) (x1 : Int32) (x2 : Int32)  : entryFrame m #[(.int x1), (.int x2)] maxLocals = mkF m 0 #[iv x1, iv x2, un, un, un, un, un, un, un] [] := by
  first | (simp [entryFrame, mkF, argsToLocals, Value.category, maxLocals]; done) | rfl
set_option maxRecDepth 65536 in
set_option maxHeartbeats 40000000 in
theorem own_law (l : Launch) (Z : State) (a0 : Array Value) (hw : ∀ d ∈ tables_1, d.before a0 Z = true) (x1 : Int32) (x2 : Int32) (mc ms mt md be : Addr) (cs : Int32) (fv : Value) (h : Heap) (n0 : Nat) (hn0 : Old Z n0 h) (hEL : EW Z a0 consts_1) (hE : own_E Z mc ms mt md be cs fv) :
    ConW l Z consts_1 x code maxLocals ret room_1 #[(.int x1), (.int x2)] h n0 (fun v h' => v = some (.int 1)) := by
  refine conW_of hw (plainFor_of_name pn_com_example_plantilla_plantilla_ScriptTextSameAsPinLaw) hn0 ?_
  intro p e sv0 s m below meth c T0 C WI0 X0
  refine Go.cast (congrArg T0.setTop (ef_own_law m x1 x2)) ?_
  have hE1 := hE
  obtain ⟨SM0, SM1, SM2, SM3, EM0, EM1, EM2, EM3, FM0, FM1, FM2, FM3, SB, AB, hcs, S1, hfv, S2⟩ := hE1
  have hmn : mc ≠ ms := Fld.ne FM0 FM1 (fun r => absurd (Value.int.inj r) (by decide))
  refine go_bipush C X0 2 rfl at_0 (z := 16) rfl ?_
  refine go_newR C X0 (C.w 0 rfl) (C.w 1 rfl) (z := 16) (cap := 16) (by decide) (by decide) (by decide) (by decide) (by decide) (pc' := 5) rfl at_2 (fun T1 h3 tx ha_tx ga_tx E4 A5 X2 => ?_)
  have WI6 := WI0.ext E4
  replace A5 : Lo Z h3 tx "java/lang/String" [.null, .null, .null, .null, .null, .null, .null, .null, .null, .null, .null, .null, .null, .null, .null, .null] := A5
  have SG0 : Sgs Z h3 [] := Sgs.nil
  have NT0 : Nes [] tx := Nes.nil
  refine go_dup C X2 6 rfl at_5 rfl ?_
  refine go_iconst C X2 7 rfl at_6 (z := 0) rfl ?_
  refine go_ldcHX C X2 WI6 hEL (C.w 2 rfl) (own_wS C.ws) (List.mem_of_getElem? (i := 1) rfl) (vs := []) (z := 0) own_lit9 (by decide) (by decide) (q := 0) own_len9 (by decide) (by decide) (by decide) (pc' := 9) rfl at_7 ?_
  intro s T7 h9 u0 v0 C WI11 E10 ES0 r2 r3 r4 SF _ X8
  have A14 := A5.ext E10
  have G15 := SG0.ext E10
  have SG12 := G15.cons ES0 r2 r3 r4
  have NT13 := NT0.cons (vs := []) (SF tx (safeA C A14.la (by decide)))
  clear SF r2 r3 r4
  refine go_aastore C X8 A14 ES0 (by decide) (by show _ < (16 : Int); decide) ga_tx (pc' := 10) rfl at_9 (fun T16 h18 W19 A20 X17 => ?_)
  have SQ21 : Safe Z consts_1 s.vm _ tx := (safeA C A14.la (by decide))
  have WI22 := WI11.wr W19 SQ21
  have G23 := SG12.wr W19 NT13
  replace A20 : Lo Z h18 tx "java/lang/String" [(.ref u0), .null, .null, .null, .null, .null, .null, .null, .null, .null, .null, .null, .null, .null, .null, .null] := A20
  clear ES0
  refine go_dup C X17 11 rfl at_10 rfl ?_
  refine go_iconst C X17 12 rfl at_11 (z := 1) rfl ?_
  refine go_ldcHX C X17 WI22 hEL (C.w 11 rfl) (own_wS C.ws) (List.mem_of_getElem? (i := 2) rfl) (vs := [.int 39]) (z := 1) own_lit11 (by decide) (by decide) (q := 4) own_len11 (by decide) (by decide) (by decide) (pc' := 14) rfl at_12 ?_
  intro s T24 h26 u1 v1 C WI28 E27 ES1 r2 r3 r4 SF _ X25
  have A31 := A20.ext E27
  have G32 := G23.ext E27
  have SG29 := G32.cons ES1 r2 r3 r4
  have NT30 := NT13.cons (vs := [.int 39]) (SF tx (safeA C A31.la (by decide)))
  clear SF r2 r3 r4
  refine go_aastore C X25 A31 ES1 (by decide) (by show _ < (16 : Int); decide) ga_tx (pc' := 15) rfl at_14 (fun T33 h35 W36 A37 X34 => ?_)
  have SQ38 : Safe Z consts_1 s.vm _ tx := (safeA C A31.la (by decide))
  have WI39 := WI28.wr W36 SQ38
  have G40 := SG29.wr W36 NT30
  replace A37 : Lo Z h35 tx "java/lang/String" [(.ref u0), (.ref u1), .null, .null, .null, .null, .null, .null, .null, .null, .null, .null, .null, .null, .null, .null] := A37
  clear ES1
  refine go_dup C X34 16 rfl at_15 rfl ?_
  refine go_iconst C X34 17 rfl at_16 (z := 2) rfl ?_
  refine go_ldcHX C X34 WI39 hEL (C.w 12 rfl) (own_wS C.ws) (List.mem_of_getElem? (i := 3) rfl) (vs := [.int 39, .int 92]) (z := 2) own_lit13 (by decide) (by decide) (q := 8) own_len13 (by decide) (by decide) (by decide) (pc' := 19) rfl at_17 ?_
  intro s T41 h43 u2 v2 C WI45 E44 ES2 r2 r3 r4 SF _ X42
  have A48 := A37.ext E44
  have G49 := G40.ext E44
  have SG46 := G49.cons ES2 r2 r3 r4
  have NT47 := NT30.cons (vs := [.int 39, .int 92]) (SF tx (safeA C A48.la (by decide)))
  clear SF r2 r3 r4
  refine go_aastore C X42 A48 ES2 (by decide) (by show _ < (16 : Int); decide) ga_tx (pc' := 20) rfl at_19 (fun T50 h52 W53 A54 X51 => ?_)
  have SQ55 : Safe Z consts_1 s.vm _ tx := (safeA C A48.la (by decide))
  have WI56 := WI45.wr W53 SQ55
  have G57 := SG46.wr W53 NT47
  replace A54 : Lo Z h52 tx "java/lang/String" [(.ref u0), (.ref u1), (.ref u2), .null, .null, .null, .null, .null, .null, .null, .null, .null, .null, .null, .null, .null] := A54
  clear ES2
  refine go_dup C X51 21 rfl at_20 rfl ?_
  refine go_iconst C X51 22 rfl at_21 (z := 3) rfl ?_
  refine go_ldcHX C X51 WI56 hEL (C.w 13 rfl) (own_wS C.ws) (List.mem_of_getElem? (i := 4) rfl) (vs := [.int 41]) (z := 1) own_lit15 (by decide) (by decide) (q := 4) own_len15 (by decide) (by decide) (by decide) (pc' := 24) rfl at_22 ?_
  intro s T58 h60 u3 v3 C WI62 E61 ES3 r2 r3 r4 SF _ X59
  have A65 := A54.ext E61
  have G66 := G57.ext E61
  have SG63 := G66.cons ES3 r2 r3 r4
  have NT64 := NT47.cons (vs := [.int 41]) (SF tx (safeA C A65.la (by decide)))
  clear SF r2 r3 r4
  refine go_aastore C X59 A65 ES3 (by decide) (by show _ < (16 : Int); decide) ga_tx (pc' := 25) rfl at_24 (fun T67 h69 W70 A71 X68 => ?_)
  have SQ72 : Safe Z consts_1 s.vm _ tx := (safeA C A65.la (by decide))
  have WI73 := WI62.wr W70 SQ72
  have G74 := SG63.wr W70 NT64
  replace A71 : Lo Z h69 tx "java/lang/String" [(.ref u0), (.ref u1), (.ref u2), (.ref u3), .null, .null, .null, .null, .null, .null, .null, .null, .null, .null, .null, .null] := A71
  clear ES3
  refine go_dup C X68 26 rfl at_25 rfl ?_
  refine go_iconst C X68 27 rfl at_26 (z := 4) rfl ?_
  refine go_ldcHX C X68 WI73 hEL (C.w 14 rfl) (own_wS C.ws) (List.mem_of_getElem? (i := 5) rfl) (vs := [.int 97]) (z := 1) own_lit17 (by decide) (by decide) (q := 4) own_len17 (by decide) (by decide) (by decide) (pc' := 29) rfl at_27 ?_
  intro s T75 h77 u4 v4 C WI79 E78 ES4 r2 r3 r4 SF _ X76
  have A82 := A71.ext E78
  have G83 := G74.ext E78
  have SG80 := G83.cons ES4 r2 r3 r4
  have NT81 := NT64.cons (vs := [.int 97]) (SF tx (safeA C A82.la (by decide)))
  clear SF r2 r3 r4
  refine go_aastore C X76 A82 ES4 (by decide) (by show _ < (16 : Int); decide) ga_tx (pc' := 30) rfl at_29 (fun T84 h86 W87 A88 X85 => ?_)
  have SQ89 : Safe Z consts_1 s.vm _ tx := (safeA C A82.la (by decide))
  have WI90 := WI79.wr W87 SQ89
  have G91 := SG80.wr W87 NT81
  replace A88 : Lo Z h86 tx "java/lang/String" [(.ref u0), (.ref u1), (.ref u2), (.ref u3), (.ref u4), .null, .null, .null, .null, .null, .null, .null, .null, .null, .null, .null] := A88
  clear ES4
  refine go_dup C X85 31 rfl at_30 rfl ?_
  refine go_iconst C X85 32 rfl at_31 (z := 5) rfl ?_
  refine go_ldcHX C X85 WI90 hEL (C.w 15 rfl) (own_wS C.ws) (List.mem_of_getElem? (i := 6) rfl) (vs := [.int 123]) (z := 1) own_lit19 (by decide) (by decide) (q := 4) own_len19 (by decide) (by decide) (by decide) (pc' := 34) rfl at_32 ?_
  intro s T92 h94 u5 v5 C WI96 E95 ES5 r2 r3 r4 SF _ X93
  have A99 := A88.ext E95
  have G100 := G91.ext E95
  have SG97 := G100.cons ES5 r2 r3 r4
  have NT98 := NT81.cons (vs := [.int 123]) (SF tx (safeA C A99.la (by decide)))
  clear SF r2 r3 r4
  refine go_aastore C X93 A99 ES5 (by decide) (by show _ < (16 : Int); decide) ga_tx (pc' := 35) rfl at_34 (fun T101 h103 W104 A105 X102 => ?_)
  have SQ106 : Safe Z consts_1 s.vm _ tx := (safeA C A99.la (by decide))
  have WI107 := WI96.wr W104 SQ106
  have G108 := SG97.wr W104 NT98
  replace A105 : Lo Z h103 tx "java/lang/String" [(.ref u0), (.ref u1), (.ref u2), (.ref u3), (.ref u4), (.ref u5), .null, .null, .null, .null, .null, .null, .null, .null, .null, .null] := A105
  clear ES5
  refine go_dup C X102 36 rfl at_35 rfl ?_
  refine go_bipush C X102 38 rfl at_36 (z := 6) rfl ?_
  refine go_ldcHX C X102 WI107 hEL (C.w 16 rfl) (own_wS C.ws) (List.mem_of_getElem? (i := 7) rfl) (vs := [.int 96, .int 36, .int 123]) (z := 3) own_lit21 (by decide) (by decide) (q := 12) own_len21 (by decide) (by decide) (by decide) (pc' := 40) rfl at_38 ?_
  intro s T109 h111 u6 v6 C WI113 E112 ES6 r2 r3 r4 SF _ X110
  have A116 := A105.ext E112
  have G117 := G108.ext E112
  have SG114 := G117.cons ES6 r2 r3 r4
  have NT115 := NT98.cons (vs := [.int 96, .int 36, .int 123]) (SF tx (safeA C A116.la (by decide)))
  clear SF r2 r3 r4
  refine go_aastore C X110 A116 ES6 (by decide) (by show _ < (16 : Int); decide) ga_tx (pc' := 41) rfl at_40 (fun T118 h120 W121 A122 X119 => ?_)
  have SQ123 : Safe Z consts_1 s.vm _ tx := (safeA C A116.la (by decide))
  have WI124 := WI113.wr W121 SQ123
  have G125 := SG114.wr W121 NT115
  replace A122 : Lo Z h120 tx "java/lang/String" [(.ref u0), (.ref u1), (.ref u2), (.ref u3), (.ref u4), (.ref u5), (.ref u6), .null, .null, .null, .null, .null, .null, .null, .null, .null] := A122
  clear ES6
  refine go_dup C X119 42 rfl at_41 rfl ?_
  refine go_bipush C X119 44 rfl at_42 (z := 7) rfl ?_
  refine go_ldcHX C X119 WI124 hEL (C.w 17 rfl) (own_wS C.ws) (List.mem_of_getElem? (i := 8) rfl) (vs := [.int 60]) (z := 1) own_lit23 (by decide) (by decide) (q := 4) own_len23 (by decide) (by decide) (by decide) (pc' := 46) rfl at_44 ?_
  intro s T126 h128 u7 v7 C WI130 E129 ES7 r2 r3 r4 SF _ X127
  have A133 := A122.ext E129
  have G134 := G125.ext E129
  have SG131 := G134.cons ES7 r2 r3 r4
  have NT132 := NT115.cons (vs := [.int 60]) (SF tx (safeA C A133.la (by decide)))
  clear SF r2 r3 r4
  refine go_aastore C X127 A133 ES7 (by decide) (by show _ < (16 : Int); decide) ga_tx (pc' := 47) rfl at_46 (fun T135 h137 W138 A139 X136 => ?_)
  have SQ140 : Safe Z consts_1 s.vm _ tx := (safeA C A133.la (by decide))
  have WI141 := WI130.wr W138 SQ140
  have G142 := SG131.wr W138 NT132
  replace A139 : Lo Z h137 tx "java/lang/String" [(.ref u0), (.ref u1), (.ref u2), (.ref u3), (.ref u4), (.ref u5), (.ref u6), (.ref u7), .null, .null, .null, .null, .null, .null, .null, .null] := A139
  clear ES7
  refine go_dup C X136 48 rfl at_47 rfl ?_
  refine go_bipush C X136 50 rfl at_48 (z := 8) rfl ?_
  refine go_ldcHX C X136 WI141 hEL (C.w 18 rfl) (own_wS C.ws) (List.mem_of_getElem? (i := 9) rfl) (vs := [.int 97, .int 98, .int 99, .int 100, .int 101, .int 102, .int 103]) (z := 7) own_lit25 (by decide) (by decide) (q := 28) own_len25 (by decide) (by decide) (by decide) (pc' := 52) rfl at_50 ?_
  intro s T143 h145 u8 v8 C WI147 E146 ES8 r2 r3 r4 SF _ X144
  have A150 := A139.ext E146
  have G151 := G142.ext E146
  have SG148 := G151.cons ES8 r2 r3 r4
  have NT149 := NT132.cons (vs := [.int 97, .int 98, .int 99, .int 100, .int 101, .int 102, .int 103]) (SF tx (safeA C A150.la (by decide)))
  clear SF r2 r3 r4
  refine go_aastore C X144 A150 ES8 (by decide) (by show _ < (16 : Int); decide) ga_tx (pc' := 53) rfl at_52 (fun T152 h154 W155 A156 X153 => ?_)
  have SQ157 : Safe Z consts_1 s.vm _ tx := (safeA C A150.la (by decide))
  have WI158 := WI147.wr W155 SQ157
  have G159 := SG148.wr W155 NT149
  replace A156 : Lo Z h154 tx "java/lang/String" [(.ref u0), (.ref u1), (.ref u2), (.ref u3), (.ref u4), (.ref u5), (.ref u6), (.ref u7), (.ref u8), .null, .null, .null, .null, .null, .null, .null] := A156
  clear ES8
  refine go_dup C X153 54 rfl at_53 rfl ?_
  refine go_bipush C X153 56 rfl at_54 (z := 9) rfl ?_
  refine go_ldcHX C X153 WI158 hEL (C.w 19 rfl) (own_wS C.ws) (List.mem_of_getElem? (i := 10) rfl) (vs := [.int 98, .int 98, .int 99, .int 100, .int 101, .int 102, .int 103]) (z := 7) own_lit27 (by decide) (by decide) (q := 28) own_len27 (by decide) (by decide) (by decide) (pc' := 58) rfl at_56 ?_
  intro s T160 h162 u9 v9 C WI164 E163 ES9 r2 r3 r4 SF _ X161
  have A167 := A156.ext E163
  have G168 := G159.ext E163
  have SG165 := G168.cons ES9 r2 r3 r4
  have NT166 := NT149.cons (vs := [.int 98, .int 98, .int 99, .int 100, .int 101, .int 102, .int 103]) (SF tx (safeA C A167.la (by decide)))
  clear SF r2 r3 r4
  refine go_aastore C X161 A167 ES9 (by decide) (by show _ < (16 : Int); decide) ga_tx (pc' := 59) rfl at_58 (fun T169 h171 W172 A173 X170 => ?_)
  have SQ174 : Safe Z consts_1 s.vm _ tx := (safeA C A167.la (by decide))
  have WI175 := WI164.wr W172 SQ174
  have G176 := SG165.wr W172 NT166
  replace A173 : Lo Z h171 tx "java/lang/String" [(.ref u0), (.ref u1), (.ref u2), (.ref u3), (.ref u4), (.ref u5), (.ref u6), (.ref u7), (.ref u8), (.ref u9), .null, .null, .null, .null, .null, .null] := A173
  clear ES9
  refine go_dup C X170 60 rfl at_59 rfl ?_
  refine go_bipush C X170 62 rfl at_60 (z := 10) rfl ?_
  refine go_ldcHX C X170 WI175 hEL (C.w 20 rfl) (own_wS C.ws) (List.mem_of_getElem? (i := 11) rfl) (vs := [.int 123, .int 123, .int 123, .int 123, .int 123, .int 123, .int 123, .int 123, .int 123, .int 123, .int 123, .int 123, .int 123, .int 123, .int 123, .int 123, .int 123, .int 123, .int 123, .int 123, .int 123, .int 123, .int 123, .int 123, .int 123, .int 123, .int 123, .int 123, .int 123, .int 123, .int 123, .int 123, .int 96, .int 36, .int 123]) (z := 35) own_lit29 (by decide) (by decide) (q := 140) own_len29 (by decide) (by decide) (by decide) (pc' := 64) rfl at_62 ?_
  intro s T177 h179 u10 v10 C WI181 E180 ES10 r2 r3 r4 SF _ X178
  have A184 := A173.ext E180
  have G185 := G176.ext E180
  have SG182 := G185.cons ES10 r2 r3 r4
  have NT183 := NT166.cons (vs := [.int 123, .int 123, .int 123, .int 123, .int 123, .int 123, .int 123, .int 123, .int 123, .int 123, .int 123, .int 123, .int 123, .int 123, .int 123, .int 123, .int 123, .int 123, .int 123, .int 123, .int 123, .int 123, .int 123, .int 123, .int 123, .int 123, .int 123, .int 123, .int 123, .int 123, .int 123, .int 123, .int 96, .int 36, .int 123]) (SF tx (safeA C A184.la (by decide)))
  clear SF r2 r3 r4
  refine go_aastore C X178 A184 ES10 (by decide) (by show _ < (16 : Int); decide) ga_tx (pc' := 65) rfl at_64 (fun T186 h188 W189 A190 X187 => ?_)
  have SQ191 : Safe Z consts_1 s.vm _ tx := (safeA C A184.la (by decide))
  have WI192 := WI181.wr W189 SQ191
  have G193 := SG182.wr W189 NT183
  replace A190 : Lo Z h188 tx "java/lang/String" [(.ref u0), (.ref u1), (.ref u2), (.ref u3), (.ref u4), (.ref u5), (.ref u6), (.ref u7), (.ref u8), (.ref u9), (.ref u10), .null, .null, .null, .null, .null] := A190
  clear ES10
  refine go_dup C X187 66 rfl at_65 rfl ?_
  refine go_bipush C X187 68 rfl at_66 (z := 11) rfl ?_
  refine go_ldcHX C X187 WI192 hEL (C.w 21 rfl) (own_wS C.ws) (List.mem_of_getElem? (i := 12) rfl) (vs := [.int 123, .int 123, .int 123, .int 123, .int 123, .int 123, .int 123, .int 123, .int 123, .int 123, .int 123, .int 123, .int 123, .int 123, .int 123, .int 123, .int 123, .int 123, .int 123, .int 123, .int 123, .int 123, .int 123, .int 123, .int 123, .int 123, .int 123, .int 123, .int 123, .int 123, .int 123, .int 123, .int 123]) (z := 33) own_lit31 (by decide) (by decide) (q := 132) own_len31 (by decide) (by decide) (by decide) (pc' := 70) rfl at_68 ?_
  intro s T194 h196 u11 v11 C WI198 E197 ES11 r2 r3 r4 SF _ X195
  have A201 := A190.ext E197
  have G202 := G193.ext E197
  have SG199 := G202.cons ES11 r2 r3 r4
  have NT200 := NT183.cons (vs := [.int 123, .int 123, .int 123, .int 123, .int 123, .int 123, .int 123, .int 123, .int 123, .int 123, .int 123, .int 123, .int 123, .int 123, .int 123, .int 123, .int 123, .int 123, .int 123, .int 123, .int 123, .int 123, .int 123, .int 123, .int 123, .int 123, .int 123, .int 123, .int 123, .int 123, .int 123, .int 123, .int 123]) (SF tx (safeA C A201.la (by decide)))
  clear SF r2 r3 r4
  refine go_aastore C X195 A201 ES11 (by decide) (by show _ < (16 : Int); decide) ga_tx (pc' := 71) rfl at_70 (fun T203 h205 W206 A207 X204 => ?_)
  have SQ208 : Safe Z consts_1 s.vm _ tx := (safeA C A201.la (by decide))
  have WI209 := WI198.wr W206 SQ208
  have G210 := SG199.wr W206 NT200
  replace A207 : Lo Z h205 tx "java/lang/String" [(.ref u0), (.ref u1), (.ref u2), (.ref u3), (.ref u4), (.ref u5), (.ref u6), (.ref u7), (.ref u8), (.ref u9), (.ref u10), (.ref u11), .null, .null, .null, .null] := A207
  clear ES11
  refine go_dup C X204 72 rfl at_71 rfl ?_
  refine go_bipush C X204 74 rfl at_72 (z := 12) rfl ?_
  refine go_ldcHX C X204 WI209 hEL (C.w 22 rfl) (own_wS C.ws) (List.mem_of_getElem? (i := 13) rfl) (vs := [.int 32]) (z := 1) own_lit33 (by decide) (by decide) (q := 4) own_len33 (by decide) (by decide) (by decide) (pc' := 76) rfl at_74 ?_
  intro s T211 h213 u12 v12 C WI215 E214 ES12 r2 r3 r4 SF _ X212
  have A218 := A207.ext E214
  have G219 := G210.ext E214
  have SG216 := G219.cons ES12 r2 r3 r4
  have NT217 := NT200.cons (vs := [.int 32]) (SF tx (safeA C A218.la (by decide)))
  clear SF r2 r3 r4
  refine go_aastore C X212 A218 ES12 (by decide) (by show _ < (16 : Int); decide) ga_tx (pc' := 77) rfl at_76 (fun T220 h222 W223 A224 X221 => ?_)
  have SQ225 : Safe Z consts_1 s.vm _ tx := (safeA C A218.la (by decide))
  have WI226 := WI215.wr W223 SQ225
  have G227 := SG216.wr W223 NT217
  replace A224 : Lo Z h222 tx "java/lang/String" [(.ref u0), (.ref u1), (.ref u2), (.ref u3), (.ref u4), (.ref u5), (.ref u6), (.ref u7), (.ref u8), (.ref u9), (.ref u10), (.ref u11), (.ref u12), .null, .null, .null] := A224
  clear ES12
  refine go_dup C X221 78 rfl at_77 rfl ?_
  refine go_bipush C X221 80 rfl at_78 (z := 13) rfl ?_
  refine go_ldcHX C X221 WI226 hEL (C.w 23 rfl) (own_wS C.ws) (List.mem_of_getElem? (i := 14) rfl) (vs := [.int 97, .int 32]) (z := 2) own_lit35 (by decide) (by decide) (q := 8) own_len35 (by decide) (by decide) (by decide) (pc' := 82) rfl at_80 ?_
  intro s T228 h230 u13 v13 C WI232 E231 ES13 r2 r3 r4 SF _ X229
  have A235 := A224.ext E231
  have G236 := G227.ext E231
  have SG233 := G236.cons ES13 r2 r3 r4
  have NT234 := NT217.cons (vs := [.int 97, .int 32]) (SF tx (safeA C A235.la (by decide)))
  clear SF r2 r3 r4
  refine go_aastore C X229 A235 ES13 (by decide) (by show _ < (16 : Int); decide) ga_tx (pc' := 83) rfl at_82 (fun T237 h239 W240 A241 X238 => ?_)
  have SQ242 : Safe Z consts_1 s.vm _ tx := (safeA C A235.la (by decide))
  have WI243 := WI232.wr W240 SQ242
  have G244 := SG233.wr W240 NT234
  replace A241 : Lo Z h239 tx "java/lang/String" [(.ref u0), (.ref u1), (.ref u2), (.ref u3), (.ref u4), (.ref u5), (.ref u6), (.ref u7), (.ref u8), (.ref u9), (.ref u10), (.ref u11), (.ref u12), (.ref u13), .null, .null] := A241
  clear ES13
  refine go_dup C X238 84 rfl at_83 rfl ?_
  refine go_bipush C X238 86 rfl at_84 (z := 14) rfl ?_
  refine go_ldcHX C X238 WI243 hEL (C.w 24 rfl) (own_wS C.ws) (List.mem_of_getElem? (i := 15) rfl) (vs := [.int 125]) (z := 1) own_lit37 (by decide) (by decide) (q := 4) own_len37 (by decide) (by decide) (by decide) (pc' := 88) rfl at_86 ?_
  intro s T245 h247 u14 v14 C WI249 E248 ES14 r2 r3 r4 SF _ X246
  have A252 := A241.ext E248
  have G253 := G244.ext E248
  have SG250 := G253.cons ES14 r2 r3 r4
  have NT251 := NT234.cons (vs := [.int 125]) (SF tx (safeA C A252.la (by decide)))
  clear SF r2 r3 r4
  refine go_aastore C X246 A252 ES14 (by decide) (by show _ < (16 : Int); decide) ga_tx (pc' := 89) rfl at_88 (fun T254 h256 W257 A258 X255 => ?_)
  have SQ259 : Safe Z consts_1 s.vm _ tx := (safeA C A252.la (by decide))
  have WI260 := WI249.wr W257 SQ259
  have G261 := SG250.wr W257 NT251
  replace A258 : Lo Z h256 tx "java/lang/String" [(.ref u0), (.ref u1), (.ref u2), (.ref u3), (.ref u4), (.ref u5), (.ref u6), (.ref u7), (.ref u8), (.ref u9), (.ref u10), (.ref u11), (.ref u12), (.ref u13), (.ref u14), .null] := A258
  clear ES14
  refine go_dup C X255 90 rfl at_89 rfl ?_
  refine go_bipush C X255 92 rfl at_90 (z := 15) rfl ?_
  refine go_ldcHX C X255 WI260 hEL (C.w 25 rfl) (own_wS C.ws) (List.mem_of_getElem? (i := 16) rfl) (vs := [.int 39, .int 39]) (z := 2) own_lit39 (by decide) (by decide) (q := 8) own_len39 (by decide) (by decide) (by decide) (pc' := 94) rfl at_92 ?_
  intro s T262 h264 u15 v15 C WI266 E265 ES15 r2 r3 r4 SF _ X263
  have A269 := A258.ext E265
  have G270 := G261.ext E265
  have SG267 := G270.cons ES15 r2 r3 r4
  have NT268 := NT251.cons (vs := [.int 39, .int 39]) (SF tx (safeA C A269.la (by decide)))
  clear SF r2 r3 r4
  refine go_aastore C X263 A269 ES15 (by decide) (by show _ < (16 : Int); decide) ga_tx (pc' := 95) rfl at_94 (fun T271 h273 W274 A275 X272 => ?_)
  have SQ276 : Safe Z consts_1 s.vm _ tx := (safeA C A269.la (by decide))
  have WI277 := WI266.wr W274 SQ276
  have G278 := SG267.wr W274 NT268
  replace A275 : Lo Z h273 tx "java/lang/String" [(.ref u0), (.ref u1), (.ref u2), (.ref u3), (.ref u4), (.ref u5), (.ref u6), (.ref u7), (.ref u8), (.ref u9), (.ref u10), (.ref u11), (.ref u12), (.ref u13), (.ref u14), (.ref u15)] := A275
  clear ES15
  refine go_astoreN C X272 96 rfl at_95 rfl #[iv x1, iv x2, rv tx, un, un, un, un, un, un] rfl ?_
  refine go_bipush C X272 98 rfl at_96 (z := 16) rfl ?_
  refine go_newarr C X272 (C.w 26 rfl) (cap := 16) (by decide) (by decide) (by decide) (by decide) (by decide) (pc' := 100) rfl at_98 (fun T279 h281 cl ha_cl ga_cl E282 A283  X280 => ?_)
  have ne_tx_cl : tx ≠ cl := Nat.ne_of_lt (Nat.lt_of_lt_of_le A275.lt (Nat.le_of_eq ha_cl.symm))
  have NE_cl := G278.ne (Nat.le_of_eq ha_cl.symm)
  have WI284 := WI277.ext E282
  have A285 := A275.ext E282
  have G286 := G278.ext E282
  replace A283 : La Z h281 cl .int ([(.int (0 : Int32)), (.int (0 : Int32)), (.int (0 : Int32)), (.int (0 : Int32)), (.int (0 : Int32)), (.int (0 : Int32)), (.int (0 : Int32)), (.int (0 : Int32)), (.int (0 : Int32)), (.int (0 : Int32)), (.int (0 : Int32)), (.int (0 : Int32)), (.int (0 : Int32)), (.int (0 : Int32)), (.int (0 : Int32)), (.int (0 : Int32))]) := A283
  refine go_dup C X280 101 rfl at_100 rfl ?_
  refine go_iconst C X280 102 rfl at_101 (z := 0) rfl ?_
  refine go_iconst C X280 103 rfl at_102 (z := 0) rfl ?_
  refine go_iastore C X280 A283 (by decide) (by show _ < (16 : Int); decide) ga_cl (pc' := 104) rfl at_103 (fun T287 h289 W290 A291 X288 => ?_)
  have SQ292 : Safe Z consts_1 s.vm _ cl := (safeA C A283 (by decide))
  have WI293 := WI284.wr W290 SQ292
  have A294 := A285.other W290 ne_tx_cl
  have G295 := G286.wr W290 NE_cl
  replace A291 : La Z h289 cl .int ([(.int (0 : Int32)), (.int (0 : Int32)), (.int (0 : Int32)), (.int (0 : Int32)), (.int (0 : Int32)), (.int (0 : Int32)), (.int (0 : Int32)), (.int (0 : Int32)), (.int (0 : Int32)), (.int (0 : Int32)), (.int (0 : Int32)), (.int (0 : Int32)), (.int (0 : Int32)), (.int (0 : Int32)), (.int (0 : Int32)), (.int (0 : Int32))]) := A291
  refine go_dup C X288 105 rfl at_104 rfl ?_
  refine go_iconst C X288 106 rfl at_105 (z := 1) rfl ?_
  refine go_iconst C X288 107 rfl at_106 (z := 1) rfl ?_
  refine go_iastore C X288 A291 (by decide) (by show _ < (16 : Int); decide) ga_cl (pc' := 108) rfl at_107 (fun T296 h298 W299 A300 X297 => ?_)
  have SQ301 : Safe Z consts_1 s.vm _ cl := (safeA C A291 (by decide))
  have WI302 := WI293.wr W299 SQ301
  have A303 := A294.other W299 ne_tx_cl
  have G304 := G295.wr W299 NE_cl
  replace A300 : La Z h298 cl .int ([(.int (0 : Int32)), (.int (1 : Int32)), (.int (0 : Int32)), (.int (0 : Int32)), (.int (0 : Int32)), (.int (0 : Int32)), (.int (0 : Int32)), (.int (0 : Int32)), (.int (0 : Int32)), (.int (0 : Int32)), (.int (0 : Int32)), (.int (0 : Int32)), (.int (0 : Int32)), (.int (0 : Int32)), (.int (0 : Int32)), (.int (0 : Int32))]) := A300
  refine go_dup C X297 109 rfl at_108 rfl ?_
  refine go_iconst C X297 110 rfl at_109 (z := 2) rfl ?_
  refine go_iconst C X297 111 rfl at_110 (z := 2) rfl ?_
  refine go_iastore C X297 A300 (by decide) (by show _ < (16 : Int); decide) ga_cl (pc' := 112) rfl at_111 (fun T305 h307 W308 A309 X306 => ?_)
  have SQ310 : Safe Z consts_1 s.vm _ cl := (safeA C A300 (by decide))
  have WI311 := WI302.wr W308 SQ310
  have A312 := A303.other W308 ne_tx_cl
  have G313 := G304.wr W308 NE_cl
  replace A309 : La Z h307 cl .int ([(.int (0 : Int32)), (.int (1 : Int32)), (.int (2 : Int32)), (.int (0 : Int32)), (.int (0 : Int32)), (.int (0 : Int32)), (.int (0 : Int32)), (.int (0 : Int32)), (.int (0 : Int32)), (.int (0 : Int32)), (.int (0 : Int32)), (.int (0 : Int32)), (.int (0 : Int32)), (.int (0 : Int32)), (.int (0 : Int32)), (.int (0 : Int32))]) := A309
  refine go_dup C X306 113 rfl at_112 rfl ?_
  refine go_iconst C X306 114 rfl at_113 (z := 3) rfl ?_
  refine go_iconst C X306 115 rfl at_114 (z := 3) rfl ?_
  refine go_iastore C X306 A309 (by decide) (by show _ < (16 : Int); decide) ga_cl (pc' := 116) rfl at_115 (fun T314 h316 W317 A318 X315 => ?_)
  have SQ319 : Safe Z consts_1 s.vm _ cl := (safeA C A309 (by decide))
  have WI320 := WI311.wr W317 SQ319
  have A321 := A312.other W317 ne_tx_cl
  have G322 := G313.wr W317 NE_cl
  replace A318 : La Z h316 cl .int ([(.int (0 : Int32)), (.int (1 : Int32)), (.int (2 : Int32)), (.int (3 : Int32)), (.int (0 : Int32)), (.int (0 : Int32)), (.int (0 : Int32)), (.int (0 : Int32)), (.int (0 : Int32)), (.int (0 : Int32)), (.int (0 : Int32)), (.int (0 : Int32)), (.int (0 : Int32)), (.int (0 : Int32)), (.int (0 : Int32)), (.int (0 : Int32))]) := A318
  refine go_dup C X315 117 rfl at_116 rfl ?_
  refine go_iconst C X315 118 rfl at_117 (z := 4) rfl ?_
  refine go_iconst C X315 119 rfl at_118 (z := 4) rfl ?_
  refine go_iastore C X315 A318 (by decide) (by show _ < (16 : Int); decide) ga_cl (pc' := 120) rfl at_119 (fun T323 h325 W326 A327 X324 => ?_)
  have SQ328 : Safe Z consts_1 s.vm _ cl := (safeA C A318 (by decide))
  have WI329 := WI320.wr W326 SQ328
  have A330 := A321.other W326 ne_tx_cl
  have G331 := G322.wr W326 NE_cl
  replace A327 : La Z h325 cl .int ([(.int (0 : Int32)), (.int (1 : Int32)), (.int (2 : Int32)), (.int (3 : Int32)), (.int (4 : Int32)), (.int (0 : Int32)), (.int (0 : Int32)), (.int (0 : Int32)), (.int (0 : Int32)), (.int (0 : Int32)), (.int (0 : Int32)), (.int (0 : Int32)), (.int (0 : Int32)), (.int (0 : Int32)), (.int (0 : Int32)), (.int (0 : Int32))]) := A327
  refine go_dup C X324 121 rfl at_120 rfl ?_
  refine go_iconst C X324 122 rfl at_121 (z := 5) rfl ?_
  refine go_iconst C X324 123 rfl at_122 (z := 5) rfl ?_
  refine go_iastore C X324 A327 (by decide) (by show _ < (16 : Int); decide) ga_cl (pc' := 124) rfl at_123 (fun T332 h334 W335 A336 X333 => ?_)
  have SQ337 : Safe Z consts_1 s.vm _ cl := (safeA C A327 (by decide))
  have WI338 := WI329.wr W335 SQ337
  have A339 := A330.other W335 ne_tx_cl
  have G340 := G331.wr W335 NE_cl
  replace A336 : La Z h334 cl .int ([(.int (0 : Int32)), (.int (1 : Int32)), (.int (2 : Int32)), (.int (3 : Int32)), (.int (4 : Int32)), (.int (5 : Int32)), (.int (0 : Int32)), (.int (0 : Int32)), (.int (0 : Int32)), (.int (0 : Int32)), (.int (0 : Int32)), (.int (0 : Int32)), (.int (0 : Int32)), (.int (0 : Int32)), (.int (0 : Int32)), (.int (0 : Int32))]) := A336
  refine go_dup C X333 125 rfl at_124 rfl ?_
  refine go_bipush C X333 127 rfl at_125 (z := 6) rfl ?_
  refine go_bipush C X333 129 rfl at_127 (z := 6) rfl ?_
  refine go_iastore C X333 A336 (by decide) (by show _ < (16 : Int); decide) ga_cl (pc' := 130) rfl at_129 (fun T341 h343 W344 A345 X342 => ?_)
  have SQ346 : Safe Z consts_1 s.vm _ cl := (safeA C A336 (by decide))
  have WI347 := WI338.wr W344 SQ346
  have A348 := A339.other W344 ne_tx_cl
  have G349 := G340.wr W344 NE_cl
  replace A345 : La Z h343 cl .int ([(.int (0 : Int32)), (.int (1 : Int32)), (.int (2 : Int32)), (.int (3 : Int32)), (.int (4 : Int32)), (.int (5 : Int32)), (.int (6 : Int32)), (.int (0 : Int32)), (.int (0 : Int32)), (.int (0 : Int32)), (.int (0 : Int32)), (.int (0 : Int32)), (.int (0 : Int32)), (.int (0 : Int32)), (.int (0 : Int32)), (.int (0 : Int32))]) := A345
  refine go_dup C X342 131 rfl at_130 rfl ?_
  refine go_bipush C X342 133 rfl at_131 (z := 7) rfl ?_
  refine go_bipush C X342 135 rfl at_133 (z := 7) rfl ?_
  refine go_iastore C X342 A345 (by decide) (by show _ < (16 : Int); decide) ga_cl (pc' := 136) rfl at_135 (fun T350 h352 W353 A354 X351 => ?_)
  have SQ355 : Safe Z consts_1 s.vm _ cl := (safeA C A345 (by decide))
  have WI356 := WI347.wr W353 SQ355
  have A357 := A348.other W353 ne_tx_cl
  have G358 := G349.wr W353 NE_cl
  replace A354 : La Z h352 cl .int ([(.int (0 : Int32)), (.int (1 : Int32)), (.int (2 : Int32)), (.int (3 : Int32)), (.int (4 : Int32)), (.int (5 : Int32)), (.int (6 : Int32)), (.int (7 : Int32)), (.int (0 : Int32)), (.int (0 : Int32)), (.int (0 : Int32)), (.int (0 : Int32)), (.int (0 : Int32)), (.int (0 : Int32)), (.int (0 : Int32)), (.int (0 : Int32))]) := A354
  refine go_dup C X351 137 rfl at_136 rfl ?_
  refine go_bipush C X351 139 rfl at_137 (z := 8) rfl ?_
  refine go_bipush C X351 141 rfl at_139 (z := 8) rfl ?_
  refine go_iastore C X351 A354 (by decide) (by show _ < (16 : Int); decide) ga_cl (pc' := 142) rfl at_141 (fun T359 h361 W362 A363 X360 => ?_)
  have SQ364 : Safe Z consts_1 s.vm _ cl := (safeA C A354 (by decide))
  have WI365 := WI356.wr W362 SQ364
  have A366 := A357.other W362 ne_tx_cl
  have G367 := G358.wr W362 NE_cl
  replace A363 : La Z h361 cl .int ([(.int (0 : Int32)), (.int (1 : Int32)), (.int (2 : Int32)), (.int (3 : Int32)), (.int (4 : Int32)), (.int (5 : Int32)), (.int (6 : Int32)), (.int (7 : Int32)), (.int (8 : Int32)), (.int (0 : Int32)), (.int (0 : Int32)), (.int (0 : Int32)), (.int (0 : Int32)), (.int (0 : Int32)), (.int (0 : Int32)), (.int (0 : Int32))]) := A363
  refine go_dup C X360 143 rfl at_142 rfl ?_
  refine go_bipush C X360 145 rfl at_143 (z := 9) rfl ?_
  refine go_bipush C X360 147 rfl at_145 (z := 9) rfl ?_
  refine go_iastore C X360 A363 (by decide) (by show _ < (16 : Int); decide) ga_cl (pc' := 148) rfl at_147 (fun T368 h370 W371 A372 X369 => ?_)
  have SQ373 : Safe Z consts_1 s.vm _ cl := (safeA C A363 (by decide))
  have WI374 := WI365.wr W371 SQ373
  have A375 := A366.other W371 ne_tx_cl
  have G376 := G367.wr W371 NE_cl
  replace A372 : La Z h370 cl .int ([(.int (0 : Int32)), (.int (1 : Int32)), (.int (2 : Int32)), (.int (3 : Int32)), (.int (4 : Int32)), (.int (5 : Int32)), (.int (6 : Int32)), (.int (7 : Int32)), (.int (8 : Int32)), (.int (9 : Int32)), (.int (0 : Int32)), (.int (0 : Int32)), (.int (0 : Int32)), (.int (0 : Int32)), (.int (0 : Int32)), (.int (0 : Int32))]) := A372
  refine go_dup C X369 149 rfl at_148 rfl ?_
  refine go_bipush C X369 151 rfl at_149 (z := 10) rfl ?_
  refine go_bipush C X369 153 rfl at_151 (z := 10) rfl ?_
  refine go_iastore C X369 A372 (by decide) (by show _ < (16 : Int); decide) ga_cl (pc' := 154) rfl at_153 (fun T377 h379 W380 A381 X378 => ?_)
  have SQ382 : Safe Z consts_1 s.vm _ cl := (safeA C A372 (by decide))
  have WI383 := WI374.wr W380 SQ382
  have A384 := A375.other W380 ne_tx_cl
  have G385 := G376.wr W380 NE_cl
  replace A381 : La Z h379 cl .int ([(.int (0 : Int32)), (.int (1 : Int32)), (.int (2 : Int32)), (.int (3 : Int32)), (.int (4 : Int32)), (.int (5 : Int32)), (.int (6 : Int32)), (.int (7 : Int32)), (.int (8 : Int32)), (.int (9 : Int32)), (.int (10 : Int32)), (.int (0 : Int32)), (.int (0 : Int32)), (.int (0 : Int32)), (.int (0 : Int32)), (.int (0 : Int32))]) := A381
  refine go_dup C X378 155 rfl at_154 rfl ?_
  refine go_bipush C X378 157 rfl at_155 (z := 11) rfl ?_
  refine go_bipush C X378 159 rfl at_157 (z := 11) rfl ?_
  refine go_iastore C X378 A381 (by decide) (by show _ < (16 : Int); decide) ga_cl (pc' := 160) rfl at_159 (fun T386 h388 W389 A390 X387 => ?_)
  have SQ391 : Safe Z consts_1 s.vm _ cl := (safeA C A381 (by decide))
  have WI392 := WI383.wr W389 SQ391
  have A393 := A384.other W389 ne_tx_cl
  have G394 := G385.wr W389 NE_cl
  replace A390 : La Z h388 cl .int ([(.int (0 : Int32)), (.int (1 : Int32)), (.int (2 : Int32)), (.int (3 : Int32)), (.int (4 : Int32)), (.int (5 : Int32)), (.int (6 : Int32)), (.int (7 : Int32)), (.int (8 : Int32)), (.int (9 : Int32)), (.int (10 : Int32)), (.int (11 : Int32)), (.int (0 : Int32)), (.int (0 : Int32)), (.int (0 : Int32)), (.int (0 : Int32))]) := A390
  refine go_dup C X387 161 rfl at_160 rfl ?_
  refine go_bipush C X387 163 rfl at_161 (z := 12) rfl ?_
  refine go_iconst C X387 164 rfl at_163 (z := 0) rfl ?_
  refine go_iastore C X387 A390 (by decide) (by show _ < (16 : Int); decide) ga_cl (pc' := 165) rfl at_164 (fun T395 h397 W398 A399 X396 => ?_)
  have SQ400 : Safe Z consts_1 s.vm _ cl := (safeA C A390 (by decide))
  have WI401 := WI392.wr W398 SQ400
  have A402 := A393.other W398 ne_tx_cl
  have G403 := G394.wr W398 NE_cl
  replace A399 : La Z h397 cl .int ([(.int (0 : Int32)), (.int (1 : Int32)), (.int (2 : Int32)), (.int (3 : Int32)), (.int (4 : Int32)), (.int (5 : Int32)), (.int (6 : Int32)), (.int (7 : Int32)), (.int (8 : Int32)), (.int (9 : Int32)), (.int (10 : Int32)), (.int (11 : Int32)), (.int (0 : Int32)), (.int (0 : Int32)), (.int (0 : Int32)), (.int (0 : Int32))]) := A399
  refine go_dup C X396 166 rfl at_165 rfl ?_
  refine go_bipush C X396 168 rfl at_166 (z := 13) rfl ?_
  refine go_iconst C X396 169 rfl at_168 (z := 3) rfl ?_
  refine go_iastore C X396 A399 (by decide) (by show _ < (16 : Int); decide) ga_cl (pc' := 170) rfl at_169 (fun T404 h406 W407 A408 X405 => ?_)
  have SQ409 : Safe Z consts_1 s.vm _ cl := (safeA C A399 (by decide))
  have WI410 := WI401.wr W407 SQ409
  have A411 := A402.other W407 ne_tx_cl
  have G412 := G403.wr W407 NE_cl
  replace A408 : La Z h406 cl .int ([(.int (0 : Int32)), (.int (1 : Int32)), (.int (2 : Int32)), (.int (3 : Int32)), (.int (4 : Int32)), (.int (5 : Int32)), (.int (6 : Int32)), (.int (7 : Int32)), (.int (8 : Int32)), (.int (9 : Int32)), (.int (10 : Int32)), (.int (11 : Int32)), (.int (0 : Int32)), (.int (3 : Int32)), (.int (0 : Int32)), (.int (0 : Int32))]) := A408
  refine go_dup C X405 171 rfl at_170 rfl ?_
  refine go_bipush C X405 173 rfl at_171 (z := 14) rfl ?_
  refine go_iconst C X405 174 rfl at_173 (z := 0) rfl ?_
  refine go_iastore C X405 A408 (by decide) (by show _ < (16 : Int); decide) ga_cl (pc' := 175) rfl at_174 (fun T413 h415 W416 A417 X414 => ?_)
  have SQ418 : Safe Z consts_1 s.vm _ cl := (safeA C A408 (by decide))
  have WI419 := WI410.wr W416 SQ418
  have A420 := A411.other W416 ne_tx_cl
  have G421 := G412.wr W416 NE_cl
  replace A417 : La Z h415 cl .int ([(.int (0 : Int32)), (.int (1 : Int32)), (.int (2 : Int32)), (.int (3 : Int32)), (.int (4 : Int32)), (.int (5 : Int32)), (.int (6 : Int32)), (.int (7 : Int32)), (.int (8 : Int32)), (.int (9 : Int32)), (.int (10 : Int32)), (.int (11 : Int32)), (.int (0 : Int32)), (.int (3 : Int32)), (.int (0 : Int32)), (.int (0 : Int32))]) := A417
  refine go_dup C X414 176 rfl at_175 rfl ?_
  refine go_bipush C X414 178 rfl at_176 (z := 15) rfl ?_
  refine go_iconst C X414 179 rfl at_178 (z := 3) rfl ?_
  refine go_iastore C X414 A417 (by decide) (by show _ < (16 : Int); decide) ga_cl (pc' := 180) rfl at_179 (fun T422 h424 W425 A426 X423 => ?_)
  have SQ427 : Safe Z consts_1 s.vm _ cl := (safeA C A417 (by decide))
  have WI428 := WI419.wr W425 SQ427
  have A429 := A420.other W425 ne_tx_cl
  have G430 := G421.wr W425 NE_cl
  replace A426 : La Z h424 cl .int ([(.int (0 : Int32)), (.int (1 : Int32)), (.int (2 : Int32)), (.int (3 : Int32)), (.int (4 : Int32)), (.int (5 : Int32)), (.int (6 : Int32)), (.int (7 : Int32)), (.int (8 : Int32)), (.int (9 : Int32)), (.int (10 : Int32)), (.int (11 : Int32)), (.int (0 : Int32)), (.int (3 : Int32)), (.int (0 : Int32)), (.int (3 : Int32))]) := A426
  replace A426 : La Z h424 cl .int (ia own_cls) := A426
  refine go_astoreN C X423 181 rfl at_180 rfl #[iv x1, iv x2, rv tx, rv cl, un, un, un, un, un] rfl ?_
  refine go_iloadN C X423 182 rfl at_181 rfl ?_
  refine go_bipush C X423 184 rfl at_182 (z := 15) rfl ?_
  refine go_iand C X423 185 rfl at_184 ?_
  refine go_istore C X423 187 rfl at_185 #[iv x1, iv x2, rv tx, rv cl, iv (x1 &&& (15 : Int32)), un, un, un, un] rfl ?_
  have hx : 0 ≤ (x1 &&& 15).toInt ∧ (x1 &&& 15).toInt ≤ 15 := by have := c_mask x1 15 4 (by decide) (by decide); omega
  generalize e_x : (x1 &&& (15 : Int32)) = x at hx ⊢
  refine go_iloadN C X423 188 rfl at_187 rfl ?_
  refine go_bipush C X423 190 rfl at_188 (z := 15) rfl ?_
  refine go_iand C X423 191 rfl at_190 ?_
  refine go_istore C X423 193 rfl at_191 #[iv x1, iv x2, rv tx, rv cl, iv x, iv (x2 &&& (15 : Int32)), un, un, un] rfl ?_
  have hy : 0 ≤ (x2 &&& 15).toInt ∧ (x2 &&& 15).toInt ≤ 15 := by have := c_mask x2 15 4 (by decide) (by decide); omega
  generalize e_y : (x2 &&& (15 : Int32)) = y at hy ⊢
  refine go_new C X423 (C.w 27 rfl) (C.w 28 rfl) (C.w 29 rfl) (by decide) (by decide) (pc' := 196) rfl at_193 (fun T431 h433 oa ha_oa ga_oa E434 E435 D436 X432 => ?_)
  have ne_tx_oa : tx ≠ oa := Nat.ne_of_lt (Nat.lt_of_lt_of_le A429.lt (Nat.le_of_eq ha_oa.symm))
  have ne_cl_oa : cl ≠ oa := Nat.ne_of_lt (Nat.lt_of_lt_of_le A426.lt (Nat.le_of_eq ha_oa.symm))
  have NE_oa := G430.ne (Nat.le_of_eq ha_oa.symm)
  have WI437 := WI428.ext E434
  have A438 := A429.ext E434
  have G439 := G430.ext E434
  have A440 := A426.ext E434
  have F441 : Fld Z h433 oa "com/example/plantilla/plantilla/ScriptText" "mode" "Lcom/example/plantilla/plantilla/ScriptText$Mode;" .null := D436 (Or.inl (C.w 45 rfl)) (ty := (.object "com/example/plantilla/plantilla/ScriptText$Mode")) (by decide)
  have F442 : Fld Z h433 oa "com/example/plantilla/plantilla/ScriptText" "regexNext" "Z" (.int (0 : Int32)) := D436 (Or.inl (C.w 47 rfl)) (ty := .boolean) (by decide)
  have F443 : Fld Z h433 oa "com/example/plantilla/plantilla/ScriptText" "word" "J" (.long (0 : Int64)) := D436 (Or.inl (C.w 49 rfl)) (ty := .long) (by decide)
  have F444 : Fld Z h433 oa "com/example/plantilla/plantilla/ScriptText" "backslash" "Z" (.int (0 : Int32)) := D436 (Or.inl (C.w 51 rfl)) (ty := .boolean) (by decide)
  have F445 : Fld Z h433 oa "com/example/plantilla/plantilla/ScriptText" "braces" "I" (.int (0 : Int32)) := D436 (Or.inl (C.w 53 rfl)) (ty := .int) (by decide)
  have F446 : Fld Z h433 oa "com/example/plantilla/plantilla/ScriptText" "substitutions" "J" (.long (0 : Int64)) := D436 (Or.inl (C.w 55 rfl)) (ty := .long) (by decide)
  have F447 : Fld Z h433 oa "com/example/plantilla/plantilla/ScriptText" "commentStart" "I" (.int (0 : Int32)) := D436 (Or.inl (C.w 57 rfl)) (ty := .int) (by decide)
  refine go_dup C X432 197 rfl at_196 rfl ?_
  refine go_special C X432 (C.w 30 rfl) (C.w 31 rfl) (C.w 29 rfl) (C.w 32 rfl) rfl (own_m1_36 l Z a0 C.ws oa mc ms mt md be cs fv  h433 n0 X432.old hE  E435 F441 F442 F443 F444 F445 F446 F447 ga_oa) (argsL := []) (rest := [(.ref oa)]) (lenOf pd_10 rfl) rfl (by decide) (by decide) (Nat.le_of_ble_eq_true rfl) (by decide) (by decide) rfl rfl (pc' := 200) rfl at_197 ?_
  rintro T448 h450 _ ⟨rfl, Kq451, Eq451, Fq4510, Fq4511, Fq4512, Fq4513, Fq4514, Fq4515, Fq4516⟩ X449
  show Go p e below _ (T448.setTop (mkF m 200 #[iv x1, iv x2, rv tx, rv cl, iv x, iv y, un, un, un] [(.ref oa)]))
  have WI452 := WI437.keep Kq451 (sfS (safeE C E435 (by decide) (by decide)) sf0)
  have A453 := A438.keep Kq451 (ninS ne_tx_oa nin0)
  have G454 := G439.keep Kq451 NE_oa
  have A455 := A440.keep Kq451 (ninS ne_cl_oa nin0)
  have E456 := E435.keep Kq451
  refine go_astore C X449 202 rfl at_200 rfl #[iv x1, iv x2, rv tx, rv cl, iv x, iv y, rv oa, un, un] rfl ?_
  refine go_new C X449 (C.w 27 rfl) (C.w 28 rfl) (C.w 29 rfl) (by decide) (by decide) (pc' := 205) rfl at_202 (fun T457 h459 ob ha_ob ga_ob E460 E461 D462 X458 => ?_)
  have ne_tx_ob : tx ≠ ob := Nat.ne_of_lt (Nat.lt_of_lt_of_le A453.lt (Nat.le_of_eq ha_ob.symm))
  have ne_cl_ob : cl ≠ ob := Nat.ne_of_lt (Nat.lt_of_lt_of_le A455.lt (Nat.le_of_eq ha_ob.symm))
  have ne_oa_ob : oa ≠ ob := Nat.ne_of_lt (Nat.lt_of_lt_of_le Eq451.lt (Nat.le_of_eq ha_ob.symm))
  have NE_ob := G454.ne (Nat.le_of_eq ha_ob.symm)
  have WI463 := WI452.ext E460
  have A464 := A453.ext E460
  have G465 := G454.ext E460
  have A466 := A455.ext E460
  have E467 := Eq451.ext E460
  have F468 := Fq4510.ext E460
  have F469 := Fq4511.ext E460
  have F470 := Fq4512.ext E460
  have F471 := Fq4513.ext E460
  have F472 := Fq4514.ext E460
  have F473 := Fq4515.ext E460
  have F474 := Fq4516.ext E460
  have F475 : Fld Z h459 ob "com/example/plantilla/plantilla/ScriptText" "mode" "Lcom/example/plantilla/plantilla/ScriptText$Mode;" .null := D462 (Or.inl (C.w 45 rfl)) (ty := (.object "com/example/plantilla/plantilla/ScriptText$Mode")) (by decide)
  have F476 : Fld Z h459 ob "com/example/plantilla/plantilla/ScriptText" "regexNext" "Z" (.int (0 : Int32)) := D462 (Or.inl (C.w 47 rfl)) (ty := .boolean) (by decide)
  have F477 : Fld Z h459 ob "com/example/plantilla/plantilla/ScriptText" "word" "J" (.long (0 : Int64)) := D462 (Or.inl (C.w 49 rfl)) (ty := .long) (by decide)
  have F478 : Fld Z h459 ob "com/example/plantilla/plantilla/ScriptText" "backslash" "Z" (.int (0 : Int32)) := D462 (Or.inl (C.w 51 rfl)) (ty := .boolean) (by decide)
  have F479 : Fld Z h459 ob "com/example/plantilla/plantilla/ScriptText" "braces" "I" (.int (0 : Int32)) := D462 (Or.inl (C.w 53 rfl)) (ty := .int) (by decide)
  have F480 : Fld Z h459 ob "com/example/plantilla/plantilla/ScriptText" "substitutions" "J" (.long (0 : Int64)) := D462 (Or.inl (C.w 55 rfl)) (ty := .long) (by decide)
  have F481 : Fld Z h459 ob "com/example/plantilla/plantilla/ScriptText" "commentStart" "I" (.int (0 : Int32)) := D462 (Or.inl (C.w 57 rfl)) (ty := .int) (by decide)
  refine go_dup C X458 206 rfl at_205 rfl ?_
  refine go_special C X458 (C.w 30 rfl) (C.w 31 rfl) (C.w 29 rfl) (C.w 32 rfl) rfl (own_m1_36 l Z a0 C.ws ob mc ms mt md be cs fv  h459 n0 X458.old hE  E461 F475 F476 F477 F478 F479 F480 F481 ga_ob) (argsL := []) (rest := [(.ref ob)]) (lenOf pd_10 rfl) rfl (by decide) (by decide) (Nat.le_of_ble_eq_true rfl) (by decide) (by decide) rfl rfl (pc' := 209) rfl at_206 ?_
  rintro T482 h484 _ ⟨rfl, Kq485, Eq485, Fq4850, Fq4851, Fq4852, Fq4853, Fq4854, Fq4855, Fq4856⟩ X483
  show Go p e below _ (T482.setTop (mkF m 209 #[iv x1, iv x2, rv tx, rv cl, iv x, iv y, rv oa, un, un] [(.ref ob)]))
  have WI486 := WI463.keep Kq485 (sfS (safeE C E461 (by decide) (by decide)) sf0)
  have A487 := A464.keep Kq485 (ninS ne_tx_ob nin0)
  have G488 := G465.keep Kq485 NE_ob
  have A489 := A466.keep Kq485 (ninS ne_cl_ob nin0)
  have E490 := E467.keep Kq485
  have F491 := F468.keep Kq485 (ninS ne_oa_ob nin0)
  have F492 := F469.keep Kq485 (ninS ne_oa_ob nin0)
  have F493 := F470.keep Kq485 (ninS ne_oa_ob nin0)
  have F494 := F471.keep Kq485 (ninS ne_oa_ob nin0)
  have F495 := F472.keep Kq485 (ninS ne_oa_ob nin0)
  have F496 := F473.keep Kq485 (ninS ne_oa_ob nin0)
  have F497 := F474.keep Kq485 (ninS ne_oa_ob nin0)
  have E498 := E461.keep Kq485
  refine go_astore C X483 211 rfl at_209 rfl #[iv x1, iv x2, rv tx, rv cl, iv x, iv y, rv oa, rv ob, un] rfl ?_
  refine go_aload C X483 213 rfl at_211 rfl rfl ?_
  refine go_aloadN C X483 214 rfl at_213 rfl rfl ?_
  refine go_iload C X483 216 rfl at_214 rfl ?_
  obtain ⟨ttx, bbx, etx, hTx, hnex⟩ : ∃ t b : Addr, ([(.ref u0), (.ref u1), (.ref u2), (.ref u3), (.ref u4), (.ref u5), (.ref u6), (.ref u7), (.ref u8), (.ref u9), (.ref u10), (.ref u11), (.ref u12), (.ref u13), (.ref u14), (.ref u15)] : List Value)[x.toNatClampNeg]? = some (Value.ref t) ∧ Sg Z h484 t b (ia (own_bs x)) ∧ (t ≠ oa ∧ b ≠ oa) := by
    rcases own_k16 hx.1 hx.2 with rfl | rfl | rfl | rfl | rfl | rfl | rfl | rfl | rfl | rfl | rfl | rfl | rfl | rfl | rfl | rfl
    · exact ⟨u0, v0, rfl, G488 _ (List.mem_of_getElem? (i := 15) rfl), NE_oa _ (List.mem_of_getElem? (i := 15) rfl)⟩
    · exact ⟨u1, v1, rfl, G488 _ (List.mem_of_getElem? (i := 14) rfl), NE_oa _ (List.mem_of_getElem? (i := 14) rfl)⟩
    · exact ⟨u2, v2, rfl, G488 _ (List.mem_of_getElem? (i := 13) rfl), NE_oa _ (List.mem_of_getElem? (i := 13) rfl)⟩
    · exact ⟨u3, v3, rfl, G488 _ (List.mem_of_getElem? (i := 12) rfl), NE_oa _ (List.mem_of_getElem? (i := 12) rfl)⟩
    · exact ⟨u4, v4, rfl, G488 _ (List.mem_of_getElem? (i := 11) rfl), NE_oa _ (List.mem_of_getElem? (i := 11) rfl)⟩
    · exact ⟨u5, v5, rfl, G488 _ (List.mem_of_getElem? (i := 10) rfl), NE_oa _ (List.mem_of_getElem? (i := 10) rfl)⟩
    · exact ⟨u6, v6, rfl, G488 _ (List.mem_of_getElem? (i := 9) rfl), NE_oa _ (List.mem_of_getElem? (i := 9) rfl)⟩
    · exact ⟨u7, v7, rfl, G488 _ (List.mem_of_getElem? (i := 8) rfl), NE_oa _ (List.mem_of_getElem? (i := 8) rfl)⟩
    · exact ⟨u8, v8, rfl, G488 _ (List.mem_of_getElem? (i := 7) rfl), NE_oa _ (List.mem_of_getElem? (i := 7) rfl)⟩
    · exact ⟨u9, v9, rfl, G488 _ (List.mem_of_getElem? (i := 6) rfl), NE_oa _ (List.mem_of_getElem? (i := 6) rfl)⟩
    · exact ⟨u10, v10, rfl, G488 _ (List.mem_of_getElem? (i := 5) rfl), NE_oa _ (List.mem_of_getElem? (i := 5) rfl)⟩
    · exact ⟨u11, v11, rfl, G488 _ (List.mem_of_getElem? (i := 4) rfl), NE_oa _ (List.mem_of_getElem? (i := 4) rfl)⟩
    · exact ⟨u12, v12, rfl, G488 _ (List.mem_of_getElem? (i := 3) rfl), NE_oa _ (List.mem_of_getElem? (i := 3) rfl)⟩
    · exact ⟨u13, v13, rfl, G488 _ (List.mem_of_getElem? (i := 2) rfl), NE_oa _ (List.mem_of_getElem? (i := 2) rfl)⟩
    · exact ⟨u14, v14, rfl, G488 _ (List.mem_of_getElem? (i := 1) rfl), NE_oa _ (List.mem_of_getElem? (i := 1) rfl)⟩
    · exact ⟨u15, v15, rfl, G488 _ (List.mem_of_getElem? (i := 0) rfl), NE_oa _ (List.mem_of_getElem? (i := 0) rfl)⟩
  refine go_aaload C X483 A487.la rfl hx.1 (v := .ref ttx) etx (pc' := 217) rfl at_216 ?_
  refine go_virtualX C X483 WI486 hEL E490 (C.w 58 rfl) (C.w 59 rfl) (notFace_of_selects (args := #[]) (mvT C.hZ (C.w 61 rfl))) (C.w 61 rfl) (C.w 60 rfl) (C.w 29 rfl) (C.w 62 rfl) (own_rdX l Z a0 C.ws oa ttx bbx (own_bs x) (mc, 1, 0, 0, 0, 0, 0) (own_q mc ms x) mc ms mt md be cs fv h484 n0 X483.old hEL hE ⟨E490, F491, F492, F493, F494, F495, F496, F497⟩ ga_oa hTx (own_asc16 hx.1 hx.2) hnex.1 hnex.2 (own_chain l Z a0 C.ws mc ms mt md be cs fv hEL hE hx.1 hx.2)) (fun _ _ => trivial) (argsL := [(.ref ttx)]) (rest := []) (lenOf pd_14 rfl) rfl (by decide) (by decide) (Nat.le_of_ble_eq_true rfl) (by decide) (by decide) rfl rfl (pc' := 220) rfl at_217 ?_
  rintro s T499 h501 _ ⟨rfl, Kax, hSax⟩ C WI502 X500
  show Go p e below _ (T499.setTop (mkF m 220 #[iv x1, iv x2, rv tx, rv cl, iv x, iv y, rv oa, rv ob, un] []))
  have A503 := A487.keep Kax (ninS ne_tx_oa nin0)
  have G504 := G488.keep Kax NE_oa
  have A505 := A489.keep Kax (ninS ne_cl_oa nin0)
  have E506 := E490.keep Kax
  have E507 := Eq485.keep Kax
  have F508 := Fq4850.keep Kax (ninS (Ne.symm ne_oa_ob) nin0)
  have F509 := Fq4851.keep Kax (ninS (Ne.symm ne_oa_ob) nin0)
  have F510 := Fq4852.keep Kax (ninS (Ne.symm ne_oa_ob) nin0)
  have F511 := Fq4853.keep Kax (ninS (Ne.symm ne_oa_ob) nin0)
  have F512 := Fq4854.keep Kax (ninS (Ne.symm ne_oa_ob) nin0)
  have F513 := Fq4855.keep Kax (ninS (Ne.symm ne_oa_ob) nin0)
  have F514 := Fq4856.keep Kax (ninS (Ne.symm ne_oa_ob) nin0)
  refine go_aload C X500 222 rfl at_220 rfl rfl ?_
  refine go_aloadN C X500 223 rfl at_222 rfl rfl ?_
  refine go_iload C X500 225 rfl at_223 rfl ?_
  obtain ⟨tty, bby, ety, hTy, hney⟩ : ∃ t b : Addr, ([(.ref u0), (.ref u1), (.ref u2), (.ref u3), (.ref u4), (.ref u5), (.ref u6), (.ref u7), (.ref u8), (.ref u9), (.ref u10), (.ref u11), (.ref u12), (.ref u13), (.ref u14), (.ref u15)] : List Value)[y.toNatClampNeg]? = some (Value.ref t) ∧ Sg Z h501 t b (ia (own_bs y)) ∧ (t ≠ ob ∧ b ≠ ob) := by
    rcases own_k16 hy.1 hy.2 with rfl | rfl | rfl | rfl | rfl | rfl | rfl | rfl | rfl | rfl | rfl | rfl | rfl | rfl | rfl | rfl
    · exact ⟨u0, v0, rfl, G504 _ (List.mem_of_getElem? (i := 15) rfl), NE_ob _ (List.mem_of_getElem? (i := 15) rfl)⟩
    · exact ⟨u1, v1, rfl, G504 _ (List.mem_of_getElem? (i := 14) rfl), NE_ob _ (List.mem_of_getElem? (i := 14) rfl)⟩
    · exact ⟨u2, v2, rfl, G504 _ (List.mem_of_getElem? (i := 13) rfl), NE_ob _ (List.mem_of_getElem? (i := 13) rfl)⟩
    · exact ⟨u3, v3, rfl, G504 _ (List.mem_of_getElem? (i := 12) rfl), NE_ob _ (List.mem_of_getElem? (i := 12) rfl)⟩
    · exact ⟨u4, v4, rfl, G504 _ (List.mem_of_getElem? (i := 11) rfl), NE_ob _ (List.mem_of_getElem? (i := 11) rfl)⟩
    · exact ⟨u5, v5, rfl, G504 _ (List.mem_of_getElem? (i := 10) rfl), NE_ob _ (List.mem_of_getElem? (i := 10) rfl)⟩
    · exact ⟨u6, v6, rfl, G504 _ (List.mem_of_getElem? (i := 9) rfl), NE_ob _ (List.mem_of_getElem? (i := 9) rfl)⟩
    · exact ⟨u7, v7, rfl, G504 _ (List.mem_of_getElem? (i := 8) rfl), NE_ob _ (List.mem_of_getElem? (i := 8) rfl)⟩
    · exact ⟨u8, v8, rfl, G504 _ (List.mem_of_getElem? (i := 7) rfl), NE_ob _ (List.mem_of_getElem? (i := 7) rfl)⟩
    · exact ⟨u9, v9, rfl, G504 _ (List.mem_of_getElem? (i := 6) rfl), NE_ob _ (List.mem_of_getElem? (i := 6) rfl)⟩
    · exact ⟨u10, v10, rfl, G504 _ (List.mem_of_getElem? (i := 5) rfl), NE_ob _ (List.mem_of_getElem? (i := 5) rfl)⟩
    · exact ⟨u11, v11, rfl, G504 _ (List.mem_of_getElem? (i := 4) rfl), NE_ob _ (List.mem_of_getElem? (i := 4) rfl)⟩
    · exact ⟨u12, v12, rfl, G504 _ (List.mem_of_getElem? (i := 3) rfl), NE_ob _ (List.mem_of_getElem? (i := 3) rfl)⟩
    · exact ⟨u13, v13, rfl, G504 _ (List.mem_of_getElem? (i := 2) rfl), NE_ob _ (List.mem_of_getElem? (i := 2) rfl)⟩
    · exact ⟨u14, v14, rfl, G504 _ (List.mem_of_getElem? (i := 1) rfl), NE_ob _ (List.mem_of_getElem? (i := 1) rfl)⟩
    · exact ⟨u15, v15, rfl, G504 _ (List.mem_of_getElem? (i := 0) rfl), NE_ob _ (List.mem_of_getElem? (i := 0) rfl)⟩
  refine go_aaload C X500 A503.la rfl hy.1 (v := .ref tty) ety (pc' := 226) rfl at_225 ?_
  refine go_virtualX C X500 WI502 hEL E507 (C.w 58 rfl) (C.w 59 rfl) (notFace_of_selects (args := #[]) (mvT C.hZ (C.w 61 rfl))) (C.w 61 rfl) (C.w 60 rfl) (C.w 29 rfl) (C.w 62 rfl) (own_rdX l Z a0 C.ws ob tty bby (own_bs y) (mc, 1, 0, 0, 0, 0, 0) (own_q mc ms y) mc ms mt md be cs fv h501 n0 X500.old hEL hE ⟨E507, F508, F509, F510, F511, F512, F513, F514⟩ ga_ob hTy (own_asc16 hy.1 hy.2) hney.1 hney.2 (own_chain l Z a0 C.ws mc ms mt md be cs fv hEL hE hy.1 hy.2)) (fun _ _ => trivial) (argsL := [(.ref tty)]) (rest := []) (lenOf pd_14 rfl) rfl (by decide) (by decide) (Nat.le_of_ble_eq_true rfl) (by decide) (by decide) rfl rfl (pc' := 229) rfl at_226 ?_
  rintro s T515 h517 _ ⟨rfl, Kay, hSay⟩ C WI518 X516
  show Go p e below _ (T515.setTop (mkF m 229 #[iv x1, iv x2, rv tx, rv cl, iv x, iv y, rv oa, rv ob, un] []))
  have A519 := A503.keep Kay (ninS ne_tx_ob nin0)
  have G520 := G504.keep Kay NE_ob
  have A521 := A505.keep Kay (ninS ne_cl_ob nin0)
  have E522 := E506.keep Kay
  have E523 := E507.keep Kay
  have hSx := own_Sk hSax Kay ne_oa_ob
  refine go_aloadN C X516 230 rfl at_229 rfl rfl ?_
  refine go_iload C X516 232 rfl at_230 rfl ?_
  refine go_iaload C X516 A521 hx.1 (v := (.int (at32 own_cls x))) (ia_at hx.1 (by have e : own_cls.length = 16 := rfl; omega)) (pc' := 233) rfl at_232 ?_
  refine go_aloadN C X516 234 rfl at_233 rfl rfl ?_
  refine go_iload C X516 236 rfl at_234 rfl ?_
  refine go_iaload C X516 A521 hy.1 (v := (.int (at32 own_cls y))) (ia_at hy.1 (by have e : own_cls.length = 16 := rfl; omega)) (pc' := 237) rfl at_236 ?_
  refine go_icmp_ne C X516 at_237 (pc' := 240) (pc2 := 244) rfl (by decide) (by decide) (fun (c237 : ¬ (at32 own_cls x) = (at32 own_cls y)) => ?_) (fun (c237 : (at32 own_cls x) = (at32 own_cls y)) => ?_)
  · refine go_iconst C X516 245 rfl at_244 (z := 0) rfl ?_
    refine go_istore C X516 247 rfl at_245 #[iv x1, iv x2, rv tx, rv cl, iv x, iv y, rv oa, rv ob, iv (0 : Int32)] rfl ?_
    refine go_aload C X516 249 rfl at_247 rfl rfl ?_
    refine go_aload C X516 251 rfl at_249 rfl rfl ?_
    refine go_virtual C X516 E522 (C.w 127 rfl) (C.w 128 rfl) (notFace_of_selects (args := #[]) (mvT C.hZ (C.w 130 rfl))) (C.w 130 rfl) (C.w 129 rfl) (C.w 29 rfl) (C.w 131 rfl) (own_same l Z a0 C.ws oa ob (own_q mc ms x) (own_q mc ms y) h517 n0 X516.old hSx hSay) (argsL := [(.ref ob)]) (rest := []) (lenOf pd_15 rfl) rfl (by decide) (by decide) (Nat.le_of_ble_eq_true rfl) (by decide) (by decide) rfl rfl (pc' := 254) rfl at_251 ?_
    rintro T524 _ _ ⟨rfl, rfl⟩ X525
    show Go p e below _ (T524.setTop (mkF m 254 #[iv x1, iv x2, rv tx, rv cl, iv x, iv y, rv oa, rv ob, iv (0 : Int32)] [(.int (own_sq (own_q mc ms x) (own_q mc ms y)))]))
    rw [own_fin hmn hx.1 hx.2 hy.1 hy.2, if_neg c237]
    refine go_iload C X525 256 rfl at_254 rfl ?_
    refine go_icmp_ne C X525 at_256 (pc' := 259) (pc2 := 275) rfl (by decide) (by decide) (fun (c256 : ¬ (0 : Int32) = (0 : Int32)) => False.elim (by first | omega | exact absurd c256 (by decide))) (fun (c256 : (0 : Int32) = (0 : Int32)) => ?_)
    refine go_aload C X525 261 rfl at_259 rfl rfl ?_
    refine go_aload C X525 263 rfl at_261 rfl rfl ?_
    refine go_virtual C X525 E523 (C.w 127 rfl) (C.w 128 rfl) (notFace_of_selects (args := #[]) (mvT C.hZ (C.w 130 rfl))) (C.w 130 rfl) (C.w 129 rfl) (C.w 29 rfl) (C.w 131 rfl) (own_same l Z a0 C.ws ob oa (own_q mc ms y) (own_q mc ms x) h517 n0 X525.old hSay hSx) (argsL := [(.ref oa)]) (rest := []) (lenOf pd_15 rfl) rfl (by decide) (by decide) (Nat.le_of_ble_eq_true rfl) (by decide) (by decide) rfl rfl (pc' := 266) rfl at_263 ?_
    rintro T527 _ _ ⟨rfl, rfl⟩ X528
    show Go p e below _ (T527.setTop (mkF m 266 #[iv x1, iv x2, rv tx, rv cl, iv x, iv y, rv oa, rv ob, iv (0 : Int32)] [(.int (own_sq (own_q mc ms y) (own_q mc ms x)))]))
    rw [own_fin hmn hy.1 hy.2 hx.1 hx.2, if_neg (fun q => c237 q.symm)]
    refine go_iload C X528 268 rfl at_266 rfl ?_
    refine go_icmp_ne C X528 at_268 (pc' := 271) (pc2 := 275) rfl (by decide) (by decide) (fun (c268 : ¬ (0 : Int32) = (0 : Int32)) => False.elim (by first | omega | exact absurd c268 (by decide))) (fun (c268 : (0 : Int32) = (0 : Int32)) => ?_)
    refine go_iconst C X528 272 rfl at_271 (z := 1) rfl ?_
    refine go_goto C X528 at_272 (pc' := 276) (by decide) (by decide) ?_
    exact go_retNW C X528 WI518 hEL (by simp) (z' := 1) rfl at_276 rfl (by decide) (by decide)
  · refine go_iconst C X516 241 rfl at_240 (z := 1) rfl ?_
    refine go_goto C X516 at_241 (pc' := 245) (by decide) (by decide) ?_
    refine go_istore C X516 247 rfl at_245 #[iv x1, iv x2, rv tx, rv cl, iv x, iv y, rv oa, rv ob, iv (1 : Int32)] rfl ?_
    refine go_aload C X516 249 rfl at_247 rfl rfl ?_
    refine go_aload C X516 251 rfl at_249 rfl rfl ?_
    refine go_virtual C X516 E522 (C.w 127 rfl) (C.w 128 rfl) (notFace_of_selects (args := #[]) (mvT C.hZ (C.w 130 rfl))) (C.w 130 rfl) (C.w 129 rfl) (C.w 29 rfl) (C.w 131 rfl) (own_same l Z a0 C.ws oa ob (own_q mc ms x) (own_q mc ms y) h517 n0 X516.old hSx hSay) (argsL := [(.ref ob)]) (rest := []) (lenOf pd_15 rfl) rfl (by decide) (by decide) (Nat.le_of_ble_eq_true rfl) (by decide) (by decide) rfl rfl (pc' := 254) rfl at_251 ?_
    rintro T530 _ _ ⟨rfl, rfl⟩ X531
    show Go p e below _ (T530.setTop (mkF m 254 #[iv x1, iv x2, rv tx, rv cl, iv x, iv y, rv oa, rv ob, iv (1 : Int32)] [(.int (own_sq (own_q mc ms x) (own_q mc ms y)))]))
    rw [own_fin hmn hx.1 hx.2 hy.1 hy.2, if_pos c237]
    refine go_iload C X531 256 rfl at_254 rfl ?_
    refine go_icmp_ne C X531 at_256 (pc' := 259) (pc2 := 275) rfl (by decide) (by decide) (fun (c256 : ¬ (1 : Int32) = (1 : Int32)) => False.elim (by first | omega | exact absurd c256 (by decide))) (fun (c256 : (1 : Int32) = (1 : Int32)) => ?_)
    refine go_aload C X531 261 rfl at_259 rfl rfl ?_
    refine go_aload C X531 263 rfl at_261 rfl rfl ?_
    refine go_virtual C X531 E523 (C.w 127 rfl) (C.w 128 rfl) (notFace_of_selects (args := #[]) (mvT C.hZ (C.w 130 rfl))) (C.w 130 rfl) (C.w 129 rfl) (C.w 29 rfl) (C.w 131 rfl) (own_same l Z a0 C.ws ob oa (own_q mc ms y) (own_q mc ms x) h517 n0 X531.old hSay hSx) (argsL := [(.ref oa)]) (rest := []) (lenOf pd_15 rfl) rfl (by decide) (by decide) (Nat.le_of_ble_eq_true rfl) (by decide) (by decide) rfl rfl (pc' := 266) rfl at_263 ?_
    rintro T533 _ _ ⟨rfl, rfl⟩ X534
    show Go p e below _ (T533.setTop (mkF m 266 #[iv x1, iv x2, rv tx, rv cl, iv x, iv y, rv oa, rv ob, iv (1 : Int32)] [(.int (own_sq (own_q mc ms y) (own_q mc ms x)))]))
    rw [own_fin hmn hy.1 hy.2 hx.1 hx.2, if_pos c237.symm]
    refine go_iload C X534 268 rfl at_266 rfl ?_
    refine go_icmp_ne C X534 at_268 (pc' := 271) (pc2 := 275) rfl (by decide) (by decide) (fun (c268 : ¬ (1 : Int32) = (1 : Int32)) => False.elim (by first | omega | exact absurd c268 (by decide))) (fun (c268 : (1 : Int32) = (1 : Int32)) => ?_)
    refine go_iconst C X534 272 rfl at_271 (z := 1) rfl ?_
    refine go_goto C X534 at_272 (pc' := 276) (by decide) (by decide) ?_
    exact go_retNW C X534 WI518 hEL (by simp) (z' := 1) rfl at_276 rfl (by decide) (by decide)
theorem own_fv {Z : State} {args : Array Value} {t : Term} {idx : List Nat} {a : Addr} {c n d : String} {v : Value} (e : t.eval args Z none idx Z = some (.ref a)) (q : (Term.field t c n d).eval args Z none idx Z = some v) : Z.fieldOf? a c n d = some v := by
  simpa [Term.eval, e] using q
theorem own_lv {Z : State} {args : Array Value} {t : Term} {idx : List Nat} {a : Addr} {cv : Cell} {z : Int32} (e : t.eval args Z none idx Z = some (.ref a)) (hav : Z.arrayAt? a = some cv) (h31 : cv.slots.size < 2 ^ 31) (q : (Term.length t).eval args Z none idx Z = some (.int z)) : Int32.ofNat cv.slots.size = z := by
  simpa [Term.eval, e, hav, h31] using q
set_option maxRecDepth 65536 in
set_option maxHeartbeats 40000000 in
theorem comes_1 {Post : Tables → Env → Array Value → State → Outcome → State → Prop} (hpost : ∀ tb e args s v u, (limb_1_1.after args s (.returned v) u = true ∧ limb_1_2.after args s (.returned v) u = true ∧ True) → FramedW s (.returned v) u (Jvm.fieldLocs frame_1_writes args s ++ Jvm.arrayLocs frame_1_arrays args s ++ Jvm.staticLocs frame_1_statics s) 56 17664 → Post tb e args s (.returned v) u) :
    ArmFor flags0 classFile x code maxLocals ret World_1 tables_1 room_1 Calls_1 rest_1 Pre_1 Post := by
  intro l hfl _ _ p e ha hc hk s m args below hf hA hF happ hP
  obtain ⟨hcalls, hrest, hpre⟩ := hP
  obtain ⟨-, -, -, hnamed, -, -, -, hat⟩ := (Spec.applies_iff hf).mp happ
  obtain ⟨hg, hn⟩ := and_e (Cond.before_iff.mp (show (Jvm.Cond.and given_1 narrow_1).before args s = true from hpre))
  obtain ⟨g1, g2⟩ := and_e hg
  obtain ⟨g3, g4⟩ := and_e g2
  obtain ⟨w0, w1, rfl⟩ : ∃ w0 w1 : Value, args = #[w0, w1] := by
    have hs : args.size = 2 := by simpa [Cond.value, given_1] using g1
    obtain ⟨L⟩ := args
    match L, hs with
    | [w0, w1], _ => exact ⟨w0, w1, rfl⟩
  have hw := fun d (hd : d ∈ tables_1) => atoms_spec (ws := Jvm.Cond.code x code maxLocals ret :: tables_1) hat d (List.mem_cons_of_mem _ hd)
  have hfit : Fit s := fun {y c} hc i hi => by
    obtain ⟨ha, rfl⟩ := Array.getElem?_eq_some_iff.mp hc
    have q := List.all_eq_true.mp ((Array.all_eq_true_iff_forall_mem.mp hF) _ (Array.getElem_mem ha)) i (List.mem_range.mpr hi)
    simpa [Array.getElem?_eq_getElem hi] using q
  obtain ⟨hsets, hown0⟩ := atoms_of _ (rest_1_c_eq ▸ (show rest_1_c.before _ s = true from hrest))
  have hr0 := Cond.before_iff.mp hown0
  obtain ⟨i0, ei0⟩ := is_v g3
  obtain rfl : w0 = (.int i0) := Option.some.inj ei0
  obtain ⟨i1, ei1⟩ := is_v g4
  obtain rfl : w1 = (.int i1) := Option.some.inj ei1
  obtain ⟨x0, hn⟩ := and_e hn
  obtain ⟨z0, hn⟩ := and_e hn
  obtain ⟨x1, hn⟩ := and_e hn
  obtain ⟨z1, hn⟩ := and_e hn
  obtain ⟨v0, hn⟩ := and_e hn
  obtain ⟨v2, hn⟩ := and_e hn
  obtain ⟨x2, hn⟩ := and_e hn
  obtain ⟨z2, hn⟩ := and_e hn
  obtain ⟨x3, hn⟩ := and_e hn
  obtain ⟨z3, hn⟩ := and_e hn
  obtain ⟨y0, hn⟩ := and_e hn
  obtain ⟨y1, hn⟩ := and_e hn
  obtain ⟨y2, hn⟩ := and_e hn
  obtain ⟨y3, hn⟩ := and_e hn
  obtain ⟨y4, hn⟩ := and_e hn
  obtain ⟨y5, hn⟩ := and_e hn
  obtain ⟨y6, hn⟩ := and_e hn
  obtain ⟨y7, hn⟩ := and_e hn
  obtain ⟨y8, hn⟩ := and_e hn
  obtain ⟨y9, hn⟩ := and_e hn
  obtain ⟨y10, hn⟩ := and_e hn
  obtain ⟨y11, hn⟩ := and_e hn
  obtain ⟨y12, hn⟩ := and_e hn
  have y13 := hn
  obtain ⟨mc, ek0⟩ := exa_v x0
  have EM0 := Exa.start ek0 x0
  have SM0 := Sta.start ek0 (Or.inr ⟨(hw _ (List.mem_of_getElem? (i := 42) rfl)), (hw _ (List.mem_of_getElem? (i := 43) rfl))⟩)
  have FM0 : Fld s s.heap mc "java/lang/Enum" "ordinal" "I" (.int 0) := Fld.start (own_fv ek0 (eqv_i rfl z0))
  obtain ⟨ms, ek1⟩ := exa_v x1
  have EM1 := Exa.start ek1 x1
  have SM1 := Sta.start ek1 (Or.inr ⟨(hw _ (List.mem_of_getElem? (i := 42) rfl)), (hw _ (List.mem_of_getElem? (i := 137) rfl))⟩)
  have FM1 : Fld s s.heap ms "java/lang/Enum" "ordinal" "I" (.int 2) := Fld.start (own_fv ek1 (eqv_i rfl z1))
  obtain ⟨mt, ek2⟩ := exa_v x2
  have EM2 := Exa.start ek2 x2
  have SM2 := Sta.start ek2 (Or.inr ⟨(hw _ (List.mem_of_getElem? (i := 42) rfl)), (hw _ (List.mem_of_getElem? (i := 153) rfl))⟩)
  have FM2 : Fld s s.heap mt "java/lang/Enum" "ordinal" "I" (.int 4) := Fld.start (own_fv ek2 (eqv_i rfl z2))
  obtain ⟨md, ek3⟩ := exa_v x3
  have EM3 := Exa.start ek3 x3
  have SM3 := Sta.start ek3 (Or.inr ⟨(hw _ (List.mem_of_getElem? (i := 42) rfl)), (hw _ (List.mem_of_getElem? (i := 159) rfl))⟩)
  have FM3 : Fld s s.heap md "java/lang/Enum" "ordinal" "I" (.int 5) := Fld.start (own_fv ek3 (eqv_i rfl z3))
  obtain ⟨be, ebe⟩ := arr_v v0
  obtain ⟨cv, Av⟩ := Arr.start ebe v0
  have SB := Sta.start ebe (Or.inr ⟨(hw _ (List.mem_of_getElem? (i := 29) rfl)), (hw _ (List.mem_of_getElem? (i := 148) rfl))⟩)
  have hav := Av.fin (Vm.Alike.refl _)
  have ln := eqv_i rfl v2
  have h31 := SBG.length_lt ebe hav ln
  have lz : cv.slots.size = 14 := by
    have e1 : Int32.ofNat cv.slots.size = 14 := own_lv ebe hav h31 ln
    have e2 := congrArg Int32.toInt e1
    rw [Int32.toInt_ofNat_small h31] at e2
    have : (14 : Int32).toInt = 14 := rfl
    omega
  have el0 : cv.slots[0]? = some (.long 19416568974) := by have q := eqv_l rfl y0; rw [SBG.elem_at (i := 0) ebe hav (by omega) h31 rfl] at q; exact q
  have el1 : cv.slots[1]? = some (.long 21898482630) := by have q := eqv_l rfl y1; rw [SBG.elem_at (i := 1) ebe hav (by omega) h31 rfl] at q; exact q
  have el2 : cv.slots[2]? = some (.long 166155174841963462) := by have q := eqv_l rfl y2; rw [SBG.elem_at (i := 2) ebe hav (by omega) h31 rfl] at q; exact q
  have el3 : cv.slots[3]? = some (.long 590) := by have q := eqv_l rfl y3; rw [SBG.elem_at (i := 3) ebe hav (by omega) h31 rfl] at q; exact q
  have el4 : cv.slots[4]? = some (.long 966) := by have q := eqv_l rfl y4; rw [SBG.elem_at (i := 4) ebe hav (by omega) h31 rfl] at q; exact q
  have el5 : cv.slots[5]? = some (.long 57687) := by have q := eqv_l rfl y5; rw [SBG.elem_at (i := 5) ebe hav (by omega) h31 rfl] at q; exact q
  have el6 : cv.slots[6]? = some (.long 4382020869) := by have q := eqv_l rfl y6; rw [SBG.elem_at (i := 6) ebe hav (by omega) h31 rfl] at q; exact q
  have el7 : cv.slots[7]? = some (.long 5829188) := by have q := eqv_l rfl y7; rw [SBG.elem_at (i := 7) ebe hav (by omega) h31 rfl] at q; exact q
  have el8 : cv.slots[8]? = some (.long 337716183) := by have q := eqv_l rfl y8; rw [SBG.elem_at (i := 8) ebe hav (by omega) h31 rfl] at q; exact q
  have el9 : cv.slots[9]? = some (.long 791749) := by have q := eqv_l rfl y9; rw [SBG.elem_at (i := 9) ebe hav (by omega) h31 rfl] at q; exact q
  have el10 : cv.slots[10]? = some (.long 271) := by have q := eqv_l rfl y10; rw [SBG.elem_at (i := 10) ebe hav (by omega) h31 rfl] at q; exact q
  have el11 : cv.slots[11]? = some (.long 1361093) := by have q := eqv_l rfl y11; rw [SBG.elem_at (i := 11) ebe hav (by omega) h31 rfl] at q; exact q
  have el12 : cv.slots[12]? = some (.long 421810948) := by have q := eqv_l rfl y12; rw [SBG.elem_at (i := 12) ebe hav (by omega) h31 rfl] at q; exact q
  have el13 : cv.slots[13]? = some (.long 22811220) := by have q := eqv_l rfl y13; rw [SBG.elem_at (i := 13) ebe hav (by omega) h31 rfl] at q; exact q
  have AB : La s s.heap be .long [.long 19416568974, .long 21898482630, .long 166155174841963462, .long 590, .long 966, .long 57687, .long 4382020869, .long 5829188, .long 337716183, .long 791749, .long 271, .long 1361093, .long 421810948, .long 22811220] := La.of Av _ lz (by show (14 : Nat) < _; decide) (fun i hi => by
      have hi7 : i < 14 := hi
      rcases (by omega : i = 0 ∨ i = 1 ∨ i = 2 ∨ i = 3 ∨ i = 4 ∨ i = 5 ∨ i = 6 ∨ i = 7 ∨ i = 8 ∨ i = 9 ∨ i = 10 ∨ i = 11 ∨ i = 12 ∨ i = 13) with rfl | rfl | rfl | rfl | rfl | rfl | rfl | rfl | rfl | rfl | rfl | rfl | rfl | rfl
      all_goals first | exact el0 | exact el1 | exact el2 | exact el3 | exact el4 | exact el5 | exact el6 | exact el7 | exact el8 | exact el9 | exact el10 | exact el11 | exact el12 | exact el13) (fun v hv => by simp only [List.mem_cons, List.not_mem_nil, or_false] at hv; rcases hv with rfl | rfl | rfl | rfl | rfl | rfl | rfl | rfl | rfl | rfl | rfl | rfl | rfl | rfl <;> rfl)
  have n3 := not_v (Cond.before_iff.mp (hsets _ (List.mem_of_getElem? (i := 2) rfl)))
  obtain ⟨cs, ecs⟩ := is_v (Cond.before_iff.mp (hsets _ (List.mem_of_getElem? (i := 1) rfl)))
  have S1 : Sta s s.heap "java/lang/String" "COMPACT_STRINGS" "Z" (.int cs) := Sta.start ecs (Or.inl (hsets _ (List.mem_of_getElem? (i := 0) rfl)))
  obtain ⟨fv, efv, hfv⟩ := isR_v (Cond.before_iff.mp (hsets _ (List.mem_of_getElem? (i := 8) rfl)))
  have S2 : Sta s s.heap "jdk/internal/util/Preconditions" "SIOOBE_FORMATTER" "Ljava/util/function/BiFunction;" fv := Sta.start efv (Or.inl (hsets _ (List.mem_of_getElem? (i := 7) rfl)))
  have hcs : ¬ (cs = (0 : Int32)) := gotF (Cond.eq_ints ecs (Term.int_eval (0))) n3
  have hEL : EW s #[.int i0, .int i1] consts_1 := EW.cons (hw _ (List.mem_of_getElem? (i := 126) rfl)) own_lit120.1 (EW.cons (hw _ (List.mem_of_getElem? (i := 2) rfl)) own_lit9.1 (EW.cons (hw _ (List.mem_of_getElem? (i := 11) rfl)) own_lit11.1 (EW.cons (hw _ (List.mem_of_getElem? (i := 12) rfl)) own_lit13.1 (EW.cons (hw _ (List.mem_of_getElem? (i := 13) rfl)) own_lit15.1 (EW.cons (hw _ (List.mem_of_getElem? (i := 14) rfl)) own_lit17.1 (EW.cons (hw _ (List.mem_of_getElem? (i := 15) rfl)) own_lit19.1 (EW.cons (hw _ (List.mem_of_getElem? (i := 16) rfl)) own_lit21.1 (EW.cons (hw _ (List.mem_of_getElem? (i := 17) rfl)) own_lit23.1 (EW.cons (hw _ (List.mem_of_getElem? (i := 18) rfl)) own_lit25.1 (EW.cons (hw _ (List.mem_of_getElem? (i := 19) rfl)) own_lit27.1 (EW.cons (hw _ (List.mem_of_getElem? (i := 20) rfl)) own_lit29.1 (EW.cons (hw _ (List.mem_of_getElem? (i := 21) rfl)) own_lit31.1 (EW.cons (hw _ (List.mem_of_getElem? (i := 22) rfl)) own_lit33.1 (EW.cons (hw _ (List.mem_of_getElem? (i := 23) rfl)) own_lit35.1 (EW.cons (hw _ (List.mem_of_getElem? (i := 24) rfl)) own_lit37.1 (EW.cons (hw _ (List.mem_of_getElem? (i := 25) rfl)) own_lit39.1 (EW.nil)))))))))))))))))
  obtain ⟨hcst, _⟩ := hcalls
  have hCH : CHv s consts_1 s.vm s.heap := CHv.start hEL (fun p hp => hcst p hp) (hsets _ (List.mem_of_getElem? (i := 2) rfl)) (hw _ (List.mem_of_getElem? (i := 5) rfl)) (hw _ (List.mem_of_getElem? (i := 4) rfl))
  have hE : own_E s mc ms mt md be cs fv := ⟨SM0, SM1, SM2, SM3, EM0, EM1, EM2, EM3, FM0, FM1, FM2, FM3, SB, AB, hcs, S1, hfv, S2⟩
  obtain ⟨n, o, h1, h2, h3, _, L, rfl, ⟨N, rfl⟩, -, hq⟩ := own_law l s _ hw i0 i1 mc ms mt md be cs fv s.heap s.heap.size (Old.start s) hEL hE tables_1 p e ha hc hk s m _ below hf ((Spec.applies_iff_loose hf).mp happ).1 ⟨rfl, State.Warmed39.refl s, rfl, hCH⟩ trivial
  refine ⟨n, _, h1, h2, h3, hpost _ _ _ _ _ _ ⟨Cond.after_iff.mpr rfl, Cond.after_iff.mpr (eq_i res_at (Term.int_eval (1)) rfl), trivial⟩ ⟨hq.1, hq.2.1, hq.2.2.1, (hq.2.2.2.sift fun y hy => Or.inr (N y hy)).mono (by decide) (by decide)⟩⟩
theorem main_1_1 : Claimed_1_1 := comes_1 fun _ _ _ _ _ _ h hF => ⟨h.1, hF⟩
theorem main_1_2 : Claimed_1_2 := comes_1 fun _ _ _ _ _ _ h hF => ⟨h.2.1, hF⟩

end Jvm.Pilot.@@N@@
namespace Jvm.Pilot.@@N@@
open Jvm Jvm.ClassFile Sem Op Lib Jvm.Free Jvm.Stand Jvm.Pilot.@@N@@.Jvm.D
/-! MADE BY PROGRAM (witnessworld.py) out of the Statement's table words and the real class files: 23 classes; the members and pool entries that the words name. The judged class is class 1, her method 1. -/
namespace start1
open Jvm.ClassFile
def u (s : String) : CpInfo := .utf8 (stringToUtf16 s)
/-- a pool by its gaps: so many unusable entries, then the entry; so many at the end -/
def gap : Nat → List CpInfo → List CpInfo
  | 0, r => r
  | n + 1, r => .unusable :: gap n r
def poolList (es : List (Nat × CpInfo)) (last : Nat) : List CpInfo := es.foldr (fun e r => gap e.1 (e.2 :: r)) (gap last [])
def pool (es : List (Nat × CpInfo)) (last : Nat) : Array CpInfo := ⟨poolList es last⟩
def fileOf (pool : Array CpInfo) (this : Nat) (attrs : Array Attribute := #[]) (ms : Array MethodInfo := #[]) (fl : Nat := 33) (sup : Nat := 0) (ifs : Array Nat := #[]) (fds : Array FieldInfo := #[]) : ClassFile where
  minorVersion := 0
  majorVersion := 65
  constantPool := pool
  accessFlags := fl
  thisClass := this
  superClass := sup
  interfaces := ifs
  fields := fds
  methods := ms
  attributes := attrs
def plain (name : String) (sup : Option ClassId) : Class where
  name := name
  kind := .ordinary
  loader := none
  accessFlags := 33
  super := sup
  interfaces := #[]
  cf := none
  fields := #[]
  methods := #[]
  instanceTypes := #[]
  staticTypes := #[]
  resolved := #[]
  callSites := []
  init := .initialized
  statics := none
  mirror := none

def pool0 : Array CpInfo := pool [(5, u "<init>"), (0, u "()V"), (1, .class_ 10), (1, u "java/lang/Object")] 113

def k0c0 : Code := { maxStack := 0, maxLocals := 1, code := object_method_1_code, exceptionTable := #[], attributes := #[] }
def k0m0 : Method := { name := "<init>", desc := "()V", sig := { parameters := [], returnType := none }, accessFlags := 1, code := some k0c0 }
/-- java/lang/Object -/
def k0 : Class := { plain "java/lang/Object" none with
  accessFlags := 33
  interfaces := #[]
  cf := some (fileOf pool0 8 #[] #[{ accessFlags := 1, nameIndex := 5, descriptorIndex := 6, attributes := #[] }] 33 0 #[] #[])
  fields := #[]
  methods := #[k0m0]
  instanceTypes := #[]
  staticTypes := #[]
  resolved := Array.replicate 124 none
  statics := none }

def pool1 : Array CpInfo := pool [(2, .class_ 4), (0, .nameAndType 5 6), (0, u "java/lang/Object"), (0, u "<init>"), (0, u "()V"), (0, .class_ 8), (0, u "java/lang/String"), (0, .string 10), (0, u ""), (0, .string 12), (0, u "'"), (0, .string 14), (0, u "'\\"), (0, .string 16), (0, u ")"), (0, .string 18), (0, u "a"), (0, .string 20), (0, u "{"), (0, .string 22), (0, u "`${"), (0, .string 24), (0, u "<"), (0, .string 26), (0, u "abcdefg"), (0, .string 28), (0, u "bbcdefg"), (0, .string 30), (0, u "{{{{{{{{{{{{{{{{{{{{{{{{{{{{{{{{`${"), (0, .string 32), (0, u "{{{{{{{{{{{{{{{{{{{{{{{{{{{{{{{{{"), (0, .string 34), (0, u " "), (0, .string 36), (0, u "a "), (0, .string 38), (0, u "}"), (0, .string 40), (0, u "''"), (0, .class_ 42), (0, u "com/example/plantilla/plantilla/ScriptText"), (0, .methodref 41 3), (0, .methodref 41 45), (0, .nameAndType 46 47), (0, u "read"), (0, u "(Ljava/lang/String;)V"), (0, .methodref 41 49), (0, .nameAndType 50 51), (0, u "sameAs"), (0, u "(Lcom/example/plantilla/plantilla/ScriptText;)Z"), (0, .class_ 53), (0, u "com/example/plantilla/plantilla/ScriptTextSameAsPinLaw"), (2, u "law"), (0, u "(II)Z")] 7

def k1m0 : Method := { name := "<init>", desc := "()V", sig := { parameters := [], returnType := none }, accessFlags := 2, code := none }
def k1c1 : Code := { maxStack := 4, maxLocals := 9, code := code, exceptionTable := #[], attributes := #[] }
def k1m1 : Method := { name := "law", desc := "(II)Z", sig := { parameters := [.int, .int], returnType := some .boolean }, accessFlags := 9, code := some k1c1 }
/-- com/example/plantilla/plantilla/ScriptTextSameAsPinLaw -/
def k1 : Class := { plain "com/example/plantilla/plantilla/ScriptTextSameAsPinLaw" (some 0) with
  accessFlags := 49
  interfaces := #[]
  cf := some (fileOf pool1 52 #[] #[{ accessFlags := 2, nameIndex := 5, descriptorIndex := 6, attributes := #[] }, { accessFlags := 9, nameIndex := 56, descriptorIndex := 57, attributes := #[] }] 49 2 #[] #[])
  fields := #[]
  methods := #[k1m0, k1m1]
  instanceTypes := #[]
  staticTypes := #[]
  resolved := Array.replicate 65 none
  statics := none }

def pool2 : Array CpInfo := pool [(1, .class_ 2), (0, u "java/io/Serializable"), (0, .class_ 4), (0, u "java/lang/Object")] 2

/-- java/io/Serializable -/
def k2 : Class := { plain "java/io/Serializable" (some 0) with
  accessFlags := 1537
  interfaces := #[]
  cf := some (fileOf pool2 1 #[] #[] 1537 3 #[] #[])
  fields := #[]
  methods := #[]
  instanceTypes := #[]
  staticTypes := #[]
  resolved := Array.replicate 7 none
  statics := none }

def pool3 : Array CpInfo := pool [(1, .class_ 2), (0, u "java/lang/Comparable"), (0, .class_ 4), (0, u "java/lang/Object")] 7

/-- java/lang/Comparable -/
def k3 : Class := { plain "java/lang/Comparable" (some 0) with
  accessFlags := 1537
  interfaces := #[]
  cf := some (fileOf pool3 1 #[] #[] 1537 3 #[] #[])
  fields := #[]
  methods := #[]
  instanceTypes := #[]
  staticTypes := #[]
  resolved := Array.replicate 12 none
  statics := none }

def pool4 : Array CpInfo := pool [(2, .class_ 4), (1, u "java/lang/CharSequence"), (42, .class_ 48), (0, u "java/lang/CharSequence$1CodePointIterator"), (10, .class_ 60), (0, u "java/lang/CharSequence$1CharIterator"), (5, .class_ 67), (0, u "java/lang/Object")] 63

/-- java/lang/CharSequence -/
def k4 : Class := { plain "java/lang/CharSequence" (some 0) with
  accessFlags := 1537
  interfaces := #[]
  cf := some (fileOf pool4 2 #[.nestMembers #[47, 59]] #[] 1537 66 #[] #[])
  fields := #[]
  methods := #[]
  instanceTypes := #[]
  staticTypes := #[]
  resolved := Array.replicate 131 none
  statics := none }

def pool5 : Array CpInfo := pool [(1, .class_ 2), (0, u "java/lang/constant/Constable"), (0, .class_ 4), (0, u "java/lang/Object")] 6

/-- java/lang/constant/Constable -/
def k5 : Class := { plain "java/lang/constant/Constable" (some 0) with
  accessFlags := 1537
  interfaces := #[]
  cf := some (fileOf pool5 1 #[] #[] 1537 3 #[] #[])
  fields := #[]
  methods := #[]
  instanceTypes := #[]
  staticTypes := #[]
  resolved := Array.replicate 11 none
  statics := none }

def pool6 : Array CpInfo := pool [(1, .class_ 2), (0, u "java/lang/constant/ConstantDesc"), (0, .class_ 4), (0, u "java/lang/Object")] 32

/-- java/lang/constant/ConstantDesc -/
def k6 : Class := { plain "java/lang/constant/ConstantDesc" (some 0) with
  accessFlags := 1537
  interfaces := #[]
  cf := some (fileOf pool6 1 #[] #[] 1537 3 #[] #[])
  fields := #[]
  methods := #[]
  instanceTypes := #[]
  staticTypes := #[]
  resolved := Array.replicate 37 none
  statics := none }

def pool7 : Array CpInfo := pool [(2, .class_ 4), (1, u "java/lang/Object"), (0, u "<init>"), (0, u "()V"), (2, .fieldref 10 11), (0, .class_ 12), (0, .nameAndType 13 14), (0, u "java/lang/String"), (0, u "value"), (0, u "[B"), (0, .fieldref 10 16), (0, .nameAndType 17 18), (0, u "coder"), (0, u "B"), (2, u "hash"), (0, u "I"), (2, u "hashIsZero"), (0, u "Z"), (11, .fieldref 10 39), (0, .nameAndType 40 26), (0, u "COMPACT_STRINGS"), (66, .class_ 109), (1, u "java/lang/StringLatin1"), (32, u "()Z"), (191, u "()I"), (0, .methodref 10 336), (0, .nameAndType 17 337), (0, u "()B"), (25, u "([BI)C"), (27, u "(II)V"), (35, u "(I)C"), (64, .methodref 10 493), (0, .nameAndType 494 142), (0, u "isLatin1"), (0, .methodref 107 496), (0, .nameAndType 497 363), (0, u "charAt"), (3, u "checkIndex"), (5, u "length"), (67, .class_ 576), (0, u "java/lang/CharSequence"), (22, u "CASE_INSENSITIVE_ORDER"), (0, u "Ljava/util/Comparator;"), (452, .fieldref 1054 1055), (0, .class_ 1056), (0, .nameAndType 1057 1058), (0, u "jdk/internal/util/Preconditions"), (0, u "SIOOBE_FORMATTER"), (0, u "Ljava/util/function/BiFunction;"), (0, .methodref 1054 1060), (0, .nameAndType 501 1061), (0, u "(IILjava/util/function/BiFunction;)I"), (39, u "serialPersistentFields"), (0, u "[Ljava/io/ObjectStreamField;"), (0, .class_ 1104), (0, u "java/lang/String$CaseInsensitiveComparator"), (1, .class_ 1107), (0, u "java/io/Serializable"), (0, .class_ 1109), (0, u "java/lang/Comparable"), (0, .class_ 1111), (0, u "java/lang/constant/Constable"), (0, .class_ 1113), (0, u "java/lang/constant/ConstantDesc"), (2, u "serialVersionUID"), (0, u "J"), (3, u "REPL"), (0, u "C"), (2, u "LATIN1"), (1, u "UTF16")] 323

def k7m0 : Method := { name := "<init>", desc := "()V", sig := { parameters := [], returnType := none }, accessFlags := 1, code := none }
def k7c1 : Code := { maxStack := 2, maxLocals := 1, code := jdk_42_method_54_code, exceptionTable := #[], attributes := #[] }
def k7m1 : Method := { name := "length", desc := "()I", sig := { parameters := [], returnType := some .int }, accessFlags := 1, code := some k7c1 }
def k7c2 : Code := { maxStack := 2, maxLocals := 2, code := jdk_42_method_56_code, exceptionTable := #[], attributes := #[] }
def k7m2 : Method := { name := "charAt", desc := "(I)C", sig := { parameters := [.int], returnType := some .char }, accessFlags := 1, code := some k7c2 }
def k7c3 : Code := { maxStack := 1, maxLocals := 1, code := jdk_42_method_152_code, exceptionTable := #[], attributes := #[] }
def k7m3 : Method := { name := "coder", desc := "()B", sig := { parameters := [], returnType := some .byte }, accessFlags := 0, code := some k7c3 }
def k7c4 : Code := { maxStack := 1, maxLocals := 1, code := jdk_42_method_154_code, exceptionTable := #[], attributes := #[] }
def k7m4 : Method := { name := "isLatin1", desc := "()Z", sig := { parameters := [], returnType := some .boolean }, accessFlags := 0, code := some k7c4 }
def k7c5 : Code := { maxStack := 3, maxLocals := 2, code := jdk_42_method_155_code, exceptionTable := #[], attributes := #[] }
def k7m5 : Method := { name := "checkIndex", desc := "(II)V", sig := { parameters := [.int, .int], returnType := none }, accessFlags := 8, code := some k7c5 }
/-- java/lang/String -/
def k7 : Class := { plain "java/lang/String" (some 0) with
  accessFlags := 49
  interfaces := #[2, 3, 4, 5, 6]
  cf := some (fileOf pool7 10 #[.nestMembers #[1103]] #[{ accessFlags := 1, nameIndex := 5, descriptorIndex := 6, attributes := #[] }, { accessFlags := 1, nameIndex := 507, descriptorIndex := 334, attributes := #[] }, { accessFlags := 1, nameIndex := 497, descriptorIndex := 427, attributes := #[] }, { accessFlags := 0, nameIndex := 17, descriptorIndex := 337, attributes := #[] }, { accessFlags := 0, nameIndex := 494, descriptorIndex := 142, attributes := #[] }, { accessFlags := 8, nameIndex := 501, descriptorIndex := 391, attributes := #[] }] 49 2 #[1106, 1108, 575, 1110, 1112] #[{ accessFlags := 18, nameIndex := 13, descriptorIndex := 14, attributes := #[] }, { accessFlags := 18, nameIndex := 17, descriptorIndex := 18, attributes := #[] }, { accessFlags := 2, nameIndex := 21, descriptorIndex := 22, attributes := #[] }, { accessFlags := 2, nameIndex := 25, descriptorIndex := 26, attributes := #[] }, { accessFlags := 26, nameIndex := 1116, descriptorIndex := 1117, attributes := #[] }, { accessFlags := 24, nameIndex := 40, descriptorIndex := 26, attributes := #[] }, { accessFlags := 26, nameIndex := 1101, descriptorIndex := 1102, attributes := #[] }, { accessFlags := 26, nameIndex := 1121, descriptorIndex := 1122, attributes := #[] }, { accessFlags := 25, nameIndex := 599, descriptorIndex := 600, attributes := #[] }, { accessFlags := 24, nameIndex := 1125, descriptorIndex := 18, attributes := #[] }, { accessFlags := 24, nameIndex := 1127, descriptorIndex := 18, attributes := #[] }])
  fields := #[{ name := "value", type := (.array .byte), accessFlags := 18, slot := 0, constantValue := 0 }, { name := "coder", type := .byte, accessFlags := 18, slot := 1, constantValue := 0 }, { name := "hash", type := .int, accessFlags := 2, slot := 2, constantValue := 0 }, { name := "hashIsZero", type := .boolean, accessFlags := 2, slot := 3, constantValue := 0 }, { name := "serialVersionUID", type := .long, accessFlags := 26, slot := 0, constantValue := 0 }, { name := "COMPACT_STRINGS", type := .boolean, accessFlags := 24, slot := 1, constantValue := 0 }, { name := "serialPersistentFields", type := (.array (.object "java/io/ObjectStreamField")), accessFlags := 26, slot := 2, constantValue := 0 }, { name := "REPL", type := .char, accessFlags := 26, slot := 3, constantValue := 0 }, { name := "CASE_INSENSITIVE_ORDER", type := (.object "java/util/Comparator"), accessFlags := 25, slot := 4, constantValue := 0 }, { name := "LATIN1", type := .byte, accessFlags := 24, slot := 5, constantValue := 0 }, { name := "UTF16", type := .byte, accessFlags := 24, slot := 6, constantValue := 0 }]
  methods := #[k7m0, k7m1, k7m2, k7m3, k7m4, k7m5]
  instanceTypes := #[(.array .byte), .byte, .int, .boolean]
  staticTypes := #[.long, .boolean, (.array (.object "java/io/ObjectStreamField")), .char, (.object "java/util/Comparator"), .byte, .byte]
  resolved := Array.replicate 1451 none
  statics := some 0 }

def pool8 : Array CpInfo := pool [(3, .methodref 4 5), (0, .class_ 6), (0, .nameAndType 7 8), (0, u "java/lang/Object"), (0, u "<init>"), (0, u "()V"), (0, .methodref 10 11), (0, .class_ 12), (0, .nameAndType 13 8), (0, u "com/example/plantilla/plantilla/ScriptText"), (0, u "reset"), (4, .fieldref 19 20), (0, .class_ 21), (0, .nameAndType 22 23), (0, u "com/example/plantilla/plantilla/ScriptText$Mode"), (0, u "CODE"), (0, u "Lcom/example/plantilla/plantilla/ScriptText$Mode;"), (0, .fieldref 10 25), (0, .nameAndType 26 23), (0, u "mode"), (0, .fieldref 10 28), (0, .nameAndType 29 30), (0, u "regexNext"), (0, u "Z"), (0, .class_ 32), (0, u "com/example/plantilla/plantilla/PackedName"), (0, .fieldref 10 34), (0, .nameAndType 35 36), (0, u "word"), (0, u "J"), (0, .fieldref 10 38), (0, .nameAndType 39 30), (0, u "backslash"), (0, .fieldref 10 41), (0, .nameAndType 42 43), (0, u "braces"), (0, u "I"), (0, .fieldref 10 45), (0, .nameAndType 46 36), (0, u "substitutions"), (0, .fieldref 10 48), (0, .nameAndType 49 43), (0, u "commentStart"), (9, u "read"), (0, u "(Ljava/lang/String;)V"), (0, .methodref 62 63), (0, .class_ 64), (0, .nameAndType 65 66), (0, u "java/lang/String"), (0, u "length"), (0, u "()I"), (0, .methodref 62 68), (0, .nameAndType 69 70), (0, u "charAt"), (0, u "(I)C"), (0, .methodref 10 72), (0, .nameAndType 59 73), (0, u "(C)V"), (0, .methodref 19 75), (0, .nameAndType 76 66), (0, u "ordinal"), (0, .methodref 10 78), (0, .nameAndType 79 73), (0, u "readCode"), (3, .methodref 10 84), (0, .nameAndType 85 73), (0, u "readString"), (0, .methodref 10 87), (0, .nameAndType 88 73), (0, u "readTemplate"), (0, .methodref 10 90), (0, .nameAndType 91 73), (0, u "readAfterDollar"), (6, u "(C)Z"), (21, .string 121), (0, u "<!--"), (0, .methodref 10 123), (0, .nameAndType 124 98), (0, u "isWordCharacter"), (0, .methodref 31 126), (0, .nameAndType 127 128), (0, u "appended"), (0, u "(JC)J"), (0, .long 18446744073709551615), (1, .fieldref 10 132), (0, .nameAndType 133 134), (0, u "BEFORE_EXPRESSIONS"), (0, u "[J"), (0, .methodref 31 136), (0, .nameAndType 137 138), (0, u "isOneOf"), (0, u "(J[J)Z"), (0, .methodref 10 140), (0, .nameAndType 141 98), (0, u "isSpace"), (0, .methodref 10 143), (0, .nameAndType 144 73), (0, u "readPunctuator"), (0, .fieldref 19 146), (0, .nameAndType 147 23), (0, u "SINGLE_QUOTED"), (3, .fieldref 19 152), (0, .nameAndType 153 23), (0, u "TEMPLATE"), (0, .methodref 10 155), (0, .nameAndType 156 157), (0, u "openBrace"), (0, u "(Z)V"), (0, .methodref 10 159), (0, .nameAndType 160 8), (0, u "closeBrace"), (6, .methodref 10 168), (0, .nameAndType 169 8), (0, u "endLiteral"), (0, .fieldref 19 171), (0, .nameAndType 172 23), (0, u "TEMPLATE_DOLLAR"), (11, .integer 65279), (32, u "DEEPEST"), (2, u "HTML_COMMENT"), (0, u "Ljava/lang/String;"), (2, u "sameAs"), (0, u "(Lcom/example/plantilla/plantilla/ScriptText;)Z")] 22

def k8c0 : Code := { maxStack := 1, maxLocals := 1, code := prog_37_method_1_code, exceptionTable := #[], attributes := #[] }
def k8m0 : Method := { name := "<init>", desc := "()V", sig := { parameters := [], returnType := none }, accessFlags := 0, code := some k8c0 }
def k8c1 : Code := { maxStack := 3, maxLocals := 1, code := prog_37_method_3_code, exceptionTable := #[], attributes := #[] }
def k8m1 : Method := { name := "reset", desc := "()V", sig := { parameters := [], returnType := none }, accessFlags := 0, code := some k8c1 }
def k8c2 : Code := { maxStack := 4, maxLocals := 2, code := prog_37_method_4_code, exceptionTable := #[], attributes := #[] }
def k8m2 : Method := { name := "sameAs", desc := "(Lcom/example/plantilla/plantilla/ScriptText;)Z", sig := { parameters := [(.object "com/example/plantilla/plantilla/ScriptText")], returnType := some .boolean }, accessFlags := 0, code := some k8c2 }
def k8c3 : Code := { maxStack := 3, maxLocals := 3, code := prog_37_method_8_code, exceptionTable := #[], attributes := #[] }
def k8m3 : Method := { name := "read", desc := "(Ljava/lang/String;)V", sig := { parameters := [(.object "java/lang/String")], returnType := none }, accessFlags := 0, code := some k8c3 }
def k8c4 : Code := { maxStack := 3, maxLocals := 2, code := prog_37_method_9_code, exceptionTable := #[], attributes := #[] }
def k8m4 : Method := { name := "read", desc := "(C)V", sig := { parameters := [.char], returnType := none }, accessFlags := 0, code := some k8c4 }
def k8c5 : Code := { maxStack := 4, maxLocals := 3, code := prog_37_method_10_code, exceptionTable := #[], attributes := #[] }
def k8m5 : Method := { name := "readCode", desc := "(C)V", sig := { parameters := [.char], returnType := none }, accessFlags := 2, code := some k8c5 }
def k8c6 : Code := { maxStack := 2, maxLocals := 2, code := prog_37_method_11_code, exceptionTable := #[], attributes := #[] }
def k8m6 : Method := { name := "readPunctuator", desc := "(C)V", sig := { parameters := [.char], returnType := none }, accessFlags := 2, code := some k8c6 }
def k8c7 : Code := { maxStack := 3, maxLocals := 2, code := prog_37_method_13_code, exceptionTable := #[], attributes := #[] }
def k8m7 : Method := { name := "readString", desc := "(C)V", sig := { parameters := [.char], returnType := none }, accessFlags := 2, code := some k8c7 }
def k8c8 : Code := { maxStack := 2, maxLocals := 2, code := prog_37_method_14_code, exceptionTable := #[], attributes := #[] }
def k8m8 : Method := { name := "readTemplate", desc := "(C)V", sig := { parameters := [.char], returnType := none }, accessFlags := 2, code := some k8c8 }
def k8c9 : Code := { maxStack := 2, maxLocals := 2, code := prog_37_method_15_code, exceptionTable := #[], attributes := #[] }
def k8m9 : Method := { name := "readAfterDollar", desc := "(C)V", sig := { parameters := [.char], returnType := none }, accessFlags := 2, code := some k8c9 }
def k8c10 : Code := { maxStack := 2, maxLocals := 1, code := prog_37_method_18_code, exceptionTable := #[], attributes := #[] }
def k8m10 : Method := { name := "endLiteral", desc := "()V", sig := { parameters := [], returnType := none }, accessFlags := 2, code := some k8c10 }
def k8c11 : Code := { maxStack := 7, maxLocals := 4, code := prog_37_method_19_code, exceptionTable := #[], attributes := #[] }
def k8m11 : Method := { name := "openBrace", desc := "(Z)V", sig := { parameters := [.boolean], returnType := none }, accessFlags := 2, code := some k8c11 }
def k8c12 : Code := { maxStack := 7, maxLocals := 4, code := prog_37_method_20_code, exceptionTable := #[], attributes := #[] }
def k8m12 : Method := { name := "closeBrace", desc := "()V", sig := { parameters := [], returnType := none }, accessFlags := 2, code := some k8c12 }
def k8c13 : Code := { maxStack := 2, maxLocals := 2, code := prog_37_method_21_code, exceptionTable := #[], attributes := #[] }
def k8m13 : Method := { name := "isWordCharacter", desc := "(C)Z", sig := { parameters := [.char], returnType := some .boolean }, accessFlags := 10, code := some k8c13 }
def k8c14 : Code := { maxStack := 2, maxLocals := 2, code := prog_37_method_22_code, exceptionTable := #[], attributes := #[] }
def k8m14 : Method := { name := "isSpace", desc := "(C)Z", sig := { parameters := [.char], returnType := some .boolean }, accessFlags := 10, code := some k8c14 }
/-- com/example/plantilla/plantilla/ScriptText -/
def k8 : Class := { plain "com/example/plantilla/plantilla/ScriptText" (some 0) with
  accessFlags := 48
  interfaces := #[]
  cf := some (fileOf pool8 10 #[.nestMembers #[19]] #[{ accessFlags := 0, nameIndex := 7, descriptorIndex := 8, attributes := #[] }, { accessFlags := 0, nameIndex := 13, descriptorIndex := 8, attributes := #[] }, { accessFlags := 0, nameIndex := 224, descriptorIndex := 225, attributes := #[] }, { accessFlags := 0, nameIndex := 59, descriptorIndex := 60, attributes := #[] }, { accessFlags := 0, nameIndex := 59, descriptorIndex := 73, attributes := #[] }, { accessFlags := 2, nameIndex := 79, descriptorIndex := 73, attributes := #[] }, { accessFlags := 2, nameIndex := 144, descriptorIndex := 73, attributes := #[] }, { accessFlags := 2, nameIndex := 85, descriptorIndex := 73, attributes := #[] }, { accessFlags := 2, nameIndex := 88, descriptorIndex := 73, attributes := #[] }, { accessFlags := 2, nameIndex := 91, descriptorIndex := 73, attributes := #[] }, { accessFlags := 2, nameIndex := 169, descriptorIndex := 8, attributes := #[] }, { accessFlags := 2, nameIndex := 156, descriptorIndex := 157, attributes := #[] }, { accessFlags := 2, nameIndex := 160, descriptorIndex := 8, attributes := #[] }, { accessFlags := 10, nameIndex := 124, descriptorIndex := 98, attributes := #[] }, { accessFlags := 10, nameIndex := 141, descriptorIndex := 98, attributes := #[] }] 48 4 #[] #[{ accessFlags := 24, nameIndex := 217, descriptorIndex := 43, attributes := #[] }, { accessFlags := 26, nameIndex := 133, descriptorIndex := 134, attributes := #[] }, { accessFlags := 26, nameIndex := 220, descriptorIndex := 221, attributes := #[] }, { accessFlags := 2, nameIndex := 26, descriptorIndex := 23, attributes := #[] }, { accessFlags := 2, nameIndex := 29, descriptorIndex := 30, attributes := #[] }, { accessFlags := 2, nameIndex := 35, descriptorIndex := 36, attributes := #[] }, { accessFlags := 2, nameIndex := 39, descriptorIndex := 30, attributes := #[] }, { accessFlags := 2, nameIndex := 42, descriptorIndex := 43, attributes := #[] }, { accessFlags := 2, nameIndex := 46, descriptorIndex := 36, attributes := #[] }, { accessFlags := 2, nameIndex := 49, descriptorIndex := 43, attributes := #[] }])
  fields := #[{ name := "DEEPEST", type := .int, accessFlags := 24, slot := 0, constantValue := 0 }, { name := "BEFORE_EXPRESSIONS", type := (.array .long), accessFlags := 26, slot := 1, constantValue := 0 }, { name := "HTML_COMMENT", type := (.object "java/lang/String"), accessFlags := 26, slot := 2, constantValue := 0 }, { name := "mode", type := (.object "com/example/plantilla/plantilla/ScriptText$Mode"), accessFlags := 2, slot := 0, constantValue := 0 }, { name := "regexNext", type := .boolean, accessFlags := 2, slot := 1, constantValue := 0 }, { name := "word", type := .long, accessFlags := 2, slot := 2, constantValue := 0 }, { name := "backslash", type := .boolean, accessFlags := 2, slot := 3, constantValue := 0 }, { name := "braces", type := .int, accessFlags := 2, slot := 4, constantValue := 0 }, { name := "substitutions", type := .long, accessFlags := 2, slot := 5, constantValue := 0 }, { name := "commentStart", type := .int, accessFlags := 2, slot := 6, constantValue := 0 }]
  methods := #[k8m0, k8m1, k8m2, k8m3, k8m4, k8m5, k8m6, k8m7, k8m8, k8m9, k8m10, k8m11, k8m12, k8m13, k8m14]
  instanceTypes := #[(.object "com/example/plantilla/plantilla/ScriptText$Mode"), .boolean, .long, .boolean, .int, .long, .int]
  staticTypes := #[.int, (.array .long), (.object "java/lang/String")]
  resolved := Array.replicate 248 none
  statics := some 1 }

def pool9 : Array CpInfo := pool [(2, .class_ 4), (1, u "java/lang/Enum"), (0, u "name"), (0, u "Ljava/lang/String;"), (0, .fieldref 2 8), (0, .nameAndType 9 10), (0, u "ordinal"), (0, u "I"), (1, .class_ 14), (1, u "java/lang/Object"), (4, u "hash"), (86, .class_ 108), (1, u "java/lang/Enum$EnumDesc"), (2, .class_ 112), (0, u "java/lang/constant/Constable"), (0, .class_ 114), (0, u "java/lang/Comparable"), (0, .class_ 116), (0, u "java/io/Serializable"), (9, u "()I")] 77

def k9c0 : Code := { maxStack := 1, maxLocals := 1, code := jdk_37_method_2_code, exceptionTable := #[], attributes := #[] }
def k9m0 : Method := { name := "ordinal", desc := "()I", sig := { parameters := [], returnType := some .int }, accessFlags := 17, code := some k9c0 }
/-- java/lang/Enum -/
def k9 : Class := { plain "java/lang/Enum" (some 0) with
  accessFlags := 1057
  interfaces := #[5, 3, 2]
  cf := some (fileOf pool9 2 #[.nestMembers #[106]] #[{ accessFlags := 17, nameIndex := 9, descriptorIndex := 126, attributes := #[] }] 1057 12 #[111, 113, 115] #[{ accessFlags := 18, nameIndex := 5, descriptorIndex := 6, attributes := #[] }, { accessFlags := 18, nameIndex := 9, descriptorIndex := 10, attributes := #[] }, { accessFlags := 2, nameIndex := 19, descriptorIndex := 10, attributes := #[] }])
  fields := #[{ name := "name", type := (.object "java/lang/String"), accessFlags := 18, slot := 0, constantValue := 0 }, { name := "ordinal", type := .int, accessFlags := 18, slot := 1, constantValue := 0 }, { name := "hash", type := .int, accessFlags := 2, slot := 2, constantValue := 0 }]
  methods := #[k9m0]
  instanceTypes := #[(.object "java/lang/String"), .int, .int]
  staticTypes := #[]
  resolved := Array.replicate 204 none
  statics := none }

def pool10 : Array CpInfo := pool [(1, .class_ 2), (0, u "com/example/plantilla/plantilla/ScriptText$Mode"), (2, u "CODE"), (0, u "Lcom/example/plantilla/plantilla/ScriptText$Mode;"), (2, u "SLASH"), (2, u "SINGLE_QUOTED"), (2, u "DOUBLE_QUOTED"), (2, u "TEMPLATE"), (2, u "TEMPLATE_DOLLAR"), (2, u "REGEX"), (2, u "REGEX_CLASS"), (2, u "LINE_COMMENT"), (2, u "BLOCK_COMMENT"), (2, u "BLOCK_COMMENT_STAR"), (2, u "LOST"), (2, u "$VALUES"), (0, u "[Lcom/example/plantilla/plantilla/ScriptText$Mode;"), (6, .class_ 52), (1, u "java/lang/Enum"), (35, .class_ 89), (0, u "com/example/plantilla/plantilla/ScriptText")] 2

/-- com/example/plantilla/plantilla/ScriptText$Mode -/
def k10 : Class := { plain "com/example/plantilla/plantilla/ScriptText$Mode" (some 9) with
  accessFlags := 16432
  interfaces := #[]
  cf := some (fileOf pool10 1 #[.nestHost 88] #[] 16432 50 #[] #[{ accessFlags := 16409, nameIndex := 5, descriptorIndex := 6, attributes := #[] }, { accessFlags := 16409, nameIndex := 9, descriptorIndex := 6, attributes := #[] }, { accessFlags := 16409, nameIndex := 12, descriptorIndex := 6, attributes := #[] }, { accessFlags := 16409, nameIndex := 15, descriptorIndex := 6, attributes := #[] }, { accessFlags := 16409, nameIndex := 18, descriptorIndex := 6, attributes := #[] }, { accessFlags := 16409, nameIndex := 21, descriptorIndex := 6, attributes := #[] }, { accessFlags := 16409, nameIndex := 24, descriptorIndex := 6, attributes := #[] }, { accessFlags := 16409, nameIndex := 27, descriptorIndex := 6, attributes := #[] }, { accessFlags := 16409, nameIndex := 30, descriptorIndex := 6, attributes := #[] }, { accessFlags := 16409, nameIndex := 33, descriptorIndex := 6, attributes := #[] }, { accessFlags := 16409, nameIndex := 36, descriptorIndex := 6, attributes := #[] }, { accessFlags := 16409, nameIndex := 39, descriptorIndex := 6, attributes := #[] }, { accessFlags := 4122, nameIndex := 42, descriptorIndex := 43, attributes := #[] }])
  fields := #[{ name := "CODE", type := (.object "com/example/plantilla/plantilla/ScriptText$Mode"), accessFlags := 16409, slot := 0, constantValue := 0 }, { name := "SLASH", type := (.object "com/example/plantilla/plantilla/ScriptText$Mode"), accessFlags := 16409, slot := 1, constantValue := 0 }, { name := "SINGLE_QUOTED", type := (.object "com/example/plantilla/plantilla/ScriptText$Mode"), accessFlags := 16409, slot := 2, constantValue := 0 }, { name := "DOUBLE_QUOTED", type := (.object "com/example/plantilla/plantilla/ScriptText$Mode"), accessFlags := 16409, slot := 3, constantValue := 0 }, { name := "TEMPLATE", type := (.object "com/example/plantilla/plantilla/ScriptText$Mode"), accessFlags := 16409, slot := 4, constantValue := 0 }, { name := "TEMPLATE_DOLLAR", type := (.object "com/example/plantilla/plantilla/ScriptText$Mode"), accessFlags := 16409, slot := 5, constantValue := 0 }, { name := "REGEX", type := (.object "com/example/plantilla/plantilla/ScriptText$Mode"), accessFlags := 16409, slot := 6, constantValue := 0 }, { name := "REGEX_CLASS", type := (.object "com/example/plantilla/plantilla/ScriptText$Mode"), accessFlags := 16409, slot := 7, constantValue := 0 }, { name := "LINE_COMMENT", type := (.object "com/example/plantilla/plantilla/ScriptText$Mode"), accessFlags := 16409, slot := 8, constantValue := 0 }, { name := "BLOCK_COMMENT", type := (.object "com/example/plantilla/plantilla/ScriptText$Mode"), accessFlags := 16409, slot := 9, constantValue := 0 }, { name := "BLOCK_COMMENT_STAR", type := (.object "com/example/plantilla/plantilla/ScriptText$Mode"), accessFlags := 16409, slot := 10, constantValue := 0 }, { name := "LOST", type := (.object "com/example/plantilla/plantilla/ScriptText$Mode"), accessFlags := 16409, slot := 11, constantValue := 0 }, { name := "$VALUES", type := (.array (.object "com/example/plantilla/plantilla/ScriptText$Mode")), accessFlags := 4122, slot := 12, constantValue := 0 }]
  methods := #[]
  instanceTypes := #[(.object "java/lang/String"), .int, .int]
  staticTypes := #[(.object "com/example/plantilla/plantilla/ScriptText$Mode"), (.object "com/example/plantilla/plantilla/ScriptText$Mode"), (.object "com/example/plantilla/plantilla/ScriptText$Mode"), (.object "com/example/plantilla/plantilla/ScriptText$Mode"), (.object "com/example/plantilla/plantilla/ScriptText$Mode"), (.object "com/example/plantilla/plantilla/ScriptText$Mode"), (.object "com/example/plantilla/plantilla/ScriptText$Mode"), (.object "com/example/plantilla/plantilla/ScriptText$Mode"), (.object "com/example/plantilla/plantilla/ScriptText$Mode"), (.object "com/example/plantilla/plantilla/ScriptText$Mode"), (.object "com/example/plantilla/plantilla/ScriptText$Mode"), (.object "com/example/plantilla/plantilla/ScriptText$Mode"), (.array (.object "com/example/plantilla/plantilla/ScriptText$Mode"))]
  resolved := Array.replicate 92 none
  statics := some 2 }

def pool11 : Array CpInfo := pool [(1, .class_ 2), (0, u "java/lang/String"), (1, .class_ 6), (1, u "java/lang/Object"), (0, u "<init>"), (0, u "()V"), (0, .methodref 1 10), (0, .nameAndType 11 12), (0, u "checkIndex"), (0, u "(II)V"), (1, .class_ 16), (1, u "java/lang/StringLatin1"), (36, u "([BI)C"), (67, u "$assertionsDisabled"), (0, u "Z"), (98, .class_ 223), (1, u "java/lang/StringLatin1$LinesSpliterator"), (28, u "charAt"), (137, .class_ 391), (0, u "java/lang/StringLatin1$CharsSpliterator")] 3

def k11m0 : Method := { name := "<init>", desc := "()V", sig := { parameters := [], returnType := none }, accessFlags := 0, code := none }
def k11c1 : Code := { maxStack := 2, maxLocals := 2, code := jdk_43_method_2_code, exceptionTable := #[], attributes := #[] }
def k11m1 : Method := { name := "charAt", desc := "([BI)C", sig := { parameters := [(.array .byte), .int], returnType := some .char }, accessFlags := 9, code := some k11c1 }
/-- java/lang/StringLatin1 -/
def k11 : Class := { plain "java/lang/StringLatin1" (some 0) with
  accessFlags := 48
  interfaces := #[]
  cf := some (fileOf pool11 14 #[.nestMembers #[390, 221]] #[{ accessFlags := 0, nameIndex := 7, descriptorIndex := 8, attributes := #[] }, { accessFlags := 9, nameIndex := 252, descriptorIndex := 53, attributes := #[] }] 48 4 #[] #[{ accessFlags := 4120, nameIndex := 121, descriptorIndex := 122, attributes := #[] }])
  fields := #[{ name := "$assertionsDisabled", type := .boolean, accessFlags := 4120, slot := 0, constantValue := 0 }]
  methods := #[k11m0, k11m1]
  instanceTypes := #[]
  staticTypes := #[.boolean]
  resolved := Array.replicate 395 none
  statics := none }

def pool12 : Array CpInfo := pool [(2, .class_ 4), (1, u "java/lang/Object"), (0, u "<init>"), (0, u "()V"), (17, .class_ 26), (1, u "jdk/internal/util/Preconditions"), (6, u "checkIndex"), (21, .class_ 56), (0, u "jdk/internal/util/Preconditions$4"), (57, .class_ 115), (0, u "jdk/internal/util/Preconditions$1"), (7, u "SIOOBE_FORMATTER"), (0, u "Ljava/util/function/BiFunction;"), (0, .class_ 126), (0, u "jdk/internal/util/Preconditions$2"), (3, u "AIOOBE_FORMATTER"), (0, .class_ 132), (0, u "jdk/internal/util/Preconditions$3"), (3, u "IOOBE_FORMATTER"), (41, u "(IILjava/util/function/BiFunction;)I")] 15

def k12m0 : Method := { name := "<init>", desc := "()V", sig := { parameters := [], returnType := none }, accessFlags := 1, code := none }
def k12c1 : Code := { maxStack := 3, maxLocals := 3, code := jdk_41_method_11_code, exceptionTable := #[], attributes := #[] }
def k12m1 : Method := { name := "checkIndex", desc := "(IILjava/util/function/BiFunction;)I", sig := { parameters := [.int, .int, (.object "java/util/function/BiFunction")], returnType := some .int }, accessFlags := 9, code := some k12c1 }
/-- jdk/internal/util/Preconditions -/
def k12 : Class := { plain "jdk/internal/util/Preconditions" (some 0) with
  accessFlags := 33
  interfaces := #[]
  cf := some (fileOf pool12 24 #[.nestMembers #[55, 131, 125, 114]] #[{ accessFlags := 1, nameIndex := 5, descriptorIndex := 6, attributes := #[] }, { accessFlags := 9, nameIndex := 33, descriptorIndex := 178, attributes := #[] }] 33 2 #[] #[{ accessFlags := 25, nameIndex := 123, descriptorIndex := 124, attributes := #[] }, { accessFlags := 25, nameIndex := 130, descriptorIndex := 124, attributes := #[] }, { accessFlags := 25, nameIndex := 136, descriptorIndex := 124, attributes := #[] }])
  fields := #[{ name := "SIOOBE_FORMATTER", type := (.object "java/util/function/BiFunction"), accessFlags := 25, slot := 0, constantValue := 0 }, { name := "AIOOBE_FORMATTER", type := (.object "java/util/function/BiFunction"), accessFlags := 25, slot := 1, constantValue := 0 }, { name := "IOOBE_FORMATTER", type := (.object "java/util/function/BiFunction"), accessFlags := 25, slot := 2, constantValue := 0 }]
  methods := #[k12m0, k12m1]
  instanceTypes := #[]
  staticTypes := #[(.object "java/util/function/BiFunction"), (.object "java/util/function/BiFunction"), (.object "java/util/function/BiFunction")]
  resolved := Array.replicate 194 none
  statics := some 3 }

def pool13 : Array CpInfo := pool [(2, .class_ 4), (1, u "java/lang/Object"), (0, u "<init>"), (0, u "()V"), (0, .methodref 8 9), (0, .class_ 10), (0, .nameAndType 11 12), (0, u "com/example/plantilla/plantilla/PackedName"), (0, u "codeOf"), (0, u "(C)I"), (0, .long 18014398509481984), (1, .long 18446744073709551615), (13, u "appended"), (0, u "(JC)J"), (4, u "LONGEST"), (0, u "I"), (2, u "OTHER"), (0, u "J"), (0, u "EMPTY"), (5, u "isOneOf"), (0, u "(J[J)Z")] 6

def k13m0 : Method := { name := "<init>", desc := "()V", sig := { parameters := [], returnType := none }, accessFlags := 2, code := none }
def k13c1 : Code := { maxStack := 4, maxLocals := 6, code := prog_35_method_2_code, exceptionTable := #[], attributes := #[] }
def k13m1 : Method := { name := "appended", desc := "(JC)J", sig := { parameters := [.long, .char], returnType := some .long }, accessFlags := 8, code := some k13c1 }
def k13c2 : Code := { maxStack := 4, maxLocals := 8, code := prog_35_method_4_code, exceptionTable := #[], attributes := #[] }
def k13m2 : Method := { name := "isOneOf", desc := "(J[J)Z", sig := { parameters := [.long, (.array .long)], returnType := some .boolean }, accessFlags := 136, code := some k13c2 }
def k13c3 : Code := { maxStack := 2, maxLocals := 2, code := prog_35_method_5_code, exceptionTable := #[], attributes := #[] }
def k13m3 : Method := { name := "codeOf", desc := "(C)I", sig := { parameters := [.char], returnType := some .int }, accessFlags := 10, code := some k13c3 }
/-- com/example/plantilla/plantilla/PackedName -/
def k13 : Class := { plain "com/example/plantilla/plantilla/PackedName" (some 0) with
  accessFlags := 48
  interfaces := #[]
  cf := some (fileOf pool13 8 #[] #[{ accessFlags := 2, nameIndex := 5, descriptorIndex := 6, attributes := #[] }, { accessFlags := 8, nameIndex := 29, descriptorIndex := 30, attributes := #[] }, { accessFlags := 136, nameIndex := 47, descriptorIndex := 48, attributes := #[] }, { accessFlags := 10, nameIndex := 11, descriptorIndex := 12, attributes := #[] }] 48 2 #[] #[{ accessFlags := 24, nameIndex := 35, descriptorIndex := 36, attributes := #[] }, { accessFlags := 24, nameIndex := 39, descriptorIndex := 40, attributes := #[] }, { accessFlags := 24, nameIndex := 41, descriptorIndex := 40, attributes := #[] }])
  fields := #[{ name := "LONGEST", type := .int, accessFlags := 24, slot := 0, constantValue := 0 }, { name := "OTHER", type := .long, accessFlags := 24, slot := 1, constantValue := 0 }, { name := "EMPTY", type := .long, accessFlags := 24, slot := 2, constantValue := 0 }]
  methods := #[k13m0, k13m1, k13m2, k13m3]
  instanceTypes := #[]
  staticTypes := #[.int, .long, .long]
  resolved := Array.replicate 55 none
  statics := none }

def pool14 : Array CpInfo := pool [(9, u "<init>"), (6, .class_ 18), (1, u "java/lang/Object"), (0, u "()V"), (1, .class_ 23), (1, u "jdk/internal/util/ArraysSupport"), (0, u "LOG2_ARRAY_LONG_INDEX_SCALE"), (0, u "I"), (2, u "U"), (0, u "Ljdk/internal/misc/Unsafe;"), (8, u "BIG_ENDIAN"), (0, u "Z"), (8, u "LOG2_BYTE_BIT_SIZE"), (4, u "LOG2_ARRAY_INT_INDEX_SCALE"), (54, u "JLA"), (0, u "Ljdk/internal/access/JavaLangAccess;"), (11, u "LOG2_ARRAY_BOOLEAN_INDEX_SCALE"), (9, u "LOG2_ARRAY_BYTE_INDEX_SCALE"), (5, u "LOG2_ARRAY_CHAR_INDEX_SCALE"), (5, u "LOG2_ARRAY_SHORT_INDEX_SCALE"), (18, u "LOG2_ARRAY_FLOAT_INDEX_SCALE"), (24, u "LOG2_ARRAY_DOUBLE_INDEX_SCALE"), (89, u "T_BOOLEAN"), (2, u "T_CHAR"), (1, u "T_FLOAT"), (1, u "T_DOUBLE"), (1, u "T_BYTE"), (1, u "T_SHORT"), (1, u "T_INT"), (1, u "T_LONG"), (1, u "SOFT_MAX_ARRAY_LENGTH")] 83

def k14m0 : Method := { name := "<init>", desc := "()V", sig := { parameters := [], returnType := none }, accessFlags := 2, code := none }
/-- jdk/internal/util/ArraysSupport -/
def k14 : Class := { plain "jdk/internal/util/ArraysSupport" (some 0) with
  accessFlags := 33
  interfaces := #[]
  cf := some (fileOf pool14 21 #[] #[{ accessFlags := 2, nameIndex := 9, descriptorIndex := 19, attributes := #[] }] 33 16 #[] #[{ accessFlags := 24, nameIndex := 28, descriptorIndex := 29, attributes := #[] }, { accessFlags := 26, nameIndex := 38, descriptorIndex := 39, attributes := #[] }, { accessFlags := 25, nameIndex := 121, descriptorIndex := 25, attributes := #[] }, { accessFlags := 25, nameIndex := 131, descriptorIndex := 25, attributes := #[] }, { accessFlags := 25, nameIndex := 137, descriptorIndex := 25, attributes := #[] }, { accessFlags := 25, nameIndex := 143, descriptorIndex := 25, attributes := #[] }, { accessFlags := 25, nameIndex := 53, descriptorIndex := 25, attributes := #[] }, { accessFlags := 25, nameIndex := 24, descriptorIndex := 25, attributes := #[] }, { accessFlags := 25, nameIndex := 162, descriptorIndex := 25, attributes := #[] }, { accessFlags := 25, nameIndex := 187, descriptorIndex := 25, attributes := #[] }, { accessFlags := 26, nameIndex := 48, descriptorIndex := 25, attributes := #[] }, { accessFlags := 25, nameIndex := 277, descriptorIndex := 25, attributes := #[] }, { accessFlags := 25, nameIndex := 280, descriptorIndex := 25, attributes := #[] }, { accessFlags := 25, nameIndex := 282, descriptorIndex := 25, attributes := #[] }, { accessFlags := 25, nameIndex := 284, descriptorIndex := 25, attributes := #[] }, { accessFlags := 25, nameIndex := 286, descriptorIndex := 25, attributes := #[] }, { accessFlags := 25, nameIndex := 288, descriptorIndex := 25, attributes := #[] }, { accessFlags := 25, nameIndex := 290, descriptorIndex := 25, attributes := #[] }, { accessFlags := 25, nameIndex := 292, descriptorIndex := 25, attributes := #[] }, { accessFlags := 26, nameIndex := 108, descriptorIndex := 109, attributes := #[] }, { accessFlags := 25, nameIndex := 294, descriptorIndex := 25, attributes := #[] }])
  fields := #[{ name := "U", type := (.object "jdk/internal/misc/Unsafe"), accessFlags := 24, slot := 0, constantValue := 0 }, { name := "BIG_ENDIAN", type := .boolean, accessFlags := 26, slot := 1, constantValue := 0 }, { name := "LOG2_ARRAY_BOOLEAN_INDEX_SCALE", type := .int, accessFlags := 25, slot := 2, constantValue := 0 }, { name := "LOG2_ARRAY_BYTE_INDEX_SCALE", type := .int, accessFlags := 25, slot := 3, constantValue := 0 }, { name := "LOG2_ARRAY_CHAR_INDEX_SCALE", type := .int, accessFlags := 25, slot := 4, constantValue := 0 }, { name := "LOG2_ARRAY_SHORT_INDEX_SCALE", type := .int, accessFlags := 25, slot := 5, constantValue := 0 }, { name := "LOG2_ARRAY_INT_INDEX_SCALE", type := .int, accessFlags := 25, slot := 6, constantValue := 0 }, { name := "LOG2_ARRAY_LONG_INDEX_SCALE", type := .int, accessFlags := 25, slot := 7, constantValue := 0 }, { name := "LOG2_ARRAY_FLOAT_INDEX_SCALE", type := .int, accessFlags := 25, slot := 8, constantValue := 0 }, { name := "LOG2_ARRAY_DOUBLE_INDEX_SCALE", type := .int, accessFlags := 25, slot := 9, constantValue := 0 }, { name := "LOG2_BYTE_BIT_SIZE", type := .int, accessFlags := 26, slot := 10, constantValue := 0 }, { name := "T_BOOLEAN", type := .int, accessFlags := 25, slot := 11, constantValue := 0 }, { name := "T_CHAR", type := .int, accessFlags := 25, slot := 12, constantValue := 0 }, { name := "T_FLOAT", type := .int, accessFlags := 25, slot := 13, constantValue := 0 }, { name := "T_DOUBLE", type := .int, accessFlags := 25, slot := 14, constantValue := 0 }, { name := "T_BYTE", type := .int, accessFlags := 25, slot := 15, constantValue := 0 }, { name := "T_SHORT", type := .int, accessFlags := 25, slot := 16, constantValue := 0 }, { name := "T_INT", type := .int, accessFlags := 25, slot := 17, constantValue := 0 }, { name := "T_LONG", type := .int, accessFlags := 25, slot := 18, constantValue := 0 }, { name := "JLA", type := (.object "jdk/internal/access/JavaLangAccess"), accessFlags := 26, slot := 19, constantValue := 0 }, { name := "SOFT_MAX_ARRAY_LENGTH", type := .int, accessFlags := 25, slot := 20, constantValue := 0 }]
  methods := #[k14m0]
  instanceTypes := #[]
  staticTypes := #[(.object "jdk/internal/misc/Unsafe"), .boolean, .int, .int, .int, .int, .int, .int, .int, .int, .int, .int, .int, .int, .int, .int, .int, .int, .int, (.object "jdk/internal/access/JavaLangAccess"), .int]
  resolved := Array.replicate 378 none
  statics := none }

def pool15 : Array CpInfo := pool [(1, u "java/lang/Cloneable"), (0, .class_ 1), (0, u "java/lang/Object"), (0, .class_ 3)] 3

/-- java/lang/Cloneable -/
def k15 : Class := { plain "java/lang/Cloneable" (some 0) with
  accessFlags := 1537
  interfaces := #[]
  cf := some (fileOf pool15 2 #[] #[] 1537 4 #[] #[])
  fields := #[]
  methods := #[]
  instanceTypes := #[]
  staticTypes := #[]
  resolved := Array.replicate 8 none
  statics := none }

/-- the primitive byte -/
def k16 : Class := { plain "byte" none with kind := .primitive 'B', accessFlags := 0x411 }
/-- [B -/
def k17 : Class := { plain "[B" (some 0) with kind := .array 16 .byte, interfaces := #[15, 2], accessFlags := 1041 }

/-- the primitive int -/
def k18 : Class := { plain "int" none with kind := .primitive 'I', accessFlags := 0x411 }
/-- [I -/
def k19 : Class := { plain "[I" (some 0) with kind := .array 18 .int, interfaces := #[15, 2], accessFlags := 1041 }

/-- the primitive long -/
def k20 : Class := { plain "long" none with kind := .primitive 'J', accessFlags := 0x411 }
/-- [J -/
def k21 : Class := { plain "[J" (some 0) with kind := .array 20 .long, interfaces := #[15, 2], accessFlags := 1041 }

/-- [Ljava/lang/String; -/
def k22 : Class := { plain "[Ljava/lang/String;" (some 0) with kind := .array 7 (.object "java/lang/String"), interfaces := #[15, 2], accessFlags := 1041 }

def heap : Heap := #[{ cls := 7, slots := #[.long 0, .int 1, .null, .int 0, .null, .int 0, .int 0], vm := .statics 7 },
  { cls := 8, slots := #[.int 0, .ref 8, .null], vm := .statics 8 },
  { cls := 10, slots := #[.ref 4, .null, .ref 5, .null, .ref 6, .ref 7, .null, .null, .null, .null, .null, .null, .null], vm := .statics 10 },
  { cls := 12, slots := #[.null, .null, .null], vm := .statics 12 },
  { cls := 10, slots := #[.null, .int 0, .int 0], vm := .none },
  { cls := 10, slots := #[.null, .int 2, .int 0], vm := .none },
  { cls := 10, slots := #[.null, .int 4, .int 0], vm := .none },
  { cls := 10, slots := #[.null, .int 5, .int 0], vm := .none },
  { cls := 21, slots := #[.long 19416568974, .long 21898482630, .long 166155174841963462, .long 590, .long 966, .long 57687, .long 4382020869, .long 5829188, .long 337716183, .long 791749, .long 271, .long 1361093, .long 421810948, .long 22811220], vm := .none }]
def classes : Array Class := #[k0, k1, k2, k3, k4, k5, k6, k7, k8, k9, k10, k11, k12, k13, k14, k15, k16, k17, k18, k19, k20, k21, k22]
def interned : List (Array UInt16 × Addr) := []
def slotsUsed : Nat := 52
def theMethod : MethodId := ⟨1, 1⟩
def args0 : Array Value := #[.int 5, .int 7]
def aboutOver (below : List Frame) : State where
  vm := { classes := classes, interned := interned.toArray }
  heap := heap
  slotsUsed := slotsUsed
  threads := #[{ frames := .invoking theMethod args0 :: below }]
def below0 : List Frame := [.native { method := ⟨0, 0⟩, args := #[] }]
def about1 : State := aboutOver below0
def p0 : Program := .bare "" "" ""
def e0 : Env := launch0.env 0 0 0
theorem w_frames : about1.frames = Frame.invoking theMethod args0 :: below0 := rfl
set_option maxRecDepth 65536 in
theorem w_args : argsFit about1.vm theMethod args0 = true := by decide +kernel
set_option maxRecDepth 65536 in
theorem w_heap : heapFits about1 = true := by decide +kernel
set_option maxRecDepth 65536 in
theorem w_runnable : about1.curStatus? = some .runnable := by decide +kernel
set_option maxRecDepth 65536 in
theorem w_alone : about1.alone = true := by decide +kernel
set_option maxRecDepth 65536 in
theorem w_named : about1.methodNamed? x = some theMethod := by decide +kernel
set_option maxRecDepth 65536 in
theorem w_hears : about1.hears theMethod below0 = true := by decide +kernel
set_option maxRecDepth 65536 in
theorem w_ripe : about1.ripe theMethod args0 below0 = true := by decide +kernel
theorem w_running : about1.status = .running := rfl
set_option maxRecDepth 65536 in
theorem w_room : about1.hasRoom e0.platform room_1 = true :=
  launch0.hasRoom_least _ room_1 (by decide +kernel) (by decide +kernel) (by decide +kernel) (by decide +kernel) (by decide +kernel) (by decide +kernel)
theorem allAtoms_all (ts : List Jvm.Cond) (a : Array Jvm.Value) (st : Jvm.State) : (allAtoms ts).before a st = ts.all (fun c => c.before a st) := by
  induction ts with
  | nil => rfl
  | cons c t ih =>
    show (Jvm.Cond.and c (allAtoms t)).before a st = _
    rw [Jvm.Cond.before_and, ih, List.all_cons]
def words1 : List Jvm.Cond := Jvm.Cond.code x code maxLocals ret :: tables_1
/-- a 'code' word, met by the world's own term for the bytes: nothing is compared byte by byte -/
theorem code_word {y : MethodName} {bytes : ByteArray} {mx : Nat} {rt : Option FieldType} {a : Array Value} {s : State} {m : MethodId} {meth : Method} {c : Code} (h1 : s.methodNamed? y = some m) (h2 : s.vm.method? m = some meth) (h3 : meth.code = some c) (h4 : c.code = bytes)
    (h5 : (c.maxLocals == mx && c.exceptionTable.isEmpty && decide (c.maxStack ≤ mostOperands) && decide (meth.sig.returnType = rt) && !meth.locks && decide (parseMethodDescriptor y.desc = some meth.sig)) = true) : (Jvm.Cond.code y bytes mx rt).before a s = true := by
  simp only [Bool.and_eq_true, beq_iff_eq, Bool.not_eq_true', decide_eq_true_eq] at h5
  obtain ⟨⟨⟨⟨⟨g1, g2⟩, g3⟩, g4⟩, g5⟩, g6⟩ := h5
  simp [Cond.before, Cond.holds, Cond.value, h1, h2, h3, h4, g1, g2, g3, g4, g5, g6]
def isCode : Jvm.Cond → Bool
  | .code _ _ _ _ => true
  | _ => false
theorem all_split {L : List Jvm.Cond} {P : Jvm.Cond → Bool} (h1 : L.all (fun c => isCode c || P c) = true) (h2 : ∀ c ∈ L.filter isCode, P c = true) : L.all P = true := by
  refine List.all_eq_true.mpr fun c hc => ?_
  have h := List.all_eq_true.mp h1 c hc
  rcases Bool.eq_false_or_eq_true (isCode c) with hi | hi
  · exact h2 c (List.mem_filter.mpr ⟨hc, hi⟩)
  · simpa [hi] using h
set_option maxRecDepth 65536 in
theorem w_c0 : (Jvm.Cond.code x code maxLocals ret).before args0 about1 = true := code_word (m := ⟨1, 1⟩) (meth := k1m1) (c := k1c1) (by decide +kernel) rfl rfl rfl (by decide +kernel)
set_option maxRecDepth 65536 in
theorem w_c1 : (Jvm.Cond.code ({ cls := "com/example/plantilla/plantilla/ScriptText", name := "<init>", desc := "()V" } : Jvm.MethodName) prog_37_method_1_code (1 : Nat) (Option.none : Option Jvm.ClassFile.FieldType)).before args0 about1 = true := code_word (m := ⟨8, 0⟩) (meth := k8m0) (c := k8c0) (by decide +kernel) rfl rfl rfl (by decide +kernel)
set_option maxRecDepth 65536 in
theorem w_c2 : (Jvm.Cond.code ({ cls := "java/lang/Object", name := "<init>", desc := "()V" } : Jvm.MethodName) object_method_1_code (1 : Nat) (Option.none : Option Jvm.ClassFile.FieldType)).before args0 about1 = true := code_word (m := ⟨0, 0⟩) (meth := k0m0) (c := k0c0) (by decide +kernel) rfl rfl rfl (by decide +kernel)
set_option maxRecDepth 65536 in
theorem w_c3 : (Jvm.Cond.code ({ cls := "com/example/plantilla/plantilla/ScriptText", name := "reset", desc := "()V" } : Jvm.MethodName) prog_37_method_3_code (1 : Nat) (Option.none : Option Jvm.ClassFile.FieldType)).before args0 about1 = true := code_word (m := ⟨8, 1⟩) (meth := k8m1) (c := k8c1) (by decide +kernel) rfl rfl rfl (by decide +kernel)
set_option maxRecDepth 65536 in
theorem w_c4 : (Jvm.Cond.code ({ cls := "com/example/plantilla/plantilla/ScriptText", name := "read", desc := "(Ljava/lang/String;)V" } : Jvm.MethodName) prog_37_method_8_code (3 : Nat) (Option.none : Option Jvm.ClassFile.FieldType)).before args0 about1 = true := code_word (m := ⟨8, 3⟩) (meth := k8m3) (c := k8c3) (by decide +kernel) rfl rfl rfl (by decide +kernel)
set_option maxRecDepth 65536 in
theorem w_c5 : (Jvm.Cond.code ({ cls := "java/lang/String", name := "length", desc := "()I" } : Jvm.MethodName) jdk_42_method_54_code (1 : Nat) (Option.some Jvm.ClassFile.FieldType.int)).before args0 about1 = true := code_word (m := ⟨7, 1⟩) (meth := k7m1) (c := k7c1) (by decide +kernel) rfl rfl rfl (by decide +kernel)
set_option maxRecDepth 65536 in
theorem w_c6 : (Jvm.Cond.code ({ cls := "java/lang/String", name := "coder", desc := "()B" } : Jvm.MethodName) jdk_42_method_152_code (1 : Nat) (Option.some Jvm.ClassFile.FieldType.byte)).before args0 about1 = true := code_word (m := ⟨7, 3⟩) (meth := k7m3) (c := k7c3) (by decide +kernel) rfl rfl rfl (by decide +kernel)
set_option maxRecDepth 65536 in
theorem w_c7 : (Jvm.Cond.code ({ cls := "java/lang/String", name := "charAt", desc := "(I)C" } : Jvm.MethodName) jdk_42_method_56_code (2 : Nat) (Option.some Jvm.ClassFile.FieldType.char)).before args0 about1 = true := code_word (m := ⟨7, 2⟩) (meth := k7m2) (c := k7c2) (by decide +kernel) rfl rfl rfl (by decide +kernel)
set_option maxRecDepth 65536 in
theorem w_c8 : (Jvm.Cond.code ({ cls := "java/lang/String", name := "isLatin1", desc := "()Z" } : Jvm.MethodName) jdk_42_method_154_code (1 : Nat) (Option.some Jvm.ClassFile.FieldType.boolean)).before args0 about1 = true := code_word (m := ⟨7, 4⟩) (meth := k7m4) (c := k7c4) (by decide +kernel) rfl rfl rfl (by decide +kernel)
set_option maxRecDepth 65536 in
theorem w_c9 : (Jvm.Cond.code ({ cls := "java/lang/StringLatin1", name := "charAt", desc := "([BI)C" } : Jvm.MethodName) jdk_43_method_2_code (2 : Nat) (Option.some Jvm.ClassFile.FieldType.char)).before args0 about1 = true := code_word (m := ⟨11, 1⟩) (meth := k11m1) (c := k11c1) (by decide +kernel) rfl rfl rfl (by decide +kernel)
set_option maxRecDepth 65536 in
theorem w_c10 : (Jvm.Cond.code ({ cls := "java/lang/String", name := "checkIndex", desc := "(II)V" } : Jvm.MethodName) jdk_42_method_155_code (2 : Nat) (Option.none : Option Jvm.ClassFile.FieldType)).before args0 about1 = true := code_word (m := ⟨7, 5⟩) (meth := k7m5) (c := k7c5) (by decide +kernel) rfl rfl rfl (by decide +kernel)
set_option maxRecDepth 65536 in
theorem w_c11 : (Jvm.Cond.code ({ cls := "jdk/internal/util/Preconditions", name := "checkIndex", desc := "(IILjava/util/function/BiFunction;)I" } : Jvm.MethodName) jdk_41_method_11_code (3 : Nat) (Option.some Jvm.ClassFile.FieldType.int)).before args0 about1 = true := code_word (m := ⟨12, 1⟩) (meth := k12m1) (c := k12c1) (by decide +kernel) rfl rfl rfl (by decide +kernel)
set_option maxRecDepth 65536 in
theorem w_c12 : (Jvm.Cond.code ({ cls := "com/example/plantilla/plantilla/ScriptText", name := "read", desc := "(C)V" } : Jvm.MethodName) prog_37_method_9_code (2 : Nat) (Option.none : Option Jvm.ClassFile.FieldType)).before args0 about1 = true := code_word (m := ⟨8, 4⟩) (meth := k8m4) (c := k8c4) (by decide +kernel) rfl rfl rfl (by decide +kernel)
set_option maxRecDepth 65536 in
theorem w_c13 : (Jvm.Cond.code ({ cls := "java/lang/Enum", name := "ordinal", desc := "()I" } : Jvm.MethodName) jdk_37_method_2_code (1 : Nat) (Option.some Jvm.ClassFile.FieldType.int)).before args0 about1 = true := code_word (m := ⟨9, 0⟩) (meth := k9m0) (c := k9c0) (by decide +kernel) rfl rfl rfl (by decide +kernel)
set_option maxRecDepth 65536 in
theorem w_c14 : (Jvm.Cond.code ({ cls := "com/example/plantilla/plantilla/ScriptText", name := "readCode", desc := "(C)V" } : Jvm.MethodName) prog_37_method_10_code (3 : Nat) (Option.none : Option Jvm.ClassFile.FieldType)).before args0 about1 = true := code_word (m := ⟨8, 5⟩) (meth := k8m5) (c := k8c5) (by decide +kernel) rfl rfl rfl (by decide +kernel)
set_option maxRecDepth 65536 in
theorem w_c15 : (Jvm.Cond.code ({ cls := "com/example/plantilla/plantilla/ScriptText", name := "isWordCharacter", desc := "(C)Z" } : Jvm.MethodName) prog_37_method_21_code (2 : Nat) (Option.some Jvm.ClassFile.FieldType.boolean)).before args0 about1 = true := code_word (m := ⟨8, 13⟩) (meth := k8m13) (c := k8c13) (by decide +kernel) rfl rfl rfl (by decide +kernel)
set_option maxRecDepth 65536 in
theorem w_c16 : (Jvm.Cond.code ({ cls := "com/example/plantilla/plantilla/ScriptText", name := "isSpace", desc := "(C)Z" } : Jvm.MethodName) prog_37_method_22_code (2 : Nat) (Option.some Jvm.ClassFile.FieldType.boolean)).before args0 about1 = true := code_word (m := ⟨8, 14⟩) (meth := k8m14) (c := k8c14) (by decide +kernel) rfl rfl rfl (by decide +kernel)
set_option maxRecDepth 65536 in
theorem w_c17 : (Jvm.Cond.code ({ cls := "com/example/plantilla/plantilla/ScriptText", name := "readPunctuator", desc := "(C)V" } : Jvm.MethodName) prog_37_method_11_code (2 : Nat) (Option.none : Option Jvm.ClassFile.FieldType)).before args0 about1 = true := code_word (m := ⟨8, 6⟩) (meth := k8m6) (c := k8c6) (by decide +kernel) rfl rfl rfl (by decide +kernel)
set_option maxRecDepth 65536 in
theorem w_c18 : (Jvm.Cond.code ({ cls := "com/example/plantilla/plantilla/ScriptText", name := "sameAs", desc := "(Lcom/example/plantilla/plantilla/ScriptText;)Z" } : Jvm.MethodName) prog_37_method_4_code (2 : Nat) (Option.some Jvm.ClassFile.FieldType.boolean)).before args0 about1 = true := code_word (m := ⟨8, 2⟩) (meth := k8m2) (c := k8c2) (by decide +kernel) rfl rfl rfl (by decide +kernel)
set_option maxRecDepth 65536 in
theorem w_c19 : (Jvm.Cond.code ({ cls := "com/example/plantilla/plantilla/ScriptText", name := "closeBrace", desc := "()V" } : Jvm.MethodName) prog_37_method_20_code (4 : Nat) (Option.none : Option Jvm.ClassFile.FieldType)).before args0 about1 = true := code_word (m := ⟨8, 12⟩) (meth := k8m12) (c := k8c12) (by decide +kernel) rfl rfl rfl (by decide +kernel)
set_option maxRecDepth 65536 in
theorem w_c20 : (Jvm.Cond.code ({ cls := "com/example/plantilla/plantilla/PackedName", name := "appended", desc := "(JC)J" } : Jvm.MethodName) prog_35_method_2_code (6 : Nat) (Option.some Jvm.ClassFile.FieldType.long)).before args0 about1 = true := code_word (m := ⟨13, 1⟩) (meth := k13m1) (c := k13c1) (by decide +kernel) rfl rfl rfl (by decide +kernel)
set_option maxRecDepth 65536 in
theorem w_c21 : (Jvm.Cond.code ({ cls := "com/example/plantilla/plantilla/PackedName", name := "codeOf", desc := "(C)I" } : Jvm.MethodName) prog_35_method_5_code (2 : Nat) (Option.some Jvm.ClassFile.FieldType.int)).before args0 about1 = true := code_word (m := ⟨13, 3⟩) (meth := k13m3) (c := k13c3) (by decide +kernel) rfl rfl rfl (by decide +kernel)
set_option maxRecDepth 65536 in
theorem w_c22 : (Jvm.Cond.code ({ cls := "com/example/plantilla/plantilla/PackedName", name := "isOneOf", desc := "(J[J)Z" } : Jvm.MethodName) prog_35_method_4_code (8 : Nat) (Option.some Jvm.ClassFile.FieldType.boolean)).before args0 about1 = true := code_word (m := ⟨13, 2⟩) (meth := k13m2) (c := k13c2) (by decide +kernel) rfl rfl rfl (by decide +kernel)
set_option maxRecDepth 65536 in
theorem w_c23 : (Jvm.Cond.code ({ cls := "com/example/plantilla/plantilla/ScriptText", name := "readTemplate", desc := "(C)V" } : Jvm.MethodName) prog_37_method_14_code (2 : Nat) (Option.none : Option Jvm.ClassFile.FieldType)).before args0 about1 = true := code_word (m := ⟨8, 8⟩) (meth := k8m8) (c := k8c8) (by decide +kernel) rfl rfl rfl (by decide +kernel)
set_option maxRecDepth 65536 in
theorem w_c24 : (Jvm.Cond.code ({ cls := "com/example/plantilla/plantilla/ScriptText", name := "readAfterDollar", desc := "(C)V" } : Jvm.MethodName) prog_37_method_15_code (2 : Nat) (Option.none : Option Jvm.ClassFile.FieldType)).before args0 about1 = true := code_word (m := ⟨8, 9⟩) (meth := k8m9) (c := k8c9) (by decide +kernel) rfl rfl rfl (by decide +kernel)
set_option maxRecDepth 65536 in
theorem w_c25 : (Jvm.Cond.code ({ cls := "com/example/plantilla/plantilla/ScriptText", name := "openBrace", desc := "(Z)V" } : Jvm.MethodName) prog_37_method_19_code (4 : Nat) (Option.none : Option Jvm.ClassFile.FieldType)).before args0 about1 = true := code_word (m := ⟨8, 11⟩) (meth := k8m11) (c := k8c11) (by decide +kernel) rfl rfl rfl (by decide +kernel)
set_option maxRecDepth 65536 in
theorem w_c26 : (Jvm.Cond.code ({ cls := "com/example/plantilla/plantilla/ScriptText", name := "readString", desc := "(C)V" } : Jvm.MethodName) prog_37_method_13_code (2 : Nat) (Option.none : Option Jvm.ClassFile.FieldType)).before args0 about1 = true := code_word (m := ⟨8, 7⟩) (meth := k8m7) (c := k8c7) (by decide +kernel) rfl rfl rfl (by decide +kernel)
set_option maxRecDepth 65536 in
theorem w_c27 : (Jvm.Cond.code ({ cls := "com/example/plantilla/plantilla/ScriptText", name := "endLiteral", desc := "()V" } : Jvm.MethodName) prog_37_method_18_code (1 : Nat) (Option.none : Option Jvm.ClassFile.FieldType)).before args0 about1 = true := code_word (m := ⟨8, 10⟩) (meth := k8m10) (c := k8c10) (by decide +kernel) rfl rfl rfl (by decide +kernel)
def codes1 : List Jvm.Cond := [Jvm.Cond.code x code maxLocals ret, Jvm.Cond.code ({ cls := "com/example/plantilla/plantilla/ScriptText", name := "<init>", desc := "()V" } : Jvm.MethodName) prog_37_method_1_code (1 : Nat) (Option.none : Option Jvm.ClassFile.FieldType), Jvm.Cond.code ({ cls := "java/lang/Object", name := "<init>", desc := "()V" } : Jvm.MethodName) object_method_1_code (1 : Nat) (Option.none : Option Jvm.ClassFile.FieldType), Jvm.Cond.code ({ cls := "com/example/plantilla/plantilla/ScriptText", name := "reset", desc := "()V" } : Jvm.MethodName) prog_37_method_3_code (1 : Nat) (Option.none : Option Jvm.ClassFile.FieldType), Jvm.Cond.code ({ cls := "com/example/plantilla/plantilla/ScriptText", name := "read", desc := "(Ljava/lang/String;)V" } : Jvm.MethodName) prog_37_method_8_code (3 : Nat) (Option.none : Option Jvm.ClassFile.FieldType), Jvm.Cond.code ({ cls := "java/lang/String", name := "length", desc := "()I" } : Jvm.MethodName) jdk_42_method_54_code (1 : Nat) (Option.some Jvm.ClassFile.FieldType.int), Jvm.Cond.code ({ cls := "java/lang/String", name := "coder", desc := "()B" } : Jvm.MethodName) jdk_42_method_152_code (1 : Nat) (Option.some Jvm.ClassFile.FieldType.byte), Jvm.Cond.code ({ cls := "java/lang/String", name := "charAt", desc := "(I)C" } : Jvm.MethodName) jdk_42_method_56_code (2 : Nat) (Option.some Jvm.ClassFile.FieldType.char), Jvm.Cond.code ({ cls := "java/lang/String", name := "isLatin1", desc := "()Z" } : Jvm.MethodName) jdk_42_method_154_code (1 : Nat) (Option.some Jvm.ClassFile.FieldType.boolean), Jvm.Cond.code ({ cls := "java/lang/StringLatin1", name := "charAt", desc := "([BI)C" } : Jvm.MethodName) jdk_43_method_2_code (2 : Nat) (Option.some Jvm.ClassFile.FieldType.char), Jvm.Cond.code ({ cls := "java/lang/String", name := "checkIndex", desc := "(II)V" } : Jvm.MethodName) jdk_42_method_155_code (2 : Nat) (Option.none : Option Jvm.ClassFile.FieldType), Jvm.Cond.code ({ cls := "jdk/internal/util/Preconditions", name := "checkIndex", desc := "(IILjava/util/function/BiFunction;)I" } : Jvm.MethodName) jdk_41_method_11_code (3 : Nat) (Option.some Jvm.ClassFile.FieldType.int), Jvm.Cond.code ({ cls := "com/example/plantilla/plantilla/ScriptText", name := "read", desc := "(C)V" } : Jvm.MethodName) prog_37_method_9_code (2 : Nat) (Option.none : Option Jvm.ClassFile.FieldType), Jvm.Cond.code ({ cls := "java/lang/Enum", name := "ordinal", desc := "()I" } : Jvm.MethodName) jdk_37_method_2_code (1 : Nat) (Option.some Jvm.ClassFile.FieldType.int), Jvm.Cond.code ({ cls := "com/example/plantilla/plantilla/ScriptText", name := "readCode", desc := "(C)V" } : Jvm.MethodName) prog_37_method_10_code (3 : Nat) (Option.none : Option Jvm.ClassFile.FieldType), Jvm.Cond.code ({ cls := "com/example/plantilla/plantilla/ScriptText", name := "isWordCharacter", desc := "(C)Z" } : Jvm.MethodName) prog_37_method_21_code (2 : Nat) (Option.some Jvm.ClassFile.FieldType.boolean), Jvm.Cond.code ({ cls := "com/example/plantilla/plantilla/ScriptText", name := "isSpace", desc := "(C)Z" } : Jvm.MethodName) prog_37_method_22_code (2 : Nat) (Option.some Jvm.ClassFile.FieldType.boolean), Jvm.Cond.code ({ cls := "com/example/plantilla/plantilla/ScriptText", name := "readPunctuator", desc := "(C)V" } : Jvm.MethodName) prog_37_method_11_code (2 : Nat) (Option.none : Option Jvm.ClassFile.FieldType), Jvm.Cond.code ({ cls := "com/example/plantilla/plantilla/ScriptText", name := "sameAs", desc := "(Lcom/example/plantilla/plantilla/ScriptText;)Z" } : Jvm.MethodName) prog_37_method_4_code (2 : Nat) (Option.some Jvm.ClassFile.FieldType.boolean), Jvm.Cond.code ({ cls := "com/example/plantilla/plantilla/ScriptText", name := "closeBrace", desc := "()V" } : Jvm.MethodName) prog_37_method_20_code (4 : Nat) (Option.none : Option Jvm.ClassFile.FieldType), Jvm.Cond.code ({ cls := "com/example/plantilla/plantilla/PackedName", name := "appended", desc := "(JC)J" } : Jvm.MethodName) prog_35_method_2_code (6 : Nat) (Option.some Jvm.ClassFile.FieldType.long), Jvm.Cond.code ({ cls := "com/example/plantilla/plantilla/PackedName", name := "codeOf", desc := "(C)I" } : Jvm.MethodName) prog_35_method_5_code (2 : Nat) (Option.some Jvm.ClassFile.FieldType.int), Jvm.Cond.code ({ cls := "com/example/plantilla/plantilla/PackedName", name := "isOneOf", desc := "(J[J)Z" } : Jvm.MethodName) prog_35_method_4_code (8 : Nat) (Option.some Jvm.ClassFile.FieldType.boolean), Jvm.Cond.code ({ cls := "com/example/plantilla/plantilla/ScriptText", name := "readTemplate", desc := "(C)V" } : Jvm.MethodName) prog_37_method_14_code (2 : Nat) (Option.none : Option Jvm.ClassFile.FieldType), Jvm.Cond.code ({ cls := "com/example/plantilla/plantilla/ScriptText", name := "readAfterDollar", desc := "(C)V" } : Jvm.MethodName) prog_37_method_15_code (2 : Nat) (Option.none : Option Jvm.ClassFile.FieldType), Jvm.Cond.code ({ cls := "com/example/plantilla/plantilla/ScriptText", name := "openBrace", desc := "(Z)V" } : Jvm.MethodName) prog_37_method_19_code (4 : Nat) (Option.none : Option Jvm.ClassFile.FieldType), Jvm.Cond.code ({ cls := "com/example/plantilla/plantilla/ScriptText", name := "readString", desc := "(C)V" } : Jvm.MethodName) prog_37_method_13_code (2 : Nat) (Option.none : Option Jvm.ClassFile.FieldType), Jvm.Cond.code ({ cls := "com/example/plantilla/plantilla/ScriptText", name := "endLiteral", desc := "()V" } : Jvm.MethodName) prog_37_method_18_code (1 : Nat) (Option.none : Option Jvm.ClassFile.FieldType)]
set_option maxRecDepth 65536 in
theorem codes_eq : words1.filter isCode = codes1 := rfl
theorem w_codes : ∀ c ∈ words1.filter isCode, c.before args0 about1 = true := by
  rw [codes_eq]
  intro c hc
  simp only [codes1, List.mem_cons, List.not_mem_nil, or_false] at hc
  rcases hc with rfl | rfl | rfl | rfl | rfl | rfl | rfl | rfl | rfl | rfl | rfl | rfl | rfl | rfl | rfl | rfl | rfl | rfl | rfl | rfl | rfl | rfl | rfl | rfl | rfl | rfl | rfl | rfl
  · exact w_c0
  · exact w_c1
  · exact w_c2
  · exact w_c3
  · exact w_c4
  · exact w_c5
  · exact w_c6
  · exact w_c7
  · exact w_c8
  · exact w_c9
  · exact w_c10
  · exact w_c11
  · exact w_c12
  · exact w_c13
  · exact w_c14
  · exact w_c15
  · exact w_c16
  · exact w_c17
  · exact w_c18
  · exact w_c19
  · exact w_c20
  · exact w_c21
  · exact w_c22
  · exact w_c23
  · exact w_c24
  · exact w_c25
  · exact w_c26
  · exact w_c27
set_option maxRecDepth 65536 in
theorem w_t1 : (words1.take 24).all (fun c => isCode c || c.before args0 about1) = true := by decide +kernel
set_option maxRecDepth 65536 in
theorem w_t2 : ((words1.drop 24).take 24).all (fun c => isCode c || c.before args0 about1) = true := by decide +kernel
set_option maxRecDepth 65536 in
theorem w_t3 : (((words1.drop 24).drop 24).take 24).all (fun c => isCode c || c.before args0 about1) = true := by decide +kernel
set_option maxRecDepth 65536 in
theorem w_t4 : ((((words1.drop 24).drop 24).drop 24).take 24).all (fun c => isCode c || c.before args0 about1) = true := by decide +kernel
set_option maxRecDepth 65536 in
theorem w_t5 : (((((words1.drop 24).drop 24).drop 24).drop 24).take 24).all (fun c => isCode c || c.before args0 about1) = true := by decide +kernel
set_option maxRecDepth 65536 in
theorem w_t6 : ((((((words1.drop 24).drop 24).drop 24).drop 24).drop 24).take 24).all (fun c => isCode c || c.before args0 about1) = true := by decide +kernel
set_option maxRecDepth 65536 in
theorem w_t7 : (((((((words1.drop 24).drop 24).drop 24).drop 24).drop 24).drop 24).take 24).all (fun c => isCode c || c.before args0 about1) = true := by decide +kernel
set_option maxRecDepth 65536 in
theorem w_t8 : (((((((words1.drop 24).drop 24).drop 24).drop 24).drop 24).drop 24).drop 24).all (fun c => isCode c || c.before args0 about1) = true := by decide +kernel
theorem w_tables : (allAtoms (Jvm.Cond.code x code maxLocals ret :: tables_1)).before args0 about1 = true := by
  rw [allAtoms_all]
  show words1.all (fun c => c.before args0 about1) = true
  refine all_split ?_ w_codes
  rw [← List.take_append_drop 24 words1, List.all_append, w_t1, ← List.take_append_drop 24 (words1.drop 24), List.all_append, w_t2, ← List.take_append_drop 24 ((words1.drop 24).drop 24), List.all_append, w_t3, ← List.take_append_drop 24 (((words1.drop 24).drop 24).drop 24), List.all_append, w_t4, ← List.take_append_drop 24 ((((words1.drop 24).drop 24).drop 24).drop 24), List.all_append, w_t5, ← List.take_append_drop 24 (((((words1.drop 24).drop 24).drop 24).drop 24).drop 24), List.all_append, w_t6, ← List.take_append_drop 24 ((((((words1.drop 24).drop 24).drop 24).drop 24).drop 24).drop 24), List.all_append, w_t7, w_t8]
  rfl
set_option maxRecDepth 65536 in
theorem w_rest : rest_1_c.before args0 about1 = true := by decide +kernel
set_option maxRecDepth 65536 in
theorem w_case : (Jvm.Cond.and given_1 narrow_1).before args0 about1 = true := by decide +kernel
set_option maxRecDepth 65536 in
theorem w_consts : constsHeld consts_1 about1 := Jvm.Lit.constsHeldB_iff.mp (by decide +kernel)
theorem w_applies : (headSpec (Jvm.Cond.code x code maxLocals ret :: tables_1) room_1).applies x e0.platform about1 = true :=
  (Spec.applies_iff w_frames).mpr ⟨w_running, w_runnable, w_alone, w_named, w_hears, w_ripe, w_room, w_tables⟩
theorem atStart : AtStart classFile x code maxLocals ret World_1 tables_1 room_1 Calls_1 rest_1 Pre_1 launch0 p0 e0 about1 theMethod args0 below0 :=
  ⟨lists_1, trivial, launch0.admits_env _ _ _, launch0.least_env, fairChoices_fair.cas, fairChoices_fair.clock, w_frames, w_args, w_heap, w_applies, ⟨w_consts, trivial⟩, w_rest, w_case⟩
end start1
theorem witness_1 : WitnessClaimed_1 := ⟨start1.p0, start1.e0, start1.about1, start1.theMethod, start1.args0, start1.below0, start1.atStart⟩
end Jvm.Pilot.@@N@@
