import JvmDerived
import JvmDerived.Pilot.@@N@@Statement
import JvmDerived.Pilot.@@N@@Code
set_option linter.unusedVariables false
set_option linter.unusedSimpArgs false
@@BLOCK:HandJ.lean.txt@@
@@BLOCK:SymMore.lean.txt@@
namespace Jvm.Pilot.@@N@@
open Jvm Jvm.ClassFile Sem Op Lib Jvm.Free Jvm.Stand Jvm.LawKit Jvm.RoadKit Bundle Jvm.Pilot.@@N@@.Jvm.D
/-! ## the common layer: a run that comes to an end of which Q speaks, step by step backwards -/
def Go (p : Program) (e : Env) (below : List Frame) (Q : Outcome → State → Prop) (S : State) : Prop :=
  ∃ s₂ o, Steps p.tables e below S s₂ ∧ s₂.status = .running ∧ Ended s₂ below o ∧ Q o s₂
theorem Go.back {p : Program} {e : Env} {below : List Frame} {Q : Outcome → State → Prop} {A B : State} (k : ∀ t, Steps p.tables e below B t → Steps p.tables e below A t) (h : Go p e below Q B) : Go p e below Q A := by
  obtain ⟨t, o, h1, h2⟩ := h
  exact ⟨t, o, k _ h1, h2⟩
theorem Go.cast {p : Program} {e : Env} {below : List Frame} {Q : Outcome → State → Prop} {A B : State} (k : A = B) (h : Go p e below Q B) : Go p e below Q A := k ▸ h
abbrev jv (x : Int64) : Slot := .val (.long x)
abbrev dv (x : UInt64) : Slot := .val (.double x)
abbrev un : Slot := .unset
abbrev sc : Slot := .second
/-- what a body knows of itself -/
def Cx (p : Program) (s : State) (m : MethodId) (meth : Method) (c : Code) (Z : State) (a0 : Array Value) (own : String) (bytes : ByteArray) (maxL : Nat) (ret : Option FieldType) (nm : String) : Prop :=
  p.tables.exec = Jvm.exec ∧ Z.Warmed39 s.vm ∧ (∀ d ∈ tables_1, d.before a0 Z = true) ∧ s.vm.findClass own = some m.cls ∧ c.code = bytes ∧ c.maxLocals = maxL ∧ meth.sig.returnType = ret ∧ meth.locks = false ∧ meth.name = nm
/-- where the run stands: heap h; every write so far lies at or above n0; k cells and n slots made at the most -/
def St (Z : State) (p : Program) (l : Launch) (e : Env) (R : Room) (s : State) (m : MethodId) (args : Array Value) (below : List Frame) (meth : Method) (c : Code) (n0 : Nat) (T : State) (h : Heap) (k n : Nat) : Prop :=
  ∃ locs, Stand p l e R s m args below meth c T locs k n ∧ Fr n0 locs ∧ Old Z n0 s.heap ∧ T.heap = h
def FinQ (s : State) (k n n0 : Nat) (Q : Option Value → Heap → Prop) (o : Outcome) (t : State) : Prop := ∃ v L, o = .returned v ∧ (Fr n0 L ∧ Q v t.heap) ∧ FrameEnd s o t L k n
/-- a body's contract -/
def Con (l : Launch) (Z : State) (y : MethodName) (bytes : ByteArray) (maxL : Nat) (ret : Option FieldType) (rm : Room) (as' : Array Value) (h : Heap) (n0 : Nat) (Q : Option Value → Heap → Prop) : Prop :=
  ∀ ws, MetFree l y (head1 (Jvm.Cond.code y bytes maxL ret :: ws) rm) (fun a U => a = as' ∧ Z.Warmed39 U.vm ∧ U.heap = h) (fun _ _ _ _ _ => True) (fun _ U o U' => ∃ v L, o = .returned v ∧ (Fr n0 L ∧ Q v U'.heap) ∧ FrameEnd U o U' L rm.cells rm.slots)
theorem con_of {l : Launch} {Z : State} {a0 : Array Value} {y : MethodName} {bytes : ByteArray} {maxL : Nat} {ret : Option FieldType} {rm : Room} {as' : Array Value} {h : Heap} {n0 : Nat} {Q : Option Value → Heap → Prop}
    (hw : ∀ d ∈ tables_1, d.before a0 Z = true) (hpl : plainFor y = true) (hn0 : Old Z n0 h)
    (body : ∀ p e s m below meth c T, Cx p s m meth c Z a0 y.cls bytes maxL ret y.name → St Z p l e rm s m as' below meth c n0 T h 0 0 → Go p e below (FinQ s rm.cells rm.slots n0 Q) (T.setTop (entryFrame m as' maxL))) :
    Con l Z y bytes maxL ret rm as' h n0 Q := by
  intro ws
  refine MetFree.of_bodySF hpl hisR ?_
  intro p e s m args below meth c s₁ Bd hml0 hP hK
  obtain ⟨rfl, hZ, hh⟩ := hP
  have e0 : s₁.heap = h := by rw [← hh, Bd.state]; rfl
  exact body p e s m below meth c s₁ ⟨Bd.exec, hZ, hw, findClass_of_methodNamed Bd.named, Bd.bytes, hml0, Bd.returns, Bd.notSynchronized, (name_of_methodNamed Bd.named Bd.method).1⟩ ⟨[], Stand.of_body Bd, Fr.nil n0, by rw [hh]; exact hn0, e0⟩
section Steps1
variable {p : Program} {l : Launch} {e : Env} {R : Room} {s : State} {m : MethodId} {args : Array Value} {below : List Frame} {meth : Method} {c : Code} {Z : State} {a0 : Array Value} {own : String} {bytes : ByteArray} {maxL : Nat} {ret : Option FieldType} {nm : String} {n0 : Nat} {T : State} {h : Heap} {k n : Nat} {Q : Outcome → State → Prop} {pc pc' pc2 : Nat} {Ls Ls' : Array Slot} {st : List Value}
theorem Cx.w (C : Cx p s m meth c Z a0 own bytes maxL ret nm) (i : Nat) {d : Jvm.Cond} (hd : tables_1[i]? = some d) : d.before a0 Z = true := C.2.2.1 _ (List.mem_of_getElem? hd)
theorem Cx.ws (C : Cx p s m meth c Z a0 own bytes maxL ret nm) : ∀ d ∈ tables_1, d.before a0 Z = true := C.2.2.1
theorem Cx.cd (C : Cx p s m meth c Z a0 own bytes maxL ret nm) {r : Except ClassFile.DecodeError (ClassFile.Instr × Nat)} (h2 : decode bytes pc = r) : decode c.code pc = r := hb C.2.2.2.2.1 h2
theorem Cx.ow (C : Cx p s m meth c Z a0 own bytes maxL ret nm) : s.vm.findClass own = some m.cls := C.2.2.2.1
theorem Cx.hZ (C : Cx p s m meth c Z a0 own bytes maxL ret nm) : Z.Warmed39 s.vm := C.2.1
theorem Cx.ml (C : Cx p s m meth c Z a0 own bytes maxL ret nm) : c.maxLocals = maxL := C.2.2.2.2.2.1
theorem Cx.rt (C : Cx p s m meth c Z a0 own bytes maxL ret nm) : meth.sig.returnType = ret := C.2.2.2.2.2.2.1
theorem Cx.lk (C : Cx p s m meth c Z a0 own bytes maxL ret nm) : meth.locks = false := C.2.2.2.2.2.2.2.1
theorem Cx.nmE (C : Cx p s m meth c Z a0 own bytes maxL ret nm) : meth.name = nm := C.2.2.2.2.2.2.2.2
theorem St.sz (X : St Z p l e R s m args below meth c n0 T h k n) : n0 ≤ h.size := by obtain ⟨_, Y, _, q, rfl⟩ := X; exact Nat.le_trans (Nat.le_trans (Nat.le_of_eq q.1.symm) q.2.1) Y.same.2.1
theorem St.old (X : St Z p l e R s m args below meth c n0 T h k n) : Old Z n0 h := by
  obtain ⟨locs, Y, N, o, rfl⟩ := X
  refine ⟨o.1, Nat.le_trans o.2.1 Y.same.2.1, fun a ce hc => ?_⟩
  obtain ⟨c', e1, e2, e3, e4⟩ := Y.same.2.2.2.2.2 a ce (o.2.2 a ce hc)
  have lt := (Array.getElem?_eq_some_iff.mp hc).1
  have hs : c'.slots = ce.slots := Array.ext_getElem? fun i => e4 i fun q => by have := N _ q; have := o.1; simp at *; omega
  rw [hs] at e2
  exact (show c' = ce from e2) ▸ e1
theorem St.more (X : St Z p l e R s m args below meth c n0 T h k n) {k' n' : Nat} (hk : k ≤ k') (hn : n ≤ n') : St Z p l e R s m args below meth c n0 T h k' n' := by
  obtain ⟨locs, Y, r⟩ := X
  exact ⟨locs, Y.more hk hn, r⟩

theorem go_iload (C : Cx p s m meth c Z a0 own bytes maxL ret nm) (X : St Z p l e R s m args below meth c n0 T h k n) {i : Nat} {v : Int32} (pc' : Nat) (hp : pc + 2 = pc') (hd : decode bytes pc = .ok (.iload i, 2)) (hl : Ls[i]? = some (.val (.int v))) (hr : Go p e below Q (T.setTop (mkF m pc' Ls (.int v :: st)))) : Go p e below Q (T.setTop (mkF m pc Ls st)) := by
  subst hp
  obtain ⟨locs, Y, -, -, -⟩ := X
  exact Go.back (fun t kt => Jvm.Free.XS.iload Y.here C.1 rfl (C.cd hd) hl kt) hr
theorem go_iloadN (C : Cx p s m meth c Z a0 own bytes maxL ret nm) (X : St Z p l e R s m args below meth c n0 T h k n) {i : Fin 4} {v : Int32} (pc' : Nat) (hp : pc + 1 = pc') (hd : decode bytes pc = .ok (.iload_n i, 1)) (hl : Ls[i.val]? = some (.val (.int v))) (hr : Go p e below Q (T.setTop (mkF m pc' Ls (.int v :: st)))) : Go p e below Q (T.setTop (mkF m pc Ls st)) := by
  subst hp
  obtain ⟨locs, Y, -, -, -⟩ := X
  exact Go.back (fun t kt => Jvm.Free.XS.iloadN Y.here C.1 rfl (C.cd hd) hl kt) hr
theorem go_istore (C : Cx p s m meth c Z a0 own bytes maxL ret nm) (X : St Z p l e R s m args below meth c n0 T h k n) {i : Nat} {v : Int32} (pc' : Nat) (hp : pc + 2 = pc') (hd : decode bytes pc = .ok (.istore i, 2)) (Ls' : Array Slot) (hl : storeLocals Ls i (.int v) = some Ls') (hr : Go p e below Q (T.setTop (mkF m pc' Ls' st))) : Go p e below Q (T.setTop (mkF m pc Ls (.int v :: st))) := by
  subst hp
  obtain ⟨locs, Y, -, -, -⟩ := X
  exact Go.back (fun t kt => Jvm.Free.XS.istore Y.here C.1 rfl (C.cd hd) rfl hl kt) hr
theorem go_istoreN (C : Cx p s m meth c Z a0 own bytes maxL ret nm) (X : St Z p l e R s m args below meth c n0 T h k n) {i : Fin 4} {v : Int32} (pc' : Nat) (hp : pc + 1 = pc') (hd : decode bytes pc = .ok (.istore_n i, 1)) (Ls' : Array Slot) (hl : storeLocals Ls i.val (.int v) = some Ls') (hr : Go p e below Q (T.setTop (mkF m pc' Ls' st))) : Go p e below Q (T.setTop (mkF m pc Ls (.int v :: st))) := by
  subst hp
  obtain ⟨locs, Y, -, -, -⟩ := X
  exact Go.back (fun t kt => Jvm.Free.XS.istoreN Y.here C.1 rfl (C.cd hd) rfl hl kt) hr
theorem go_lload (C : Cx p s m meth c Z a0 own bytes maxL ret nm) (X : St Z p l e R s m args below meth c n0 T h k n) {i : Nat} {v : Int64} (pc' : Nat) (hp : pc + 2 = pc') (hd : decode bytes pc = .ok (.lload i, 2)) (hl : Ls[i]? = some (.val (.long v))) (hr : Go p e below Q (T.setTop (mkF m pc' Ls (.long v :: st)))) : Go p e below Q (T.setTop (mkF m pc Ls st)) := by
  subst hp
  obtain ⟨locs, Y, -, -, -⟩ := X
  exact Go.back (fun t kt => Jvm.Free.XS.lload Y.here C.1 rfl (C.cd hd) hl kt) hr
theorem go_lloadN (C : Cx p s m meth c Z a0 own bytes maxL ret nm) (X : St Z p l e R s m args below meth c n0 T h k n) {i : Fin 4} {v : Int64} (pc' : Nat) (hp : pc + 1 = pc') (hd : decode bytes pc = .ok (.lload_n i, 1)) (hl : Ls[i.val]? = some (.val (.long v))) (hr : Go p e below Q (T.setTop (mkF m pc' Ls (.long v :: st)))) : Go p e below Q (T.setTop (mkF m pc Ls st)) := by
  subst hp
  obtain ⟨locs, Y, -, -, -⟩ := X
  exact Go.back (fun t kt => Jvm.Free.XS.lloadN Y.here C.1 rfl (C.cd hd) hl kt) hr
theorem go_lstore (C : Cx p s m meth c Z a0 own bytes maxL ret nm) (X : St Z p l e R s m args below meth c n0 T h k n) {i : Nat} {v : Int64} (pc' : Nat) (hp : pc + 2 = pc') (hd : decode bytes pc = .ok (.lstore i, 2)) (Ls' : Array Slot) (hl : storeLocals Ls i (.long v) = some Ls') (hr : Go p e below Q (T.setTop (mkF m pc' Ls' st))) : Go p e below Q (T.setTop (mkF m pc Ls (.long v :: st))) := by
  subst hp
  obtain ⟨locs, Y, -, -, -⟩ := X
  exact Go.back (fun t kt => Jvm.Free.XS.lstore Y.here C.1 rfl (C.cd hd) rfl hl kt) hr
theorem go_lstoreN (C : Cx p s m meth c Z a0 own bytes maxL ret nm) (X : St Z p l e R s m args below meth c n0 T h k n) {i : Fin 4} {v : Int64} (pc' : Nat) (hp : pc + 1 = pc') (hd : decode bytes pc = .ok (.lstore_n i, 1)) (Ls' : Array Slot) (hl : storeLocals Ls i.val (.long v) = some Ls') (hr : Go p e below Q (T.setTop (mkF m pc' Ls' st))) : Go p e below Q (T.setTop (mkF m pc Ls (.long v :: st))) := by
  subst hp
  obtain ⟨locs, Y, -, -, -⟩ := X
  exact Go.back (fun t kt => Jvm.Free.XS.lstoreN Y.here C.1 rfl (C.cd hd) rfl hl kt) hr
theorem go_aload (C : Cx p s m meth c Z a0 own bytes maxL ret nm) (X : St Z p l e R s m args below meth c n0 T h k n) {i : Nat} {v : Value} (pc' : Nat) (hp : pc + 2 = pc') (hd : decode bytes pc = .ok (.aload i, 2)) (hl : Ls[i]? = some (.val v)) (hv : v.isRef = true) (hr : Go p e below Q (T.setTop (mkF m pc' Ls (v :: st)))) : Go p e below Q (T.setTop (mkF m pc Ls st)) := by
  subst hp
  obtain ⟨locs, Y, -, -, -⟩ := X
  exact Go.back (fun t kt => Jvm.Free.XS.aload Y.here C.1 rfl (C.cd hd) hl hv kt) hr
theorem go_aloadN (C : Cx p s m meth c Z a0 own bytes maxL ret nm) (X : St Z p l e R s m args below meth c n0 T h k n) {i : Fin 4} {v : Value} (pc' : Nat) (hp : pc + 1 = pc') (hd : decode bytes pc = .ok (.aload_n i, 1)) (hl : Ls[i.val]? = some (.val v)) (hv : v.isRef = true) (hr : Go p e below Q (T.setTop (mkF m pc' Ls (v :: st)))) : Go p e below Q (T.setTop (mkF m pc Ls st)) := by
  subst hp
  obtain ⟨locs, Y, -, -, -⟩ := X
  exact Go.back (fun t kt => Jvm.Free.XS.aloadN Y.here C.1 rfl (C.cd hd) hl hv kt) hr
theorem go_astore (C : Cx p s m meth c Z a0 own bytes maxL ret nm) (X : St Z p l e R s m args below meth c n0 T h k n) {i : Nat} {v : Value} (pc' : Nat) (hp : pc + 2 = pc') (hd : decode bytes pc = .ok (.astore i, 2)) (hv : v.isRef = true) (Ls' : Array Slot) (hl : storeLocals Ls i v = some Ls') (hr : Go p e below Q (T.setTop (mkF m pc' Ls' st))) : Go p e below Q (T.setTop (mkF m pc Ls (v :: st))) := by
  subst hp
  obtain ⟨locs, Y, -, -, -⟩ := X
  exact Go.back (fun t kt => Jvm.Free.XS.astore Y.here C.1 rfl (C.cd hd) rfl hv hl kt) hr
theorem go_astoreN (C : Cx p s m meth c Z a0 own bytes maxL ret nm) (X : St Z p l e R s m args below meth c n0 T h k n) {i : Fin 4} {v : Value} (pc' : Nat) (hp : pc + 1 = pc') (hd : decode bytes pc = .ok (.astore_n i, 1)) (hv : v.isRef = true) (Ls' : Array Slot) (hl : storeLocals Ls i.val v = some Ls') (hr : Go p e below Q (T.setTop (mkF m pc' Ls' st))) : Go p e below Q (T.setTop (mkF m pc Ls (v :: st))) := by
  subst hp
  obtain ⟨locs, Y, -, -, -⟩ := X
  exact Go.back (fun t kt => Jvm.Free.XS.astoreN Y.here C.1 rfl (C.cd hd) rfl hv hl kt) hr
theorem go_iconst (C : Cx p s m meth c Z a0 own bytes maxL ret nm) (X : St Z p l e R s m args below meth c n0 T h k n) {i : Int} {z : Int32} (pc' : Nat) (hp : pc + 1 = pc') (hd : decode bytes pc = .ok (.iconst i, 1)) (hz : Int32.ofInt i = z) (hr : Go p e below Q (T.setTop (mkF m pc' Ls (.int z :: st)))) : Go p e below Q (T.setTop (mkF m pc Ls st)) := by
  subst hp
  obtain ⟨locs, Y, -, -, -⟩ := X
  exact Go.back (fun t kt => by subst hz; exact Jvm.Free.XS.iconst Y.here C.1 rfl (C.cd hd) kt) hr
theorem go_bipush (C : Cx p s m meth c Z a0 own bytes maxL ret nm) (X : St Z p l e R s m args below meth c n0 T h k n) {i : Int} {z : Int32} (pc' : Nat) (hp : pc + 2 = pc') (hd : decode bytes pc = .ok (.bipush i, 2)) (hz : (Int8.ofInt i).toInt32 = z) (hr : Go p e below Q (T.setTop (mkF m pc' Ls (.int z :: st)))) : Go p e below Q (T.setTop (mkF m pc Ls st)) := by
  subst hp
  obtain ⟨locs, Y, -, -, -⟩ := X
  exact Go.back (fun t kt => by subst hz; exact Jvm.Free.XS.bipush Y.here C.1 rfl (C.cd hd) kt) hr
theorem go_sipush (C : Cx p s m meth c Z a0 own bytes maxL ret nm) (X : St Z p l e R s m args below meth c n0 T h k n) {i : Int} {z : Int32} (pc' : Nat) (hp : pc + 3 = pc') (hd : decode bytes pc = .ok (.sipush i, 3)) (hz : (Int16.ofInt i).toInt32 = z) (hr : Go p e below Q (T.setTop (mkF m pc' Ls (.int z :: st)))) : Go p e below Q (T.setTop (mkF m pc Ls st)) := by
  subst hp
  obtain ⟨locs, Y, -, -, -⟩ := X
  exact Go.back (fun t kt => by subst hz; exact Jvm.Free.XS.sipush Y.here C.1 rfl (C.cd hd) kt) hr
theorem go_lconst (C : Cx p s m meth c Z a0 own bytes maxL ret nm) (X : St Z p l e R s m args below meth c n0 T h k n) {i : Fin 2} {z : Int64} (pc' : Nat) (hp : pc + 1 = pc') (hd : decode bytes pc = .ok (.lconst i, 1)) (hz : Int64.ofNat i = z) (hr : Go p e below Q (T.setTop (mkF m pc' Ls (.long z :: st)))) : Go p e below Q (T.setTop (mkF m pc Ls st)) := by
  subst hp
  obtain ⟨locs, Y, -, -, -⟩ := X
  exact Go.back (fun t kt => by subst hz; exact Jvm.Free.XS.lconst Y.here C.1 rfl (C.cd hd) kt) hr
theorem go_aconstNull (C : Cx p s m meth c Z a0 own bytes maxL ret nm) (X : St Z p l e R s m args below meth c n0 T h k n)  (pc' : Nat) (hp : pc + 1 = pc') (hd : decode bytes pc = .ok (.aconst_null, 1)) (hr : Go p e below Q (T.setTop (mkF m pc' Ls (.null :: st)))) : Go p e below Q (T.setTop (mkF m pc Ls st)) := by
  subst hp
  obtain ⟨locs, Y, -, -, -⟩ := X
  exact Go.back (fun t kt => Jvm.Free.XS.aconstNull Y.here C.1 rfl (C.cd hd) kt) hr
theorem go_iaddL (C : Cx p s m meth c Z a0 own bytes maxL ret nm) (X : St Z p l e R s m args below meth c n0 T h k n) {x y z : Int32} (pc' : Nat) (hp : pc + 1 = pc') (hd : decode bytes pc = .ok (.iadd, 1)) (hz : x + y = z) (hr : Go p e below Q (T.setTop (mkF m pc' Ls (.int z :: st)))) : Go p e below Q (T.setTop (mkF m pc Ls (.int y :: .int x :: st))) := by
  subst hp
  obtain ⟨locs, Y, -, -, -⟩ := X
  exact Go.back (fun t kt => by subst hz; exact Jvm.Free.XS.iadd Y.here C.1 rfl (C.cd hd) rfl kt) hr
theorem go_iadd (C : Cx p s m meth c Z a0 own bytes maxL ret nm) (X : St Z p l e R s m args below meth c n0 T h k n) {x y : Int32} (pc' : Nat) (hp : pc + 1 = pc') (hd : decode bytes pc = .ok (.iadd, 1)) (hr : Go p e below Q (T.setTop (mkF m pc' Ls (.int (x + y) :: st)))) : Go p e below Q (T.setTop (mkF m pc Ls (.int y :: .int x :: st))) := by
  subst hp
  obtain ⟨locs, Y, -, -, -⟩ := X
  exact Go.back (fun t kt => Jvm.Free.XS.iadd Y.here C.1 rfl (C.cd hd) rfl kt) hr
theorem go_isubL (C : Cx p s m meth c Z a0 own bytes maxL ret nm) (X : St Z p l e R s m args below meth c n0 T h k n) {x y z : Int32} (pc' : Nat) (hp : pc + 1 = pc') (hd : decode bytes pc = .ok (.isub, 1)) (hz : x - y = z) (hr : Go p e below Q (T.setTop (mkF m pc' Ls (.int z :: st)))) : Go p e below Q (T.setTop (mkF m pc Ls (.int y :: .int x :: st))) := by
  subst hp
  obtain ⟨locs, Y, -, -, -⟩ := X
  exact Go.back (fun t kt => by subst hz; exact Jvm.Free.XS.isub Y.here C.1 rfl (C.cd hd) rfl kt) hr
theorem go_isub (C : Cx p s m meth c Z a0 own bytes maxL ret nm) (X : St Z p l e R s m args below meth c n0 T h k n) {x y : Int32} (pc' : Nat) (hp : pc + 1 = pc') (hd : decode bytes pc = .ok (.isub, 1)) (hr : Go p e below Q (T.setTop (mkF m pc' Ls (.int (x - y) :: st)))) : Go p e below Q (T.setTop (mkF m pc Ls (.int y :: .int x :: st))) := by
  subst hp
  obtain ⟨locs, Y, -, -, -⟩ := X
  exact Go.back (fun t kt => Jvm.Free.XS.isub Y.here C.1 rfl (C.cd hd) rfl kt) hr
theorem go_imulL (C : Cx p s m meth c Z a0 own bytes maxL ret nm) (X : St Z p l e R s m args below meth c n0 T h k n) {x y z : Int32} (pc' : Nat) (hp : pc + 1 = pc') (hd : decode bytes pc = .ok (.imul, 1)) (hz : x * y = z) (hr : Go p e below Q (T.setTop (mkF m pc' Ls (.int z :: st)))) : Go p e below Q (T.setTop (mkF m pc Ls (.int y :: .int x :: st))) := by
  subst hp
  obtain ⟨locs, Y, -, -, -⟩ := X
  exact Go.back (fun t kt => by subst hz; exact Jvm.Free.XS.imul Y.here C.1 rfl (C.cd hd) rfl kt) hr
theorem go_imul (C : Cx p s m meth c Z a0 own bytes maxL ret nm) (X : St Z p l e R s m args below meth c n0 T h k n) {x y : Int32} (pc' : Nat) (hp : pc + 1 = pc') (hd : decode bytes pc = .ok (.imul, 1)) (hr : Go p e below Q (T.setTop (mkF m pc' Ls (.int (x * y) :: st)))) : Go p e below Q (T.setTop (mkF m pc Ls (.int y :: .int x :: st))) := by
  subst hp
  obtain ⟨locs, Y, -, -, -⟩ := X
  exact Go.back (fun t kt => Jvm.Free.XS.imul Y.here C.1 rfl (C.cd hd) rfl kt) hr
theorem go_iandL (C : Cx p s m meth c Z a0 own bytes maxL ret nm) (X : St Z p l e R s m args below meth c n0 T h k n) {x y z : Int32} (pc' : Nat) (hp : pc + 1 = pc') (hd : decode bytes pc = .ok (.iand, 1)) (hz : x &&& y = z) (hr : Go p e below Q (T.setTop (mkF m pc' Ls (.int z :: st)))) : Go p e below Q (T.setTop (mkF m pc Ls (.int y :: .int x :: st))) := by
  subst hp
  obtain ⟨locs, Y, -, -, -⟩ := X
  exact Go.back (fun t kt => by subst hz; exact Jvm.Free.XS.iand Y.here C.1 rfl (C.cd hd) rfl kt) hr
theorem go_iand (C : Cx p s m meth c Z a0 own bytes maxL ret nm) (X : St Z p l e R s m args below meth c n0 T h k n) {x y : Int32} (pc' : Nat) (hp : pc + 1 = pc') (hd : decode bytes pc = .ok (.iand, 1)) (hr : Go p e below Q (T.setTop (mkF m pc' Ls (.int (x &&& y) :: st)))) : Go p e below Q (T.setTop (mkF m pc Ls (.int y :: .int x :: st))) := by
  subst hp
  obtain ⟨locs, Y, -, -, -⟩ := X
  exact Go.back (fun t kt => Jvm.Free.XS.iand Y.here C.1 rfl (C.cd hd) rfl kt) hr
theorem go_iorL (C : Cx p s m meth c Z a0 own bytes maxL ret nm) (X : St Z p l e R s m args below meth c n0 T h k n) {x y z : Int32} (pc' : Nat) (hp : pc + 1 = pc') (hd : decode bytes pc = .ok (.ior, 1)) (hz : x ||| y = z) (hr : Go p e below Q (T.setTop (mkF m pc' Ls (.int z :: st)))) : Go p e below Q (T.setTop (mkF m pc Ls (.int y :: .int x :: st))) := by
  subst hp
  obtain ⟨locs, Y, -, -, -⟩ := X
  exact Go.back (fun t kt => by subst hz; exact Jvm.Free.XS.ior Y.here C.1 rfl (C.cd hd) rfl kt) hr
theorem go_ior (C : Cx p s m meth c Z a0 own bytes maxL ret nm) (X : St Z p l e R s m args below meth c n0 T h k n) {x y : Int32} (pc' : Nat) (hp : pc + 1 = pc') (hd : decode bytes pc = .ok (.ior, 1)) (hr : Go p e below Q (T.setTop (mkF m pc' Ls (.int (x ||| y) :: st)))) : Go p e below Q (T.setTop (mkF m pc Ls (.int y :: .int x :: st))) := by
  subst hp
  obtain ⟨locs, Y, -, -, -⟩ := X
  exact Go.back (fun t kt => Jvm.Free.XS.ior Y.here C.1 rfl (C.cd hd) rfl kt) hr
theorem go_ixorL (C : Cx p s m meth c Z a0 own bytes maxL ret nm) (X : St Z p l e R s m args below meth c n0 T h k n) {x y z : Int32} (pc' : Nat) (hp : pc + 1 = pc') (hd : decode bytes pc = .ok (.ixor, 1)) (hz : x ^^^ y = z) (hr : Go p e below Q (T.setTop (mkF m pc' Ls (.int z :: st)))) : Go p e below Q (T.setTop (mkF m pc Ls (.int y :: .int x :: st))) := by
  subst hp
  obtain ⟨locs, Y, -, -, -⟩ := X
  exact Go.back (fun t kt => by subst hz; exact Jvm.Free.XS.ixor Y.here C.1 rfl (C.cd hd) rfl kt) hr
theorem go_ixor (C : Cx p s m meth c Z a0 own bytes maxL ret nm) (X : St Z p l e R s m args below meth c n0 T h k n) {x y : Int32} (pc' : Nat) (hp : pc + 1 = pc') (hd : decode bytes pc = .ok (.ixor, 1)) (hr : Go p e below Q (T.setTop (mkF m pc' Ls (.int (x ^^^ y) :: st)))) : Go p e below Q (T.setTop (mkF m pc Ls (.int y :: .int x :: st))) := by
  subst hp
  obtain ⟨locs, Y, -, -, -⟩ := X
  exact Go.back (fun t kt => Jvm.Free.XS.ixor Y.here C.1 rfl (C.cd hd) rfl kt) hr
theorem go_idiv (C : Cx p s m meth c Z a0 own bytes maxL ret nm) (X : St Z p l e R s m args below meth c n0 T h k n) {x y : Int32} (pc' : Nat) (hp : pc + 1 = pc') (hd : decode bytes pc = .ok (.idiv, 1)) (hy : y ≠ 0) (hr : Go p e below Q (T.setTop (mkF m pc' Ls (.int (x / y) :: st)))) : Go p e below Q (T.setTop (mkF m pc Ls (.int y :: .int x :: st))) := by
  subst hp
  obtain ⟨locs, Y, -, -, -⟩ := X
  exact Go.back (fun t kt => Jvm.Free.XS.idiv Y.here C.1 rfl (C.cd hd) rfl hy kt) hr
theorem go_ineg (C : Cx p s m meth c Z a0 own bytes maxL ret nm) (X : St Z p l e R s m args below meth c n0 T h k n) {x : Int32} (pc' : Nat) (hp : pc + 1 = pc') (hd : decode bytes pc = .ok (.ineg, 1)) (hr : Go p e below Q (T.setTop (mkF m pc' Ls (.int (-x) :: st)))) : Go p e below Q (T.setTop (mkF m pc Ls (.int x :: st))) := by
  subst hp
  obtain ⟨locs, Y, -, -, -⟩ := X
  exact Go.back (fun t kt => Jvm.Free.XS.ineg Y.here C.1 rfl (C.cd hd) rfl kt) hr
theorem go_laddL (C : Cx p s m meth c Z a0 own bytes maxL ret nm) (X : St Z p l e R s m args below meth c n0 T h k n) {x y z : Int64} (pc' : Nat) (hp : pc + 1 = pc') (hd : decode bytes pc = .ok (.ladd, 1)) (hz : x + y = z) (hr : Go p e below Q (T.setTop (mkF m pc' Ls (.long z :: st)))) : Go p e below Q (T.setTop (mkF m pc Ls (.long y :: .long x :: st))) := by
  subst hp
  obtain ⟨locs, Y, -, -, -⟩ := X
  exact Go.back (fun t kt => by subst hz; exact Jvm.Free.XS.ladd Y.here C.1 rfl (C.cd hd) rfl kt) hr
theorem go_ladd (C : Cx p s m meth c Z a0 own bytes maxL ret nm) (X : St Z p l e R s m args below meth c n0 T h k n) {x y : Int64} (pc' : Nat) (hp : pc + 1 = pc') (hd : decode bytes pc = .ok (.ladd, 1)) (hr : Go p e below Q (T.setTop (mkF m pc' Ls (.long (x + y) :: st)))) : Go p e below Q (T.setTop (mkF m pc Ls (.long y :: .long x :: st))) := by
  subst hp
  obtain ⟨locs, Y, -, -, -⟩ := X
  exact Go.back (fun t kt => Jvm.Free.XS.ladd Y.here C.1 rfl (C.cd hd) rfl kt) hr
theorem go_lsubL (C : Cx p s m meth c Z a0 own bytes maxL ret nm) (X : St Z p l e R s m args below meth c n0 T h k n) {x y z : Int64} (pc' : Nat) (hp : pc + 1 = pc') (hd : decode bytes pc = .ok (.lsub, 1)) (hz : x - y = z) (hr : Go p e below Q (T.setTop (mkF m pc' Ls (.long z :: st)))) : Go p e below Q (T.setTop (mkF m pc Ls (.long y :: .long x :: st))) := by
  subst hp
  obtain ⟨locs, Y, -, -, -⟩ := X
  exact Go.back (fun t kt => by subst hz; exact Jvm.Free.XS.lsub Y.here C.1 rfl (C.cd hd) rfl kt) hr
theorem go_lsub (C : Cx p s m meth c Z a0 own bytes maxL ret nm) (X : St Z p l e R s m args below meth c n0 T h k n) {x y : Int64} (pc' : Nat) (hp : pc + 1 = pc') (hd : decode bytes pc = .ok (.lsub, 1)) (hr : Go p e below Q (T.setTop (mkF m pc' Ls (.long (x - y) :: st)))) : Go p e below Q (T.setTop (mkF m pc Ls (.long y :: .long x :: st))) := by
  subst hp
  obtain ⟨locs, Y, -, -, -⟩ := X
  exact Go.back (fun t kt => Jvm.Free.XS.lsub Y.here C.1 rfl (C.cd hd) rfl kt) hr
theorem go_lmulL (C : Cx p s m meth c Z a0 own bytes maxL ret nm) (X : St Z p l e R s m args below meth c n0 T h k n) {x y z : Int64} (pc' : Nat) (hp : pc + 1 = pc') (hd : decode bytes pc = .ok (.lmul, 1)) (hz : x * y = z) (hr : Go p e below Q (T.setTop (mkF m pc' Ls (.long z :: st)))) : Go p e below Q (T.setTop (mkF m pc Ls (.long y :: .long x :: st))) := by
  subst hp
  obtain ⟨locs, Y, -, -, -⟩ := X
  exact Go.back (fun t kt => by subst hz; exact Jvm.Free.XS.lmul Y.here C.1 rfl (C.cd hd) rfl kt) hr
theorem go_lmul (C : Cx p s m meth c Z a0 own bytes maxL ret nm) (X : St Z p l e R s m args below meth c n0 T h k n) {x y : Int64} (pc' : Nat) (hp : pc + 1 = pc') (hd : decode bytes pc = .ok (.lmul, 1)) (hr : Go p e below Q (T.setTop (mkF m pc' Ls (.long (x * y) :: st)))) : Go p e below Q (T.setTop (mkF m pc Ls (.long y :: .long x :: st))) := by
  subst hp
  obtain ⟨locs, Y, -, -, -⟩ := X
  exact Go.back (fun t kt => Jvm.Free.XS.lmul Y.here C.1 rfl (C.cd hd) rfl kt) hr
theorem go_landL (C : Cx p s m meth c Z a0 own bytes maxL ret nm) (X : St Z p l e R s m args below meth c n0 T h k n) {x y z : Int64} (pc' : Nat) (hp : pc + 1 = pc') (hd : decode bytes pc = .ok (.land, 1)) (hz : x &&& y = z) (hr : Go p e below Q (T.setTop (mkF m pc' Ls (.long z :: st)))) : Go p e below Q (T.setTop (mkF m pc Ls (.long y :: .long x :: st))) := by
  subst hp
  obtain ⟨locs, Y, -, -, -⟩ := X
  exact Go.back (fun t kt => by subst hz; exact Jvm.Free.XS.land Y.here C.1 rfl (C.cd hd) rfl kt) hr
theorem go_land (C : Cx p s m meth c Z a0 own bytes maxL ret nm) (X : St Z p l e R s m args below meth c n0 T h k n) {x y : Int64} (pc' : Nat) (hp : pc + 1 = pc') (hd : decode bytes pc = .ok (.land, 1)) (hr : Go p e below Q (T.setTop (mkF m pc' Ls (.long (x &&& y) :: st)))) : Go p e below Q (T.setTop (mkF m pc Ls (.long y :: .long x :: st))) := by
  subst hp
  obtain ⟨locs, Y, -, -, -⟩ := X
  exact Go.back (fun t kt => Jvm.Free.XS.land Y.here C.1 rfl (C.cd hd) rfl kt) hr
theorem go_lorL (C : Cx p s m meth c Z a0 own bytes maxL ret nm) (X : St Z p l e R s m args below meth c n0 T h k n) {x y z : Int64} (pc' : Nat) (hp : pc + 1 = pc') (hd : decode bytes pc = .ok (.lor, 1)) (hz : x ||| y = z) (hr : Go p e below Q (T.setTop (mkF m pc' Ls (.long z :: st)))) : Go p e below Q (T.setTop (mkF m pc Ls (.long y :: .long x :: st))) := by
  subst hp
  obtain ⟨locs, Y, -, -, -⟩ := X
  exact Go.back (fun t kt => by subst hz; exact Jvm.Free.XS.lor Y.here C.1 rfl (C.cd hd) rfl kt) hr
theorem go_lor (C : Cx p s m meth c Z a0 own bytes maxL ret nm) (X : St Z p l e R s m args below meth c n0 T h k n) {x y : Int64} (pc' : Nat) (hp : pc + 1 = pc') (hd : decode bytes pc = .ok (.lor, 1)) (hr : Go p e below Q (T.setTop (mkF m pc' Ls (.long (x ||| y) :: st)))) : Go p e below Q (T.setTop (mkF m pc Ls (.long y :: .long x :: st))) := by
  subst hp
  obtain ⟨locs, Y, -, -, -⟩ := X
  exact Go.back (fun t kt => Jvm.Free.XS.lor Y.here C.1 rfl (C.cd hd) rfl kt) hr
theorem go_lxorL (C : Cx p s m meth c Z a0 own bytes maxL ret nm) (X : St Z p l e R s m args below meth c n0 T h k n) {x y z : Int64} (pc' : Nat) (hp : pc + 1 = pc') (hd : decode bytes pc = .ok (.lxor, 1)) (hz : x ^^^ y = z) (hr : Go p e below Q (T.setTop (mkF m pc' Ls (.long z :: st)))) : Go p e below Q (T.setTop (mkF m pc Ls (.long y :: .long x :: st))) := by
  subst hp
  obtain ⟨locs, Y, -, -, -⟩ := X
  exact Go.back (fun t kt => by subst hz; exact Jvm.Free.XS.lxor Y.here C.1 rfl (C.cd hd) rfl kt) hr
theorem go_lxor (C : Cx p s m meth c Z a0 own bytes maxL ret nm) (X : St Z p l e R s m args below meth c n0 T h k n) {x y : Int64} (pc' : Nat) (hp : pc + 1 = pc') (hd : decode bytes pc = .ok (.lxor, 1)) (hr : Go p e below Q (T.setTop (mkF m pc' Ls (.long (x ^^^ y) :: st)))) : Go p e below Q (T.setTop (mkF m pc Ls (.long y :: .long x :: st))) := by
  subst hp
  obtain ⟨locs, Y, -, -, -⟩ := X
  exact Go.back (fun t kt => Jvm.Free.XS.lxor Y.here C.1 rfl (C.cd hd) rfl kt) hr
theorem go_ldiv (C : Cx p s m meth c Z a0 own bytes maxL ret nm) (X : St Z p l e R s m args below meth c n0 T h k n) {x y : Int64} (pc' : Nat) (hp : pc + 1 = pc') (hd : decode bytes pc = .ok (.ldiv, 1)) (hy : y ≠ 0) (hr : Go p e below Q (T.setTop (mkF m pc' Ls (.long (x / y) :: st)))) : Go p e below Q (T.setTop (mkF m pc Ls (.long y :: .long x :: st))) := by
  subst hp
  obtain ⟨locs, Y, -, -, -⟩ := X
  exact Go.back (fun t kt => Jvm.Free.XS.ldiv Y.here C.1 rfl (C.cd hd) rfl hy kt) hr
theorem go_lneg (C : Cx p s m meth c Z a0 own bytes maxL ret nm) (X : St Z p l e R s m args below meth c n0 T h k n) {x : Int64} (pc' : Nat) (hp : pc + 1 = pc') (hd : decode bytes pc = .ok (.lneg, 1)) (hr : Go p e below Q (T.setTop (mkF m pc' Ls (.long (-x) :: st)))) : Go p e below Q (T.setTop (mkF m pc Ls (.long x :: st))) := by
  subst hp
  obtain ⟨locs, Y, -, -, -⟩ := X
  exact Go.back (fun t kt => Jvm.Free.XS.lneg Y.here C.1 rfl (C.cd hd) rfl kt) hr
theorem go_irem (C : Cx p s m meth c Z a0 own bytes maxL ret nm) (X : St Z p l e R s m args below meth c n0 T h k n) {x y : Int32} (pc' : Nat) (hp : pc + 1 = pc') (hd : decode bytes pc = .ok (.irem, 1)) (hy : y ≠ 0) (hr : Go p e below Q (T.setTop (mkF m pc' Ls (.int (x % y) :: st)))) : Go p e below Q (T.setTop (mkF m pc Ls (.int y :: .int x :: st))) := by
  subst hp
  obtain ⟨locs, Y, -, -, -⟩ := X
  exact Go.back (fun t kt => iremM Y C.1 rfl (C.cd hd) rfl hy kt) hr
theorem go_lrem (C : Cx p s m meth c Z a0 own bytes maxL ret nm) (X : St Z p l e R s m args below meth c n0 T h k n) {x y : Int64} (pc' : Nat) (hp : pc + 1 = pc') (hd : decode bytes pc = .ok (.lrem, 1)) (hy : y ≠ 0) (hr : Go p e below Q (T.setTop (mkF m pc' Ls (.long (x % y) :: st)))) : Go p e below Q (T.setTop (mkF m pc Ls (.long y :: .long x :: st))) := by
  subst hp
  obtain ⟨locs, Y, -, -, -⟩ := X
  exact Go.back (fun t kt => by rw [← lrem_mod] at kt; exact Jvm.Free.XS.lrem Y.here C.1 rfl (C.cd hd) rfl hy kt) hr
theorem go_i2l (C : Cx p s m meth c Z a0 own bytes maxL ret nm) (X : St Z p l e R s m args below meth c n0 T h k n) {x : Int32} (pc' : Nat) (hp : pc + 1 = pc') (hd : decode bytes pc = .ok (.i2l, 1)) (hr : Go p e below Q (T.setTop (mkF m pc' Ls (.long (x.toInt64) :: st)))) : Go p e below Q (T.setTop (mkF m pc Ls (.int x :: st))) := by
  subst hp
  obtain ⟨locs, Y, -, -, -⟩ := X
  exact Go.back (fun t kt => Jvm.Free.XS.i2l Y.here C.1 rfl (C.cd hd) rfl kt) hr
theorem go_l2i (C : Cx p s m meth c Z a0 own bytes maxL ret nm) (X : St Z p l e R s m args below meth c n0 T h k n) {x : Int64} (pc' : Nat) (hp : pc + 1 = pc') (hd : decode bytes pc = .ok (.l2i, 1)) (hr : Go p e below Q (T.setTop (mkF m pc' Ls (.int (x.toInt32) :: st)))) : Go p e below Q (T.setTop (mkF m pc Ls (.long x :: st))) := by
  subst hp
  obtain ⟨locs, Y, -, -, -⟩ := X
  exact Go.back (fun t kt => Jvm.Free.XS.l2i Y.here C.1 rfl (C.cd hd) rfl kt) hr
theorem go_i2b (C : Cx p s m meth c Z a0 own bytes maxL ret nm) (X : St Z p l e R s m args below meth c n0 T h k n) {x : Int32} (pc' : Nat) (hp : pc + 1 = pc') (hd : decode bytes pc = .ok (.i2b, 1)) (hr : Go p e below Q (T.setTop (mkF m pc' Ls (.int (x.toInt8.toInt32) :: st)))) : Go p e below Q (T.setTop (mkF m pc Ls (.int x :: st))) := by
  subst hp
  obtain ⟨locs, Y, -, -, -⟩ := X
  exact Go.back (fun t kt => Jvm.Free.XS.i2b Y.here C.1 rfl (C.cd hd) rfl kt) hr
theorem go_i2s (C : Cx p s m meth c Z a0 own bytes maxL ret nm) (X : St Z p l e R s m args below meth c n0 T h k n) {x : Int32} (pc' : Nat) (hp : pc + 1 = pc') (hd : decode bytes pc = .ok (.i2s, 1)) (hr : Go p e below Q (T.setTop (mkF m pc' Ls (.int (x.toInt16.toInt32) :: st)))) : Go p e below Q (T.setTop (mkF m pc Ls (.int x :: st))) := by
  subst hp
  obtain ⟨locs, Y, -, -, -⟩ := X
  exact Go.back (fun t kt => Jvm.Free.XS.i2s Y.here C.1 rfl (C.cd hd) rfl kt) hr
theorem go_i2c (C : Cx p s m meth c Z a0 own bytes maxL ret nm) (X : St Z p l e R s m args below meth c n0 T h k n) {x : Int32} (pc' : Nat) (hp : pc + 1 = pc') (hd : decode bytes pc = .ok (.i2c, 1)) (hr : Go p e below Q (T.setTop (mkF m pc' Ls (.int (x.toUInt32.toUInt16.toUInt32.toInt32) :: st)))) : Go p e below Q (T.setTop (mkF m pc Ls (.int x :: st))) := by
  subst hp
  obtain ⟨locs, Y, -, -, -⟩ := X
  exact Go.back (fun t kt => Jvm.Free.XS.i2c Y.here C.1 rfl (C.cd hd) rfl kt) hr
theorem go_ishl (C : Cx p s m meth c Z a0 own bytes maxL ret nm) (X : St Z p l e R s m args below meth c n0 T h k n) {x : Int32} {y : Int32} (pc' : Nat) (hp : pc + 1 = pc') (hd : decode bytes pc = .ok (.ishl, 1)) (hr : Go p e below Q (T.setTop (mkF m pc' Ls (.int (x <<< (y &&& 31)) :: st)))) : Go p e below Q (T.setTop (mkF m pc Ls (.int y :: .int x :: st))) := by
  subst hp
  obtain ⟨locs, Y, -, -, -⟩ := X
  exact Go.back (fun t kt => Jvm.Free.XS.ishl Y.here C.1 rfl (C.cd hd) rfl kt) hr
theorem go_ishr (C : Cx p s m meth c Z a0 own bytes maxL ret nm) (X : St Z p l e R s m args below meth c n0 T h k n) {x : Int32} {y : Int32} (pc' : Nat) (hp : pc + 1 = pc') (hd : decode bytes pc = .ok (.ishr, 1)) (hr : Go p e below Q (T.setTop (mkF m pc' Ls (.int (x >>> (y &&& 31)) :: st)))) : Go p e below Q (T.setTop (mkF m pc Ls (.int y :: .int x :: st))) := by
  subst hp
  obtain ⟨locs, Y, -, -, -⟩ := X
  exact Go.back (fun t kt => Jvm.Free.XS.ishr Y.here C.1 rfl (C.cd hd) rfl kt) hr
theorem go_iushr (C : Cx p s m meth c Z a0 own bytes maxL ret nm) (X : St Z p l e R s m args below meth c n0 T h k n) {x : Int32} {y : Int32} (pc' : Nat) (hp : pc + 1 = pc') (hd : decode bytes pc = .ok (.iushr, 1)) (hr : Go p e below Q (T.setTop (mkF m pc' Ls (.int ((x.toUInt32 >>> (y &&& 31).toUInt32).toInt32) :: st)))) : Go p e below Q (T.setTop (mkF m pc Ls (.int y :: .int x :: st))) := by
  subst hp
  obtain ⟨locs, Y, -, -, -⟩ := X
  exact Go.back (fun t kt => Jvm.Free.XS.iushr Y.here C.1 rfl (C.cd hd) rfl kt) hr
theorem go_lshl (C : Cx p s m meth c Z a0 own bytes maxL ret nm) (X : St Z p l e R s m args below meth c n0 T h k n) {x : Int64} {y : Int32} (pc' : Nat) (hp : pc + 1 = pc') (hd : decode bytes pc = .ok (.lshl, 1)) (hr : Go p e below Q (T.setTop (mkF m pc' Ls (.long (x <<< (y &&& 0x3f).toInt64) :: st)))) : Go p e below Q (T.setTop (mkF m pc Ls (.int y :: .long x :: st))) := by
  subst hp
  obtain ⟨locs, Y, -, -, -⟩ := X
  exact Go.back (fun t kt => Jvm.Free.XS.lshl Y.here C.1 rfl (C.cd hd) rfl kt) hr
theorem go_lshr (C : Cx p s m meth c Z a0 own bytes maxL ret nm) (X : St Z p l e R s m args below meth c n0 T h k n) {x : Int64} {y : Int32} (pc' : Nat) (hp : pc + 1 = pc') (hd : decode bytes pc = .ok (.lshr, 1)) (hr : Go p e below Q (T.setTop (mkF m pc' Ls (.long (x >>> (y &&& 0x3f).toInt64) :: st)))) : Go p e below Q (T.setTop (mkF m pc Ls (.int y :: .long x :: st))) := by
  subst hp
  obtain ⟨locs, Y, -, -, -⟩ := X
  exact Go.back (fun t kt => Jvm.Free.XS.lshr Y.here C.1 rfl (C.cd hd) rfl kt) hr
theorem go_lushr (C : Cx p s m meth c Z a0 own bytes maxL ret nm) (X : St Z p l e R s m args below meth c n0 T h k n) {x : Int64} {y : Int32} (pc' : Nat) (hp : pc + 1 = pc') (hd : decode bytes pc = .ok (.lushr, 1)) (hr : Go p e below Q (T.setTop (mkF m pc' Ls (.long ((x.toUInt64 >>> (y &&& 0x3f).toInt64.toUInt64).toInt64) :: st)))) : Go p e below Q (T.setTop (mkF m pc Ls (.int y :: .long x :: st))) := by
  subst hp
  obtain ⟨locs, Y, -, -, -⟩ := X
  exact Go.back (fun t kt => Jvm.Free.XS.lushr Y.here C.1 rfl (C.cd hd) rfl kt) hr
theorem go_lcmp (C : Cx p s m meth c Z a0 own bytes maxL ret nm) (X : St Z p l e R s m args below meth c n0 T h k n) {x y : Int64} (pc' : Nat) (hp : pc + 1 = pc') (hd : decode bytes pc = .ok (.lcmp, 1)) (hr : Go p e below Q (T.setTop (mkF m pc' Ls (.int (lcmpW x y) :: st)))) : Go p e below Q (T.setTop (mkF m pc Ls (.long y :: .long x :: st))) := by
  subst hp
  obtain ⟨locs, Y, -, -, -⟩ := X
  exact Go.back (fun t kt => Jvm.Free.XS.lcmp Y.here C.1 rfl (C.cd hd) rfl kt) hr
theorem go_iinc (C : Cx p s m meth c Z a0 own bytes maxL ret nm) (X : St Z p l e R s m args below meth c n0 T h k n) {i : Nat} {cst : Int} {x z : Int32} (pc' : Nat) (hp : pc + 3 = pc') (hd : decode bytes pc = .ok (.iinc i cst, 3)) (hl : Ls[i]? = some (.val (.int x))) (hz : Int32.ofInt cst = z) (Ls' : Array Slot) (hl' : storeLocals Ls i (.int (x + z)) = some Ls') (hr : Go p e below Q (T.setTop (mkF m pc' Ls' st))) : Go p e below Q (T.setTop (mkF m pc Ls st)) := by
  subst hp
  obtain ⟨locs, Y, -, -, -⟩ := X
  exact Go.back (fun t kt => by subst hz; exact Jvm.Free.XS.iinc Y.here C.1 rfl (C.cd hd) hl hl' kt) hr
theorem go_dup (C : Cx p s m meth c Z a0 own bytes maxL ret nm) (X : St Z p l e R s m args below meth c n0 T h k n) {v : Value} (pc' : Nat) (hp : pc + 1 = pc') (hd : decode bytes pc = .ok (.dup, 1)) (hc : v.category = 1) (hr : Go p e below Q (T.setTop (mkF m pc' Ls (v :: v :: st)))) : Go p e below Q (T.setTop (mkF m pc Ls (v :: st))) := by
  subst hp
  obtain ⟨locs, Y, -, -, -⟩ := X
  exact Go.back (fun t kt => Jvm.Free.XS.dup Y.here C.1 rfl (C.cd hd) rfl hc kt) hr
theorem go_pop (C : Cx p s m meth c Z a0 own bytes maxL ret nm) (X : St Z p l e R s m args below meth c n0 T h k n) {v : Value} (pc' : Nat) (hp : pc + 1 = pc') (hd : decode bytes pc = .ok (.pop, 1)) (hc : v.category = 1) (hr : Go p e below Q (T.setTop (mkF m pc' Ls st))) : Go p e below Q (T.setTop (mkF m pc Ls (v :: st))) := by
  subst hp
  obtain ⟨locs, Y, -, -, -⟩ := X
  exact Go.back (fun t kt => Jvm.Free.XS.pop Y.here C.1 rfl (C.cd hd) rfl hc kt) hr
theorem go_dupX1 (C : Cx p s m meth c Z a0 own bytes maxL ret nm) (X : St Z p l e R s m args below meth c n0 T h k n) {v w : Value} (pc' : Nat) (hp : pc + 1 = pc') (hd : decode bytes pc = .ok (.dup_x1, 1)) (hc : v.category = 1) (hc2 : w.category = 1) (hr : Go p e below Q (T.setTop (mkF m pc' Ls (v :: w :: v :: st)))) : Go p e below Q (T.setTop (mkF m pc Ls (v :: w :: st))) := by
  subst hp
  obtain ⟨locs, Y, -, -, -⟩ := X
  exact Go.back (fun t kt => Jvm.Free.XS.dupX1 Y.here C.1 rfl (C.cd hd) rfl hc hc2 kt) hr
theorem go_dup2 (C : Cx p s m meth c Z a0 own bytes maxL ret nm) (X : St Z p l e R s m args below meth c n0 T h k n) {v w : Value} (pc' : Nat) (hp : pc + 1 = pc') (hd : decode bytes pc = .ok (.dup2, 1)) (hc : v.category = 1) (hc2 : w.category = 1) (hr : Go p e below Q (T.setTop (mkF m pc' Ls (v :: w :: v :: w :: st)))) : Go p e below Q (T.setTop (mkF m pc Ls (v :: w :: st))) := by
  subst hp
  obtain ⟨locs, Y, -, -, -⟩ := X
  refine Go.back (fun t kt => ?_) hr
  show Steps p.tables e below (T.setTop { method := m, pc := pc, locals := Ls, stack := v :: w :: st, locked := none }) _
  jvm_step Y.here [Y.here.top, C.1, C.cd hd, hc, hc2]
  exact kt
theorem go_goto (C : Cx p s m meth c Z a0 own bytes maxL ret nm) (X : St Z p l e R s m args below meth c n0 T h k n) {o : Int} (hd : decode bytes pc = .ok (.goto o, 3)) (ho : 0 ≤ (pc : Int) + o) (hp : ((pc : Int) + o).toNat = pc') (hr : Go p e below Q (T.setTop (mkF m pc' Ls st))) : Go p e below Q (T.setTop (mkF m pc Ls st)) := by
  obtain ⟨locs, Y, -, -, -⟩ := X
  exact Go.back (fun t kt => Jvm.Free.XS.goto Y.here C.1 rfl (pc0 := pc) rfl (C.cd hd) ho hp kt) hr
theorem go_icmp (C : Cx p s m meth c Z a0 own bytes maxL ret nm) (X : St Z p l e R s m args below meth c n0 T h k n) {cd : ClassFile.Cond} {o : Int} {x y : Int32} (hd : decode bytes pc = .ok (.if_icmp cd o, 3)) (hp : pc + 3 = pc') (ho : 0 ≤ (pc : Int) + o) (hp2 : ((pc : Int) + o).toNat = pc2) (h1 : if_icmp.holds cd x y = true → Go p e below Q (T.setTop (mkF m pc2 Ls st))) (h2 : if_icmp.holds cd x y = false → Go p e below Q (T.setTop (mkF m pc' Ls st))) : Go p e below Q (T.setTop (mkF m pc Ls (.int y :: .int x :: st))) := by
  subst hp
  obtain ⟨locs, Y, -, -, -⟩ := X
  cases hc : if_icmp.holds cd x y with
  | true => exact Go.back (fun t kt => Jvm.Free.XS.icmpYes Y.here C.1 rfl (pc0 := pc) rfl (C.cd hd) rfl hc ho hp2 kt) (h1 hc)
  | false => exact Go.back (fun t kt => Jvm.Free.XS.icmpNo Y.here C.1 rfl (C.cd hd) rfl hc kt) (h2 hc)
theorem go_if (C : Cx p s m meth c Z a0 own bytes maxL ret nm) (X : St Z p l e R s m args below meth c n0 T h k n) {cd : ClassFile.Cond} {o : Int} {x : Int32} (hd : decode bytes pc = .ok (.ifCond cd o, 3)) (hp : pc + 3 = pc') (ho : 0 ≤ (pc : Int) + o) (hp2 : ((pc : Int) + o).toNat = pc2) (h1 : if_icmp.holds cd x 0 = true → Go p e below Q (T.setTop (mkF m pc2 Ls st))) (h2 : if_icmp.holds cd x 0 = false → Go p e below Q (T.setTop (mkF m pc' Ls st))) : Go p e below Q (T.setTop (mkF m pc Ls (.int x :: st))) := by
  subst hp
  obtain ⟨locs, Y, -, -, -⟩ := X
  cases hc : if_icmp.holds cd x 0 with
  | true => exact Go.back (fun t kt => Jvm.Free.XS.ifYes Y.here C.1 rfl (pc0 := pc) rfl (C.cd hd) rfl ((if0 _ _).trans hc) ho hp2 kt) (h1 hc)
  | false => exact Go.back (fun t kt => Jvm.Free.XS.ifNo Y.here C.1 rfl (C.cd hd) rfl ((if0 _ _).trans hc) kt) (h2 hc)
theorem i32lt {x y : Int32} : x < y ↔ x.toInt < y.toInt := Int32.lt_iff_toInt_lt
theorem ic_lt {x y : Int32} : (if_icmp.holds .lt x y = true ↔ x.toInt < y.toInt) ∧ (if_icmp.holds .lt x y = false ↔ y.toInt ≤ x.toInt) := by
  by_cases q : x < y
  · have := i32lt.mp q; simp [(tlt q).1]; omega
  · have := mt i32lt.mpr q; simp [(flt q).1]; omega
theorem ic_ge {x y : Int32} : (if_icmp.holds .ge x y = true ↔ y.toInt ≤ x.toInt) ∧ (if_icmp.holds .ge x y = false ↔ x.toInt < y.toInt) := by
  by_cases q : x < y
  · have := i32lt.mp q; simp [(tlt q).2.1]; omega
  · have := mt i32lt.mpr q; simp [(flt q).2.1]; omega
theorem ic_gt {x y : Int32} : (if_icmp.holds .gt x y = true ↔ y.toInt < x.toInt) ∧ (if_icmp.holds .gt x y = false ↔ x.toInt ≤ y.toInt) := by
  by_cases q : y < x
  · have := i32lt.mp q; simp [(tlt q).2.2.1]; omega
  · have := mt i32lt.mpr q; simp [(flt q).2.2.1]; omega
theorem ic_le {x y : Int32} : (if_icmp.holds .le x y = true ↔ x.toInt ≤ y.toInt) ∧ (if_icmp.holds .le x y = false ↔ y.toInt < x.toInt) := by
  by_cases q : y < x
  · have := i32lt.mp q; simp [(tlt q).2.2.2]; omega
  · have := mt i32lt.mpr q; simp [(flt q).2.2.2]; omega
theorem ic_eq {x y : Int32} : (if_icmp.holds .eq x y = true ↔ x = y) ∧ (if_icmp.holds .eq x y = false ↔ ¬ x = y) := by
  by_cases q : x = y
  · subst q; exact ⟨⟨fun _ => rfl, fun _ => (teq rfl).1⟩, ⟨fun h => (by rw [(teq rfl).1] at h; cases h), fun h => absurd rfl h⟩⟩
  · exact ⟨⟨fun h => (by rw [(feq q).1] at h; cases h), fun h => absurd h q⟩, ⟨fun _ => q, fun _ => (feq q).1⟩⟩
theorem ic_ne {x y : Int32} : (if_icmp.holds .ne x y = true ↔ ¬ x = y) ∧ (if_icmp.holds .ne x y = false ↔ x = y) := by
  by_cases q : x = y
  · subst q; exact ⟨⟨fun h => (by rw [(teq rfl).2] at h; cases h), fun h => absurd rfl h⟩, ⟨fun _ => rfl, fun _ => (teq rfl).2⟩⟩
  · exact ⟨⟨fun _ => q, fun _ => (feq q).2⟩, ⟨fun h => (by rw [(feq q).2] at h; cases h), fun h => absurd h q⟩⟩
theorem lc_i (x y : Int64) : ((lcmpW x y).toInt < 0 ↔ x.toInt < y.toInt) ∧ (0 < (lcmpW x y).toInt ↔ y.toInt < x.toInt) ∧ (lcmpW x y = 0 ↔ x = y) := by
  obtain ⟨a, b, c⟩ := c_lcmp x y
  refine ⟨?_, ?_, lw_eq x y⟩ <;> rcases Int.lt_trichotomy x.toInt y.toInt with q | q | q <;> (first | have := a q | have := b q | have := c q) <;> omega
theorem go_icmp_lt (C : Cx p s m meth c Z a0 own bytes maxL ret nm) (X : St Z p l e R s m args below meth c n0 T h k n) {o : Int} {x y : Int32} (hd : decode bytes pc = .ok (.if_icmp .lt o, 3)) (hp : pc + 3 = pc') (ho : 0 ≤ (pc : Int) + o) (hp2 : ((pc : Int) + o).toNat = pc2) (h1 : x.toInt < y.toInt → Go p e below Q (T.setTop (mkF m pc2 Ls st))) (h2 : y.toInt ≤ x.toInt → Go p e below Q (T.setTop (mkF m pc' Ls st))) : Go p e below Q (T.setTop (mkF m pc Ls (.int y :: .int x :: st))) := go_icmp C X hd hp ho hp2 (fun q => h1 (ic_lt.1.mp q)) (fun q => h2 (ic_lt.2.mp q))
theorem go_if_lt (C : Cx p s m meth c Z a0 own bytes maxL ret nm) (X : St Z p l e R s m args below meth c n0 T h k n) {o : Int} {x : Int32} (hd : decode bytes pc = .ok (.ifCond .lt o, 3)) (hp : pc + 3 = pc') (ho : 0 ≤ (pc : Int) + o) (hp2 : ((pc : Int) + o).toNat = pc2) (h1 : x.toInt < 0 → Go p e below Q (T.setTop (mkF m pc2 Ls st))) (h2 : 0 ≤ x.toInt → Go p e below Q (T.setTop (mkF m pc' Ls st))) : Go p e below Q (T.setTop (mkF m pc Ls (.int x :: st))) := go_if C X hd hp ho hp2 (fun q => h1 (ic_lt.1.mp q)) (fun q => h2 (ic_lt.2.mp q))
theorem go_lif_lt (C : Cx p s m meth c Z a0 own bytes maxL ret nm) (X : St Z p l e R s m args below meth c n0 T h k n) {o : Int} {x y : Int64} {pc1 : Nat} (hp1 : pc + 1 = pc1) (hd1 : decode bytes pc = .ok (.lcmp, 1)) (hd : decode bytes pc1 = .ok (.ifCond .lt o, 3)) (hp : pc1 + 3 = pc') (ho : 0 ≤ (pc1 : Int) + o) (hp2 : ((pc1 : Int) + o).toNat = pc2) (h1 : x.toInt < y.toInt → Go p e below Q (T.setTop (mkF m pc2 Ls st))) (h2 : y.toInt ≤ x.toInt → Go p e below Q (T.setTop (mkF m pc' Ls st))) : Go p e below Q (T.setTop (mkF m pc Ls (.long y :: .long x :: st))) := go_lcmp C X _ hp1 hd1 (go_if_lt C X hd hp ho hp2 (fun q => h1 ((lc_i x y).1.mp q)) (fun q => h2 (by have := mt (lc_i x y).1.mpr (by omega); omega)))
theorem go_icmp_ge (C : Cx p s m meth c Z a0 own bytes maxL ret nm) (X : St Z p l e R s m args below meth c n0 T h k n) {o : Int} {x y : Int32} (hd : decode bytes pc = .ok (.if_icmp .ge o, 3)) (hp : pc + 3 = pc') (ho : 0 ≤ (pc : Int) + o) (hp2 : ((pc : Int) + o).toNat = pc2) (h1 : y.toInt ≤ x.toInt → Go p e below Q (T.setTop (mkF m pc2 Ls st))) (h2 : x.toInt < y.toInt → Go p e below Q (T.setTop (mkF m pc' Ls st))) : Go p e below Q (T.setTop (mkF m pc Ls (.int y :: .int x :: st))) := go_icmp C X hd hp ho hp2 (fun q => h1 (ic_ge.1.mp q)) (fun q => h2 (ic_ge.2.mp q))
theorem go_if_ge (C : Cx p s m meth c Z a0 own bytes maxL ret nm) (X : St Z p l e R s m args below meth c n0 T h k n) {o : Int} {x : Int32} (hd : decode bytes pc = .ok (.ifCond .ge o, 3)) (hp : pc + 3 = pc') (ho : 0 ≤ (pc : Int) + o) (hp2 : ((pc : Int) + o).toNat = pc2) (h1 : 0 ≤ x.toInt → Go p e below Q (T.setTop (mkF m pc2 Ls st))) (h2 : x.toInt < 0 → Go p e below Q (T.setTop (mkF m pc' Ls st))) : Go p e below Q (T.setTop (mkF m pc Ls (.int x :: st))) := go_if C X hd hp ho hp2 (fun q => h1 (ic_ge.1.mp q)) (fun q => h2 (ic_ge.2.mp q))
theorem go_lif_ge (C : Cx p s m meth c Z a0 own bytes maxL ret nm) (X : St Z p l e R s m args below meth c n0 T h k n) {o : Int} {x y : Int64} {pc1 : Nat} (hp1 : pc + 1 = pc1) (hd1 : decode bytes pc = .ok (.lcmp, 1)) (hd : decode bytes pc1 = .ok (.ifCond .ge o, 3)) (hp : pc1 + 3 = pc') (ho : 0 ≤ (pc1 : Int) + o) (hp2 : ((pc1 : Int) + o).toNat = pc2) (h1 : y.toInt ≤ x.toInt → Go p e below Q (T.setTop (mkF m pc2 Ls st))) (h2 : x.toInt < y.toInt → Go p e below Q (T.setTop (mkF m pc' Ls st))) : Go p e below Q (T.setTop (mkF m pc Ls (.long y :: .long x :: st))) := go_lcmp C X _ hp1 hd1 (go_if_ge C X hd hp ho hp2 (fun q => h1 (by have := mt (lc_i x y).1.mpr (by omega); omega)) (fun q => h2 ((lc_i x y).1.mp q)))
theorem go_icmp_gt (C : Cx p s m meth c Z a0 own bytes maxL ret nm) (X : St Z p l e R s m args below meth c n0 T h k n) {o : Int} {x y : Int32} (hd : decode bytes pc = .ok (.if_icmp .gt o, 3)) (hp : pc + 3 = pc') (ho : 0 ≤ (pc : Int) + o) (hp2 : ((pc : Int) + o).toNat = pc2) (h1 : y.toInt < x.toInt → Go p e below Q (T.setTop (mkF m pc2 Ls st))) (h2 : x.toInt ≤ y.toInt → Go p e below Q (T.setTop (mkF m pc' Ls st))) : Go p e below Q (T.setTop (mkF m pc Ls (.int y :: .int x :: st))) := go_icmp C X hd hp ho hp2 (fun q => h1 (ic_gt.1.mp q)) (fun q => h2 (ic_gt.2.mp q))
theorem go_if_gt (C : Cx p s m meth c Z a0 own bytes maxL ret nm) (X : St Z p l e R s m args below meth c n0 T h k n) {o : Int} {x : Int32} (hd : decode bytes pc = .ok (.ifCond .gt o, 3)) (hp : pc + 3 = pc') (ho : 0 ≤ (pc : Int) + o) (hp2 : ((pc : Int) + o).toNat = pc2) (h1 : 0 < x.toInt → Go p e below Q (T.setTop (mkF m pc2 Ls st))) (h2 : x.toInt ≤ 0 → Go p e below Q (T.setTop (mkF m pc' Ls st))) : Go p e below Q (T.setTop (mkF m pc Ls (.int x :: st))) := go_if C X hd hp ho hp2 (fun q => h1 (ic_gt.1.mp q)) (fun q => h2 (ic_gt.2.mp q))
theorem go_lif_gt (C : Cx p s m meth c Z a0 own bytes maxL ret nm) (X : St Z p l e R s m args below meth c n0 T h k n) {o : Int} {x y : Int64} {pc1 : Nat} (hp1 : pc + 1 = pc1) (hd1 : decode bytes pc = .ok (.lcmp, 1)) (hd : decode bytes pc1 = .ok (.ifCond .gt o, 3)) (hp : pc1 + 3 = pc') (ho : 0 ≤ (pc1 : Int) + o) (hp2 : ((pc1 : Int) + o).toNat = pc2) (h1 : y.toInt < x.toInt → Go p e below Q (T.setTop (mkF m pc2 Ls st))) (h2 : x.toInt ≤ y.toInt → Go p e below Q (T.setTop (mkF m pc' Ls st))) : Go p e below Q (T.setTop (mkF m pc Ls (.long y :: .long x :: st))) := go_lcmp C X _ hp1 hd1 (go_if_gt C X hd hp ho hp2 (fun q => h1 ((lc_i x y).2.1.mp q)) (fun q => h2 (by have := mt (lc_i x y).2.1.mpr (by omega); omega)))
theorem go_icmp_le (C : Cx p s m meth c Z a0 own bytes maxL ret nm) (X : St Z p l e R s m args below meth c n0 T h k n) {o : Int} {x y : Int32} (hd : decode bytes pc = .ok (.if_icmp .le o, 3)) (hp : pc + 3 = pc') (ho : 0 ≤ (pc : Int) + o) (hp2 : ((pc : Int) + o).toNat = pc2) (h1 : x.toInt ≤ y.toInt → Go p e below Q (T.setTop (mkF m pc2 Ls st))) (h2 : y.toInt < x.toInt → Go p e below Q (T.setTop (mkF m pc' Ls st))) : Go p e below Q (T.setTop (mkF m pc Ls (.int y :: .int x :: st))) := go_icmp C X hd hp ho hp2 (fun q => h1 (ic_le.1.mp q)) (fun q => h2 (ic_le.2.mp q))
theorem go_if_le (C : Cx p s m meth c Z a0 own bytes maxL ret nm) (X : St Z p l e R s m args below meth c n0 T h k n) {o : Int} {x : Int32} (hd : decode bytes pc = .ok (.ifCond .le o, 3)) (hp : pc + 3 = pc') (ho : 0 ≤ (pc : Int) + o) (hp2 : ((pc : Int) + o).toNat = pc2) (h1 : x.toInt ≤ 0 → Go p e below Q (T.setTop (mkF m pc2 Ls st))) (h2 : 0 < x.toInt → Go p e below Q (T.setTop (mkF m pc' Ls st))) : Go p e below Q (T.setTop (mkF m pc Ls (.int x :: st))) := go_if C X hd hp ho hp2 (fun q => h1 (ic_le.1.mp q)) (fun q => h2 (ic_le.2.mp q))
theorem go_lif_le (C : Cx p s m meth c Z a0 own bytes maxL ret nm) (X : St Z p l e R s m args below meth c n0 T h k n) {o : Int} {x y : Int64} {pc1 : Nat} (hp1 : pc + 1 = pc1) (hd1 : decode bytes pc = .ok (.lcmp, 1)) (hd : decode bytes pc1 = .ok (.ifCond .le o, 3)) (hp : pc1 + 3 = pc') (ho : 0 ≤ (pc1 : Int) + o) (hp2 : ((pc1 : Int) + o).toNat = pc2) (h1 : x.toInt ≤ y.toInt → Go p e below Q (T.setTop (mkF m pc2 Ls st))) (h2 : y.toInt < x.toInt → Go p e below Q (T.setTop (mkF m pc' Ls st))) : Go p e below Q (T.setTop (mkF m pc Ls (.long y :: .long x :: st))) := go_lcmp C X _ hp1 hd1 (go_if_le C X hd hp ho hp2 (fun q => h1 (by have := mt (lc_i x y).2.1.mpr (by omega); omega)) (fun q => h2 ((lc_i x y).2.1.mp q)))
theorem go_icmp_eq (C : Cx p s m meth c Z a0 own bytes maxL ret nm) (X : St Z p l e R s m args below meth c n0 T h k n) {o : Int} {x y : Int32} (hd : decode bytes pc = .ok (.if_icmp .eq o, 3)) (hp : pc + 3 = pc') (ho : 0 ≤ (pc : Int) + o) (hp2 : ((pc : Int) + o).toNat = pc2) (h1 : x = y → Go p e below Q (T.setTop (mkF m pc2 Ls st))) (h2 : ¬ x = y → Go p e below Q (T.setTop (mkF m pc' Ls st))) : Go p e below Q (T.setTop (mkF m pc Ls (.int y :: .int x :: st))) := go_icmp C X hd hp ho hp2 (fun q => h1 (ic_eq.1.mp q)) (fun q => h2 (ic_eq.2.mp q))
theorem go_if_eq (C : Cx p s m meth c Z a0 own bytes maxL ret nm) (X : St Z p l e R s m args below meth c n0 T h k n) {o : Int} {x : Int32} (hd : decode bytes pc = .ok (.ifCond .eq o, 3)) (hp : pc + 3 = pc') (ho : 0 ≤ (pc : Int) + o) (hp2 : ((pc : Int) + o).toNat = pc2) (h1 : x = 0 → Go p e below Q (T.setTop (mkF m pc2 Ls st))) (h2 : ¬ x = 0 → Go p e below Q (T.setTop (mkF m pc' Ls st))) : Go p e below Q (T.setTop (mkF m pc Ls (.int x :: st))) := go_if C X hd hp ho hp2 (fun q => h1 (ic_eq.1.mp q)) (fun q => h2 (ic_eq.2.mp q))
theorem go_lif_eq (C : Cx p s m meth c Z a0 own bytes maxL ret nm) (X : St Z p l e R s m args below meth c n0 T h k n) {o : Int} {x y : Int64} {pc1 : Nat} (hp1 : pc + 1 = pc1) (hd1 : decode bytes pc = .ok (.lcmp, 1)) (hd : decode bytes pc1 = .ok (.ifCond .eq o, 3)) (hp : pc1 + 3 = pc') (ho : 0 ≤ (pc1 : Int) + o) (hp2 : ((pc1 : Int) + o).toNat = pc2) (h1 : x = y → Go p e below Q (T.setTop (mkF m pc2 Ls st))) (h2 : ¬ x = y → Go p e below Q (T.setTop (mkF m pc' Ls st))) : Go p e below Q (T.setTop (mkF m pc Ls (.long y :: .long x :: st))) := go_lcmp C X _ hp1 hd1 (go_if_eq C X hd hp ho hp2 (fun q => h1 ((lc_i x y).2.2.mp q)) (fun q => h2 (mt (lc_i x y).2.2.mpr q)))
theorem go_icmp_ne (C : Cx p s m meth c Z a0 own bytes maxL ret nm) (X : St Z p l e R s m args below meth c n0 T h k n) {o : Int} {x y : Int32} (hd : decode bytes pc = .ok (.if_icmp .ne o, 3)) (hp : pc + 3 = pc') (ho : 0 ≤ (pc : Int) + o) (hp2 : ((pc : Int) + o).toNat = pc2) (h1 : ¬ x = y → Go p e below Q (T.setTop (mkF m pc2 Ls st))) (h2 : x = y → Go p e below Q (T.setTop (mkF m pc' Ls st))) : Go p e below Q (T.setTop (mkF m pc Ls (.int y :: .int x :: st))) := go_icmp C X hd hp ho hp2 (fun q => h1 (ic_ne.1.mp q)) (fun q => h2 (ic_ne.2.mp q))
theorem go_if_ne (C : Cx p s m meth c Z a0 own bytes maxL ret nm) (X : St Z p l e R s m args below meth c n0 T h k n) {o : Int} {x : Int32} (hd : decode bytes pc = .ok (.ifCond .ne o, 3)) (hp : pc + 3 = pc') (ho : 0 ≤ (pc : Int) + o) (hp2 : ((pc : Int) + o).toNat = pc2) (h1 : ¬ x = 0 → Go p e below Q (T.setTop (mkF m pc2 Ls st))) (h2 : x = 0 → Go p e below Q (T.setTop (mkF m pc' Ls st))) : Go p e below Q (T.setTop (mkF m pc Ls (.int x :: st))) := go_if C X hd hp ho hp2 (fun q => h1 (ic_ne.1.mp q)) (fun q => h2 (ic_ne.2.mp q))
theorem go_lif_ne (C : Cx p s m meth c Z a0 own bytes maxL ret nm) (X : St Z p l e R s m args below meth c n0 T h k n) {o : Int} {x y : Int64} {pc1 : Nat} (hp1 : pc + 1 = pc1) (hd1 : decode bytes pc = .ok (.lcmp, 1)) (hd : decode bytes pc1 = .ok (.ifCond .ne o, 3)) (hp : pc1 + 3 = pc') (ho : 0 ≤ (pc1 : Int) + o) (hp2 : ((pc1 : Int) + o).toNat = pc2) (h1 : ¬ x = y → Go p e below Q (T.setTop (mkF m pc2 Ls st))) (h2 : x = y → Go p e below Q (T.setTop (mkF m pc' Ls st))) : Go p e below Q (T.setTop (mkF m pc Ls (.long y :: .long x :: st))) := go_lcmp C X _ hp1 hd1 (go_if_ne C X hd hp ho hp2 (fun q => h1 (mt (lc_i x y).2.2.mpr q)) (fun q => h2 ((lc_i x y).2.2.mp q)))
theorem go_dload (C : Cx p s m meth c Z a0 own bytes maxL ret nm) (X : St Z p l e R s m args below meth c n0 T h k n) {i : Nat} {v : UInt64} (pc' : Nat) (hp : pc + 2 = pc') (hd : decode bytes pc = .ok (.dload i, 2)) (hl : Ls[i]? = some (.val (.double v))) (hr : Go p e below Q (T.setTop (mkF m pc' Ls (.double v :: st)))) : Go p e below Q (T.setTop (mkF m pc Ls st)) := by
  subst hp
  obtain ⟨locs, Y, -, -, -⟩ := X
  exact Go.back (fun t kt => Jvm.Free.XS.dload Y.here C.1 rfl (C.cd hd) hl kt) hr
theorem go_dloadN (C : Cx p s m meth c Z a0 own bytes maxL ret nm) (X : St Z p l e R s m args below meth c n0 T h k n) {i : Fin 4} {v : UInt64} (pc' : Nat) (hp : pc + 1 = pc') (hd : decode bytes pc = .ok (.dload_n i, 1)) (hl : Ls[i.val]? = some (.val (.double v))) (hr : Go p e below Q (T.setTop (mkF m pc' Ls (.double v :: st)))) : Go p e below Q (T.setTop (mkF m pc Ls st)) := by
  subst hp
  obtain ⟨locs, Y, -, -, -⟩ := X
  exact Go.back (fun t kt => Jvm.Free.XS.dloadN Y.here C.1 rfl (C.cd hd) hl kt) hr
theorem go_dstore (C : Cx p s m meth c Z a0 own bytes maxL ret nm) (X : St Z p l e R s m args below meth c n0 T h k n) {i : Nat} {v : UInt64} (pc' : Nat) (hp : pc + 2 = pc') (hd : decode bytes pc = .ok (.dstore i, 2)) (Ls' : Array Slot) (hl : storeLocals Ls i (.double v) = some Ls') (hr : Go p e below Q (T.setTop (mkF m pc' Ls' st))) : Go p e below Q (T.setTop (mkF m pc Ls (.double v :: st))) := by
  subst hp
  obtain ⟨locs, Y, -, -, -⟩ := X
  exact Go.back (fun t kt => Jvm.Free.XS.dstore Y.here C.1 rfl (C.cd hd) rfl hl kt) hr
theorem go_dstoreN (C : Cx p s m meth c Z a0 own bytes maxL ret nm) (X : St Z p l e R s m args below meth c n0 T h k n) {i : Fin 4} {v : UInt64} (pc' : Nat) (hp : pc + 1 = pc') (hd : decode bytes pc = .ok (.dstore_n i, 1)) (Ls' : Array Slot) (hl : storeLocals Ls i.val (.double v) = some Ls') (hr : Go p e below Q (T.setTop (mkF m pc' Ls' st))) : Go p e below Q (T.setTop (mkF m pc Ls (.double v :: st))) := by
  subst hp
  obtain ⟨locs, Y, -, -, -⟩ := X
  exact Go.back (fun t kt => Jvm.Free.XS.dstoreN Y.here C.1 rfl (C.cd hd) rfl hl kt) hr
theorem go_dconst0 (C : Cx p s m meth c Z a0 own bytes maxL ret nm) (X : St Z p l e R s m args below meth c n0 T h k n)  (pc' : Nat) (hp : pc + 1 = pc') (hd : decode bytes pc = .ok (.dconst 0, 1)) (hr : Go p e below Q (T.setTop (mkF m pc' Ls (.double (FP.l2d 0) :: st)))) : Go p e below Q (T.setTop (mkF m pc Ls st)) := by
  subst hp
  obtain ⟨locs, Y, -, -, -⟩ := X
  exact Go.back (fun t kt => Jvm.Free.XS.dconst0 Y.here C.1 rfl (C.cd hd) (by decide +kernel) kt) hr
theorem go_i2d (C : Cx p s m meth c Z a0 own bytes maxL ret nm) (X : St Z p l e R s m args below meth c n0 T h k n) {x : Int32} (pc' : Nat) (hp : pc + 1 = pc') (hd : decode bytes pc = .ok (.i2d, 1)) (hr : Go p e below Q (T.setTop (mkF m pc' Ls (.double (FP.l2d x.toInt64) :: st)))) : Go p e below Q (T.setTop (mkF m pc Ls (.int x :: st))) := by
  subst hp
  obtain ⟨locs, Y, -, -, -⟩ := X
  exact Go.back (fun t kt => Jvm.Free.XS.i2dS Y.here C.1 rfl (C.cd hd) rfl (i2d_w x) kt) hr
theorem go_l2d (C : Cx p s m meth c Z a0 own bytes maxL ret nm) (X : St Z p l e R s m args below meth c n0 T h k n) {x : Int64} (pc' : Nat) (hp : pc + 1 = pc') (hd : decode bytes pc = .ok (.l2d, 1)) (hr : Go p e below Q (T.setTop (mkF m pc' Ls (.double (FP.l2d x) :: st)))) : Go p e below Q (T.setTop (mkF m pc Ls (.long x :: st))) := by
  subst hp
  obtain ⟨locs, Y, -, -, -⟩ := X
  exact Go.back (fun t kt => Jvm.Free.XS.l2dS Y.here C.1 rfl (C.cd hd) rfl rfl kt) hr
theorem go_dadd (C : Cx p s m meth c Z a0 own bytes maxL ret nm) (X : St Z p l e R s m args below meth c n0 T h k n) {x y : Int64} (pc' : Nat) (hp : pc + 1 = pc') (hd : decode bytes pc = .ok (.dadd, 1)) (ha : B53 x) (hb : B53 y) (hr : Go p e below Q (T.setTop (mkF m pc' Ls (.double (FP.l2d (x + y)) :: st)))) : Go p e below Q (T.setTop (mkF m pc Ls (.double (FP.l2d y) :: .double (FP.l2d x) :: st))) := by
  subst hp
  obtain ⟨locs, Y, -, -, -⟩ := X
  exact Go.back (fun t kt => Jvm.Free.XS.daddS Y.here C.1 rfl (C.cd hd) rfl (nn_w (dadd_w ha hb)) (dadd_w ha hb) kt) hr
theorem go_dcmp (C : Cx p s m meth c Z a0 own bytes maxL ret nm) (X : St Z p l e R s m args below meth c n0 T h k n) {o : CmpOp} {x y : Int64} (pc' : Nat) (hp : pc + 1 = pc') (hd : decode bytes pc = .ok (.dcmp o, 1)) (ha : B53 x) (hb : B53 y) (hr : Go p e below Q (T.setTop (mkF m pc' Ls (.int (lcmpW x y) :: st)))) : Go p e below Q (T.setTop (mkF m pc Ls (.double (FP.l2d y) :: .double (FP.l2d x) :: st))) := by
  subst hp
  obtain ⟨locs, Y, -, -, -⟩ := X
  exact Go.back (fun t kt => Jvm.Free.XS.dcmpS Y.here C.1 rfl (C.cd hd) rfl (dcmpV_w ha hb o) kt) hr
theorem go_ldcInt (C : Cx p s m meth c Z a0 own bytes maxL ret nm) (X : St Z p l e R s m args below meth c n0 T h k n) {idx : Nat} {v : Int32} (w : (Jvm.Cond.constant own idx v).before a0 Z = true) (hp : pc + 2 = pc') (hd : decode bytes pc = .ok (.ldc idx, 2)) (hr : Go p e below Q (T.setTop (mkF m pc' Ls (.int v :: st)))) : Go p e below Q (T.setTop (mkF m pc Ls st)) := by
  subst hp
  obtain ⟨locs, Y, -, -, -⟩ := X
  exact Go.back (fun t kt => Y.ldcInt C.1 C.ow (mvT C.hZ w) (g := mkF m pc Ls st) rfl (C.cd hd) t kt) hr
theorem go_ldcwInt (C : Cx p s m meth c Z a0 own bytes maxL ret nm) (X : St Z p l e R s m args below meth c n0 T h k n) {idx : Nat} {v : Int32} (w : (Jvm.Cond.constant own idx v).before a0 Z = true) (hp : pc + 3 = pc') (hd : decode bytes pc = .ok (.ldc_w idx, 3)) (hr : Go p e below Q (T.setTop (mkF m pc' Ls (.int v :: st)))) : Go p e below Q (T.setTop (mkF m pc Ls st)) := by
  subst hp
  obtain ⟨locs, Y, -, -, -⟩ := X
  exact Go.back (fun t kt => Y.ldcwInt C.1 C.ow (mvT C.hZ w) (g := mkF m pc Ls st) rfl (C.cd hd) t kt) hr
theorem go_ldc2Long (C : Cx p s m meth c Z a0 own bytes maxL ret nm) (X : St Z p l e R s m args below meth c n0 T h k n) {idx : Nat} {v : Int64} (w : (Jvm.Cond.constantLong own idx v).before a0 Z = true) (hp : pc + 3 = pc') (hd : decode bytes pc = .ok (.ldc2_w idx, 3)) (hr : Go p e below Q (T.setTop (mkF m pc' Ls (.long v :: st)))) : Go p e below Q (T.setTop (mkF m pc Ls st)) := by
  subst hp
  obtain ⟨locs, Y, -, -, -⟩ := X
  exact Go.back (fun t kt => Y.ldc2Long C.1 C.ow (mvT C.hZ w) (g := mkF m pc Ls st) rfl (C.cd hd) t kt) hr
variable {kc kn : Nat} {Qy : Option Value → Heap → Prop}
theorem go_leave (C : Cx p s m meth c Z a0 own bytes maxL ret nm) (X : St Z p l e R s m args below meth c n0 T h k n) {v : Option Value} {f : JFrame} (hv : meth.sig.returnType = none → v = none) (hQ : Qy v h) (hk : k ≤ kc) (hn : n ≤ kn)
    (go : ∀ {locs : List Loc} (Y : Stand p l e R s m args below meth c T locs k n) {fs : List Frame}, (∀ (f : JFrame) (acts : List Action), f.method = m → f.locked = none → f.entered = [] → (doReturn e (T.setTop f) acts v).1 = T.setFrames fs) → Steps p.tables e below (T.setTop f) (T.setFrames fs)) :
    Go p e below (FinQ s kc kn n0 Qy) (T.setTop f) := by
  obtain ⟨locs, Y, N, -, rfl⟩ := X
  obtain ⟨fs, hr, hrun, hended, hW, hsame⟩ := Y.leave hv C.lk
  exact ⟨_, _, go Y hr, hrun, hended, _, _, rfl, ⟨N, hQ⟩, ⟨_, rfl⟩, hW, hsame.mono hk hn⟩
theorem go_ret0 (C : Cx p s m meth c Z a0 own bytes maxL none nm) (X : St Z p l e R s m args below meth c n0 T h k n) (hd : decode bytes pc = .ok (.return_, 1)) (hQ : Qy none h) (hk : k ≤ kc) (hn : n ≤ kn) : Go p e below (FinQ s kc kn n0 Qy) (T.setTop (mkF m pc Ls [])) :=
  go_leave C X (fun _ => rfl) hQ hk hn fun Y _ hr => Y.returnOut C.1 C.rt (C.cd hd) hr
theorem go_retI (C : Cx p s m meth c Z a0 own bytes maxL (some .int) nm) (X : St Z p l e R s m args below meth c n0 T h k n) {z : Int32} (hd : decode bytes pc = .ok (.ireturn, 1)) (hQ : Qy (some (.int z)) h) (hk : k ≤ kc) (hn : n ≤ kn) : Go p e below (FinQ s kc kn n0 Qy) (T.setTop (mkF m pc Ls (.int z :: st))) :=
  go_leave C X (fun q => by rw [C.rt] at q; cases q) hQ hk hn fun Y _ hr => retOut Y C.1 C.rt rfl (Or.inl ⟨rfl, Or.inl rfl, _, rfl⟩) (C.cd hd) hr
theorem go_retJ (C : Cx p s m meth c Z a0 own bytes maxL (some .long) nm) (X : St Z p l e R s m args below meth c n0 T h k n) {z : Int64} (hd : decode bytes pc = .ok (.lreturn, 1)) (hQ : Qy (some (.long z)) h) (hk : k ≤ kc) (hn : n ≤ kn) : Go p e below (FinQ s kc kn n0 Qy) (T.setTop (mkF m pc Ls (.long z :: st))) :=
  go_leave C X (fun q => by rw [C.rt] at q; cases q) hQ hk hn fun Y _ hr => retOut Y C.1 C.rt rfl (Or.inr (Or.inl ⟨rfl, rfl, _, rfl⟩)) (C.cd hd) hr
theorem go_retD (C : Cx p s m meth c Z a0 own bytes maxL (some .double) nm) (X : St Z p l e R s m args below meth c n0 T h k n) {z : UInt64} (hd : decode bytes pc = .ok (.dreturn, 1)) (hQ : Qy (some (.double z)) h) (hk : k ≤ kc) (hn : n ≤ kn) : Go p e below (FinQ s kc kn n0 Qy) (T.setTop (mkF m pc Ls (.double z :: st))) :=
  go_leave C X (fun q => by rw [C.rt] at q; cases q) hQ hk hn fun Y _ hr => retOut Y C.1 C.rt rfl (Or.inr (Or.inr (Or.inl ⟨rfl, rfl, _, rfl⟩))) (C.cd hd) hr
theorem go_retA {ty : FieldType} (C : Cx p s m meth c Z a0 own bytes maxL (some ty) nm) (X : St Z p l e R s m args below meth c n0 T h k n) {v : Value} (hd : decode bytes pc = .ok (.areturn, 1)) (ht : ty.isReference = true) (hv : v.isRef = true) (hQ : Qy (some v) h) (hk : k ≤ kc) (hn : n ≤ kn) : Go p e below (FinQ s kc kn n0 Qy) (T.setTop (mkF m pc Ls (v :: st))) :=
  go_leave C X (fun q => by rw [C.rt] at q; cases q) hQ hk hn fun Y _ hr => retOut Y C.1 C.rt (by cases ty <;> first | (cases ht; done) | rfl) (Or.inr (Or.inr (Or.inr (Or.inr ⟨rfl, ht, hv⟩)))) (C.cd hd) hr
theorem go_retN {ty : FieldType} (C : Cx p s m meth c Z a0 own bytes maxL (some ty) nm) (X : St Z p l e R s m args below meth c n0 T h k n) {z z' : Int32} (ht : ty = .boolean ∨ ty = .byte ∨ ty = .char ∨ ty = .short) (hz : nar ty z = z') (hd : decode bytes pc = .ok (.ireturn, 1)) (hQ : Qy (some (.int z')) h) (hk : k ≤ kc) (hn : n ≤ kn) : Go p e below (FinQ s kc kn n0 Qy) (T.setTop (mkF m pc Ls (.int z :: st))) := by
  subst hz
  exact go_leave C X (fun q => by rw [C.rt] at q; cases q) hQ hk hn fun Y _ hr => retN Y C.1 C.rt ht (C.cd hd) hr
/-! calls by the callee's contract -/
variable {idx : Nat} {y : MethodName} {yb : ByteArray} {yl : Nat} {yr : Option FieldType} {rm : Room} {as' : Array Value} {QY : Option Value → Heap → Prop} {argsL rest : List Value}
theorem con_back (C : Cx p s m meth c Z a0 own bytes maxL ret nm) (hM : Con l Z y yb yl yr rm as' h n0 QY) {W : Nat} (wc : (Jvm.Cond.code y yb yl yr).before a0 Z = true) (wz : (Jvm.Cond.initialized y.cls).before a0 Z = true) (hf : rm.frames + 1 ≤ R.frames) (hl : W + (yl + 11) + rm.locals ≤ R.locals) :
    Back l R p e below s args y 3 W (fun A a => a = as' ∧ A.U.heap = h ∧ A.cells + rm.cells ≤ R.cells ∧ A.slots + rm.slots ≤ R.slots) (fun A _ v B => ∃ L, (Fr n0 L ∧ QY v B.U.heap) ∧ B.locs = A.locs ++ L ∧ B.cells = A.cells + rm.cells ∧ B.slots = A.slots + rm.slots) :=
  backOf (Q := fun v h' L => Fr n0 L ∧ QY v h') (hM []) C.hZ wc wz hf hl
theorem go_callS (C : Cx p s m meth c Z a0 own bytes maxL ret nm) (X : St Z p l e R s m args below meth c n0 T h k n) (wl : (Jvm.Cond.methodLink own idx y).before a0 Z = true) (ws : (Jvm.Cond.static y).before a0 Z = true) (wi : (Jvm.Cond.initialized y.cls).before a0 Z = true) (wc : (Jvm.Cond.code y yb yl yr).before a0 Z = true)
    (hM : Con l Z y yb yl yr rm as' h n0 QY) (hlen : ∀ sig, parseMethodDescriptor y.desc = some sig → argsL.length = sig.parameters.length) (ha : argsL.toArray = as') (hy : y.cls ≠ "java/lang/invoke/MethodHandle" ∧ y.cls ≠ "java/lang/invoke/VarHandle")
    (hf : rm.frames + 1 ≤ R.frames) (hl : (rest.map fun v => v.category).sum + (yl + 11) + rm.locals ≤ R.locals) (hc : k + rm.cells ≤ R.cells) (hn : n + rm.slots ≤ R.slots) (hst : st = argsL.reverse ++ rest) (hsz : Ls.size = maxL) (hp : pc + 3 = pc') (hd : decode bytes pc = .ok (.invokestatic idx, 3))
    (hr : ∀ T' h' v, QY v h' → St Z p l e R s m args below meth c n0 T' h' (k + rm.cells) (n + rm.slots) → Go p e below Q (T'.setTop (mkF m pc' Ls (v.toList ++ rest)))) : Go p e below Q (T.setTop (mkF m pc Ls st)) := by
  subst hp; subst ha; subst hst
  obtain ⟨locs, Y, N, zs, eT⟩ := X
  obtain ⟨v, _, ⟨T', L', k', n'⟩, -, X', ⟨Lc, ⟨N', hQ⟩, l1, y1, z1⟩, stp⟩ := Jvm.LawKit.callS Y C.1 C.ow (mvT C.hZ wl) (mvT C.hZ ws) (mvT C.hZ wi) (mvT C.hZ wc) hy (con_back C hM (W := (rest.map fun v => v.category).sum) wc wi hf hl) (g := mkF m pc Ls (argsL.reverse ++ rest)) rfl (hsz.trans C.ml.symm) (argsL := argsL) (rest := rest) hlen rfl (by show 2 * 0 + _ ≤ _; omega) (C.cd hd) (fun _ _ => ⟨rfl, eT, hc, hn⟩)
  dsimp only [Pt.U, Pt.locs, Pt.cells, Pt.slots] at X' l1 y1 z1 stp hQ
  subst l1 y1 z1
  exact Go.back stp (hr T' T'.heap v hQ ⟨_, X', N.app N', zs, rfl⟩)
theorem go_special (C : Cx p s m meth c Z a0 own bytes maxL ret nm) (X : St Z p l e R s m args below meth c n0 T h k n) {a : Addr} (wl : (Jvm.Cond.methodLink own idx y).before a0 Z = true) (ws : (Jvm.Cond.instanceMethod y).before a0 Z = true) (wi : (Jvm.Cond.initialized y.cls).before a0 Z = true) (wc : (Jvm.Cond.code y yb yl none).before a0 Z = true) (hy1 : y.name = "<init>")
    (hM : Con l Z y yb yl none rm as' h n0 QY) (hlen : ∀ sig, parseMethodDescriptor y.desc = some sig → argsL.length = sig.parameters.length) (ha : (.ref a :: argsL).toArray = as') (hy : y.cls ≠ "java/lang/invoke/MethodHandle" ∧ y.cls ≠ "java/lang/invoke/VarHandle")
    (hf : rm.frames + 1 ≤ R.frames) (hl : (rest.map fun v => v.category).sum + (yl + 11) + rm.locals ≤ R.locals) (hc : k + rm.cells ≤ R.cells) (hn : n + rm.slots ≤ R.slots) (hst : st = argsL.reverse ++ .ref a :: rest) (hsz : Ls.size = maxL) (hp : pc + 3 = pc') (hd : decode bytes pc = .ok (.invokespecial idx, 3))
    (hr : ∀ T' h' v, QY v h' → St Z p l e R s m args below meth c n0 T' h' (k + rm.cells) (n + rm.slots) → Go p e below Q (T'.setTop (mkF m pc' Ls (v.toList ++ rest)))) : Go p e below Q (T.setTop (mkF m pc Ls st)) := by
  subst hp; subst ha; subst hst
  obtain ⟨locs, Y, N, zs, eT⟩ := X
  obtain ⟨v, _, ⟨T', L', k', n'⟩, -, X', ⟨Lc, ⟨N', hQ⟩, l1, y1, z1⟩, stp⟩ := Y.specialBack C.1 hy1 C.ow (mvT C.hZ wl) (mvT C.hZ ws) (mvT C.hZ wc) hy (con_back C hM (W := (rest.map fun v => v.category).sum) wc wi hf hl) (g := mkF m pc Ls (argsL.reverse ++ .ref a :: rest)) rfl (hsz.trans C.ml.symm) (Steps.refl _) (a := a) (argsL := argsL) (rest := rest) hlen rfl (by show 2 * 0 + _ ≤ _; omega) (C.cd hd) (fun _ _ => ⟨rfl, eT, hc, hn⟩)
  dsimp only [Pt.U, Pt.locs, Pt.cells, Pt.slots] at X' l1 y1 z1 stp hQ
  subst l1 y1 z1
  exact Go.back (fun t kt => stp.trans kt) (hr T' T'.heap v hQ ⟨_, X', N.app N', zs, rfl⟩)
theorem go_virtual (C : Cx p s m meth c Z a0 own bytes maxL ret nm) (X : St Z p l e R s m args below meth c n0 T h k n) {a : Addr} {cn : String} {y0 : MethodName} (E : Exa Z h a cn) (wl : (Jvm.Cond.methodLink own idx y0).before a0 Z = true) (wd : (Jvm.Cond.declares y0).before a0 Z = true) (hnf : NotFace s y0) (wsel : (Jvm.Cond.selects cn y0 y).before a0 Z = true) (ws : (Jvm.Cond.instanceMethod y).before a0 Z = true) (wi : (Jvm.Cond.initialized y.cls).before a0 Z = true) (wc : (Jvm.Cond.code y yb yl yr).before a0 Z = true)
    (hM : Con l Z y yb yl yr rm as' h n0 QY) (hlen : ∀ sig, parseMethodDescriptor y0.desc = some sig → argsL.length = sig.parameters.length) (ha : (.ref a :: argsL).toArray = as') (hy : y0.cls ≠ "java/lang/invoke/MethodHandle" ∧ y0.cls ≠ "java/lang/invoke/VarHandle")
    (hf : rm.frames + 1 ≤ R.frames) (hl : (rest.map fun v => v.category).sum + (yl + 11) + rm.locals ≤ R.locals) (hc : k + rm.cells ≤ R.cells) (hn : n + rm.slots ≤ R.slots) (hst : st = argsL.reverse ++ .ref a :: rest) (hsz : Ls.size = maxL) (hp : pc + 3 = pc') (hd : decode bytes pc = .ok (.invokevirtual idx, 3))
    (hr : ∀ T' h' v, QY v h' → St Z p l e R s m args below meth c n0 T' h' (k + rm.cells) (n + rm.slots) → Go p e below Q (T'.setTop (mkF m pc' Ls (v.toList ++ rest)))) : Go p e below Q (T.setTop (mkF m pc Ls st)) := by
  subst hp; subst ha; subst hst
  obtain ⟨locs, Y, N, zs, eT⟩ := X
  obtain ⟨cq, kq, qa, qb, qc⟩ := isOf C.hZ eT E
  obtain ⟨v, _, ⟨T', L', k', n'⟩, -, X', ⟨Lc, ⟨N', hQ⟩, l1, y1, z1⟩, stp⟩ := Y.virtualBack C.1 C.ow (mvT C.hZ wl) (mvT C.hZ wd) hnf (mvT C.hZ wsel) (mvT C.hZ ws) hy (con_back C hM (W := (rest.map fun v => v.category).sum) wc wi hf hl) qa qc (g := mkF m pc Ls (argsL.reverse ++ .ref a :: rest)) rfl (hsz.trans C.ml.symm) (Steps.refl _) (argsL := argsL) (rest := rest) hlen rfl (by show 2 * 0 + _ ≤ _; omega) (C.cd hd) (fun _ _ => ⟨rfl, eT, hc, hn⟩)
  dsimp only [Pt.U, Pt.locs, Pt.cells, Pt.slots] at X' l1 y1 z1 stp hQ
  subst l1 y1 z1
  exact Go.back (fun t kt => stp.trans kt) (hr T' T'.heap v hQ ⟨_, X', N.app N', zs, rfl⟩)
theorem go_private (C : Cx p s m meth c Z a0 own bytes maxL ret nm) (X : St Z p l e R s m args below meth c n0 T h k n) {a : Addr} {cn : String} (E : Exa Z h a cn) (wl : (Jvm.Cond.methodLink own idx y).before a0 Z = true) (ws : (Jvm.Cond.instanceMethod y).before a0 Z = true) (wsel : (Jvm.Cond.selects y.cls y y).before a0 Z = true) (wp : (Jvm.Cond.privateMethod y).before a0 Z = true) (wi : (Jvm.Cond.initialized y.cls).before a0 Z = true) (wc : (Jvm.Cond.code y yb yl yr).before a0 Z = true)
    (hM : Con l Z y yb yl yr rm as' h n0 QY) (hlen : ∀ sig, parseMethodDescriptor y.desc = some sig → argsL.length = sig.parameters.length) (ha : (.ref a :: argsL).toArray = as') (hy : y.cls ≠ "java/lang/invoke/MethodHandle" ∧ y.cls ≠ "java/lang/invoke/VarHandle")
    (hf : rm.frames + 1 ≤ R.frames) (hl : (rest.map fun v => v.category).sum + (yl + 11) + rm.locals ≤ R.locals) (hc : k + rm.cells ≤ R.cells) (hn : n + rm.slots ≤ R.slots) (hst : st = argsL.reverse ++ .ref a :: rest) (hsz : Ls.size = maxL) (hp : pc + 3 = pc') (hd : decode bytes pc = .ok (.invokevirtual idx, 3))
    (hr : ∀ T' h' v, QY v h' → St Z p l e R s m args below meth c n0 T' h' (k + rm.cells) (n + rm.slots) → Go p e below Q (T'.setTop (mkF m pc' Ls (v.toList ++ rest)))) : Go p e below Q (T.setTop (mkF m pc Ls st)) := by
  subst hp; subst ha; subst hst
  obtain ⟨locs, Y, N, zs, eT⟩ := X
  obtain ⟨cq, q1, q2⟩ := E.cell
  obtain ⟨v, _, ⟨T', L', k', n'⟩, -, X', ⟨Lc, ⟨N', hQ⟩, l1, y1, z1⟩, stp⟩ := Y.privateBack C.1 C.ow (mvT C.hZ wl) (mvT C.hZ ws) (mvT C.hZ wsel) (Cond.privateMethod_at (mvP C.hZ wp (args := #[]))) (mvT C.hZ wc) hy (con_back C hM (W := (rest.map fun v => v.category).sum) wc wi hf hl) (g := mkF m pc Ls (argsL.reverse ++ .ref a :: rest)) rfl (hsz.trans C.ml.symm) (Steps.refl _) (a := a) (by rw [eT]; exact q1) q2 (argsL := argsL) (rest := rest) hlen rfl (by show 2 * 0 + _ ≤ _; omega) (C.cd hd) (fun _ _ => ⟨rfl, eT, hc, hn⟩)
  dsimp only [Pt.U, Pt.locs, Pt.cells, Pt.slots] at X' l1 y1 z1 stp hQ
  subst l1 y1 z1
  exact Go.back (fun t kt => stp.trans kt) (hr T' T'.heap v hQ ⟨_, X', N.app N', zs, rfl⟩)
theorem go_initO (C : Cx p s m meth c Z a0 own bytes maxL ret nm) (X : St Z p l e R s m args below meth c n0 T h k n) {a : Addr} (w1 : (Jvm.Cond.methodLink own idx Lib.objectInit).before a0 Z = true) (w2 : (Jvm.Cond.instanceMethod Lib.objectInit).before a0 Z = true) (w3 : (Jvm.Cond.code Lib.objectInit ⟨#[0xb1]⟩ 1 none).before a0 Z = true)
    (hf : 1 ≤ R.frames) (hl : (st.map fun v => v.category).sum + 12 ≤ R.locals) (hsz : Ls.size = maxL) (hp : pc + 3 = pc') (hd : decode bytes pc = .ok (.invokespecial idx, 3))
    (hr : ∀ T', St Z p l e R s m args below meth c n0 T' h k n → Go p e below Q (T'.setTop (mkF m pc' Ls st))) : Go p e below Q (T.setTop (mkF m pc Ls (.ref a :: st))) := by
  subst hp
  obtain ⟨locs, Y, N, zs, eT⟩ := X
  obtain ⟨T', X', e', stp⟩ := initO Y C.1 C.hZ C.ow w1 w2 w3 eT (g := mkF m pc Ls (.ref a :: st)) rfl (hsz.trans C.ml.symm) rfl (C.cd hd) hf (W := (st.map fun v => v.category).sum) (by show 2 * 0 + _ ≤ _; omega) hl
  exact Go.back stp (hr T' ⟨_, X', N, zs, e'⟩)
/-! fields, new objects, arrays -/
theorem go_getF (C : Cx p s m meth c Z a0 own bytes maxL ret nm) (X : St Z p l e R s m args below meth c n0 T h k n) {R0 O fn d : String} {a : Addr} {v : Value} (w : (Jvm.Cond.fieldLink own idx R0 fn d).before a0 Z = true) (via : Via Z R0 O fn d) (F : Fld Z h a O fn d v) (hp : pc + 3 = pc') (hd : decode bytes pc = .ok (.getfield idx, 3))
    (hr : ∀ T', St Z p l e R s m args below meth c n0 T' h k n → Go p e below Q (T'.setTop (mkF m pc' Ls (v :: st)))) : Go p e below Q (T.setTop (mkF m pc Ls (.ref a :: st))) := by
  subst hp
  obtain ⟨locs, Y, N, zs, eT⟩ := X
  obtain ⟨T', X', e', stp⟩ := getF Y C.1 C.hZ C.ow (host := "") (Or.inl w) via eT F (g := mkF m pc Ls (.ref a :: st)) rfl rfl (C.cd hd)
  exact Go.back stp (hr T' ⟨_, X', N, zs, e'⟩)
theorem go_getFN (C : Cx p s m meth c Z a0 own bytes maxL ret nm) (X : St Z p l e R s m args below meth c n0 T h k n) {R0 O fn d host : String} {a : Addr} {v : Value} (w : (Jvm.Cond.fieldLinkNest own idx R0 fn d host).before a0 Z = true) (via : Via Z R0 O fn d) (F : Fld Z h a O fn d v) (hp : pc + 3 = pc') (hd : decode bytes pc = .ok (.getfield idx, 3))
    (hr : ∀ T', St Z p l e R s m args below meth c n0 T' h k n → Go p e below Q (T'.setTop (mkF m pc' Ls (v :: st)))) : Go p e below Q (T.setTop (mkF m pc Ls (.ref a :: st))) := by
  subst hp
  obtain ⟨locs, Y, N, zs, eT⟩ := X
  obtain ⟨T', X', e', stp⟩ := getF Y C.1 C.hZ C.ow (host := host) (Or.inr w) via eT F (g := mkF m pc Ls (.ref a :: st)) rfl rfl (C.cd hd)
  exact Go.back stp (hr T' ⟨_, X', N, zs, e'⟩)
theorem go_getS (C : Cx p s m meth c Z a0 own bytes maxL ret nm) (X : St Z p l e R s m args below meth c n0 T h k n) {O fn d : String} {v : Value} (w : (Jvm.Cond.fieldLink own idx O fn d).before a0 Z = true) (F : Sta Z h O fn d v) (hp : pc + 3 = pc') (hd : decode bytes pc = .ok (.getstatic idx, 3))
    (hr : ∀ T', St Z p l e R s m args below meth c n0 T' h k n → Go p e below Q (T'.setTop (mkF m pc' Ls (v :: st)))) : Go p e below Q (T.setTop (mkF m pc Ls st)) := by
  subst hp
  obtain ⟨locs, Y, N, zs, eT⟩ := X
  obtain ⟨T', X', e', stp⟩ := getS2 Y C.1 C.hZ C.ow (host := "") (Or.inl w) Via.refl eT F (g := mkF m pc Ls st) rfl (C.cd hd)
  exact Go.back stp (hr T' ⟨_, X', N, zs, e'⟩)
theorem go_putF (C : Cx p s m meth c Z a0 own bytes maxL ret nm) (X : St Z p l e R s m args below meth c n0 T h k n) {R0 O fn d cn : String} {kk : Nat} {ty : FieldType} {a : Addr} {v old : Value} (w : (Jvm.Cond.fieldLink own idx R0 fn d).before a0 Z = true) (via : Via Z R0 O fn d) (F : Fld Z h a O fn d old) (E : Exa Z h a cn) (L : (Jvm.Cond.lays cn O fn d).before a0 Z = true ∨ ((Jvm.Cond.laysFinal cn O fn d).before a0 Z = true ∧ own = O ∧ meth.name = "<init>")) (wi : (Jvm.Cond.instantiable cn kk).before a0 Z = true) (ga : n0 ≤ a)
    (hty : parseFieldDescriptor d = some ty) (hn : narrow ty v = v) (hf : fits ty v = true) (hp : pc + 3 = pc') (hd : decode bytes pc = .ok (.putfield idx, 3))
    (hr : ∀ T' h', Wr h h' a (Jvm.RoadKit.slotOf Z O fn d) v → St Z p l e R s m args below meth c n0 T' h' k n → Go p e below Q (T'.setTop (mkF m pc' Ls st))) : Go p e below Q (T.setTop (mkF m pc Ls (v :: .ref a :: st))) := by
  subst hp
  obtain ⟨locs, Y, N, zs, eT⟩ := X
  obtain ⟨T', h', X', e', W, stp⟩ := putF Y C.1 C.hZ C.ow (host := "") (Or.inl w) via eT F E L wi hty hn hf (g := mkF m pc Ls (v :: .ref a :: st)) rfl rfl (C.cd hd)
  exact Go.back stp (hr T' h' W ⟨_, X', Fr.snoc X' N ga, zs, e'⟩)
theorem go_putFN (C : Cx p s m meth c Z a0 own bytes maxL ret nm) (X : St Z p l e R s m args below meth c n0 T h k n) {R0 O fn d cn : String} {kk : Nat} {ty : FieldType} {a : Addr} {v v' old : Value} (w : (Jvm.Cond.fieldLink own idx R0 fn d).before a0 Z = true) (via : Via Z R0 O fn d) (F : Fld Z h a O fn d old) (E : Exa Z h a cn) (L : (Jvm.Cond.lays cn O fn d).before a0 Z = true ∨ ((Jvm.Cond.laysFinal cn O fn d).before a0 Z = true ∧ own = O ∧ meth.name = "<init>")) (wi : (Jvm.Cond.instantiable cn kk).before a0 Z = true) (ga : n0 ≤ a)
    (hty : parseFieldDescriptor d = some ty) (hn : narrow ty v = v') (hf : fits ty v' = true) (hp : pc + 3 = pc') (hd : decode bytes pc = .ok (.putfield idx, 3))
    (hr : ∀ T' h', Wr h h' a (Jvm.RoadKit.slotOf Z O fn d) v' → St Z p l e R s m args below meth c n0 T' h' k n → Go p e below Q (T'.setTop (mkF m pc' Ls st))) : Go p e below Q (T.setTop (mkF m pc Ls (v :: .ref a :: st))) := by
  subst hp
  obtain ⟨locs, Y, N, zs, eT⟩ := X
  obtain ⟨T', h', X', e', W, stp⟩ := putFN Y C.1 C.hZ C.ow w via eT F E L wi hty hn hf (g := mkF m pc Ls (v :: .ref a :: st)) rfl rfl (C.cd hd)
  exact Go.back stp (hr T' h' W ⟨_, X', Fr.snoc X' N ga, zs, e'⟩)
theorem go_new (C : Cx p s m meth c Z a0 own bytes maxL ret nm) (X : St Z p l e R s m args below meth c n0 T h k n) {cn : String} {kk : Nat} (w : (Jvm.Cond.classLink own idx cn).before a0 Z = true) (wi : (Jvm.Cond.instantiable cn kk).before a0 Z = true) (wz : (Jvm.Cond.initialized cn).before a0 Z = true) (hc : k + 1 ≤ R.cells) (hl : n + kk ≤ R.slots) (hp : pc + 3 = pc') (hd : decode bytes pc = .ok (.new idx, 3))
    (hr : ∀ T' h' a, a = h.size → n0 ≤ a → Ext h h' → Exa Z h' a cn → (∀ {O fn d : String} {ty : FieldType}, Laid Z a0 cn O fn d → parseFieldDescriptor d = some ty → Fld Z h' a O fn d (defaultValue ty)) → St Z p l e R s m args below meth c n0 T' h' (k + 1) (n + kk) → Go p e below Q (T'.setTop (mkF m pc' Ls (.ref a :: st)))) : Go p e below Q (T.setTop (mkF m pc Ls st)) := by
  subst hp
  have hsz := X.sz
  obtain ⟨locs, Y, N, zs, eT⟩ := X
  obtain ⟨T', h', X', e', E, A, D, -, stp⟩ := newO Y C.1 C.hZ C.ow w wi wz eT (g := mkF m pc Ls st) rfl (C.cd hd) hc hl
  exact Go.back stp (hr T' h' _ rfl hsz E A D ⟨_, X', N, zs, e'⟩)
/-- an array whose components are vs -/
def La (Z : State) (h : Heap) (a : Addr) (ty : FieldType) (vs : List Value) : Prop := ∃ c : Cell, Arr Z h a c ty ∧ c.slots = vs.toArray ∧ vs.length < 2 ^ 31 ∧ ∀ v ∈ vs, fits ty v = true
theorem La.lt {a : Addr} {ty : FieldType} {vs : List Value} (F : La Z h a ty vs) : a < h.size := by obtain ⟨c, A, -⟩ := F; exact A.lt
theorem La.len {a : Addr} {ty : FieldType} {vs : List Value} (F : La Z h a ty vs) : vs.length < 2 ^ 31 := by obtain ⟨c, A, -, q, -⟩ := F; exact q
theorem La.ext {h' : Heap} {a : Addr} {ty : FieldType} {vs : List Value} (F : La Z h a ty vs) (E : Ext h h') : La Z h' a ty vs := by obtain ⟨c, A, r⟩ := F; exact ⟨c, A.ext E, r⟩
theorem La.other {h' : Heap} {a b : Addr} {sl : Nat} {v : Value} {ty : FieldType} {vs : List Value} (F : La Z h b ty vs) (W : Wr h h' a sl v) (q : b ≠ a) : La Z h' b ty vs := by obtain ⟨c, A, r⟩ := F; exact ⟨c, A.other W q, r⟩
theorem La.keep {h' : Heap} {a : Addr} {ws : List Addr} {ty : FieldType} {vs : List Value} (F : La Z h a ty vs) (K : Keep h h' ws) (q : a ∉ ws) : La Z h' a ty vs := by obtain ⟨c, A, r⟩ := F; exact ⟨c, ⟨K.2.1 a c A.1 q, A.2⟩, r⟩
theorem La.set {h' : Heap} {a : Addr} {j : Nat} {v : Value} {ty : FieldType} {vs : List Value} (F : La Z h a ty vs) (W : Wr h h' a j v) (hv : fits ty v = true) : La Z h' a ty (vs.set j v) := by
  obtain ⟨c, A, e1, e2, e3⟩ := F
  refine ⟨_, A.same W, ?_, by simpa using e2, fun w hw => ?_⟩
  · simp [Cell.setSlot, e1]
  · rcases List.mem_or_eq_of_mem_set hw with q | q
    · exact e3 w q
    · subst q; exact hv
theorem clamp_eq {j : Int32} (q : 0 ≤ j.toInt) : (j.toNatClampNeg : Int) = j.toInt := by show ((j.toInt.toNat : Nat) : Int) = _; omega
theorem neg_not {j : Int32} (q : 0 ≤ j.toInt) : ¬ j < 0 := by rw [Int32.lt_iff_toInt_lt]; have : (0 : Int32).toInt = 0 := rfl; omega
theorem La.inb {c : Cell} {vs : List Value} {j : Int32} {v : Value} (e : c.slots = vs.toArray) (q : 0 ≤ j.toInt) (hv : vs[j.toNatClampNeg]? = some v) : ¬ (j < 0 ∨ c.slots.size ≤ j.toNatClampNeg) ∧ c.slots[j.toNatClampNeg]? = some v := by
  obtain ⟨hl, -⟩ := List.getElem?_eq_some_iff.mp hv
  refine ⟨fun r => r.elim (neg_not q) fun r => ?_, by rw [e]; simpa using hv⟩
  rw [e] at r; simp at r; omega
theorem go_alen (C : Cx p s m meth c Z a0 own bytes maxL ret nm) (X : St Z p l e R s m args below meth c n0 T h k n) {a : Addr} {ty : FieldType} {vs : List Value} {z : Int32} (A : La Z h a ty vs) (hz : vs.length.toInt32 = z) (hp : pc + 1 = pc') (hd : decode bytes pc = .ok (.arraylength, 1)) (hr : Go p e below Q (T.setTop (mkF m pc' Ls (.int z :: st)))) : Go p e below Q (T.setTop (mkF m pc Ls (.ref a :: st))) := by
  subst hp
  obtain ⟨locs, Y, N, zs, eT⟩ := X
  obtain ⟨cl, B, e1, e2, e3⟩ := A
  have ez : cl.slots.size.toInt32 = z := by rw [e1]; simpa using hz
  subst ez
  exact Go.back (fun t kt => Y.arraylength C.1 (by rw [eT]; exact B.1) (State.isArrayOf_alike C.hZ.alike B.2.1) (g := mkF m pc Ls (.ref a :: st)) rfl rfl (C.cd hd) t kt) hr

theorem go_iaload (C : Cx p s m meth c Z a0 own bytes maxL ret nm) (X : St Z p l e R s m args below meth c n0 T h k n) {a : Addr} {vs : List Value} {j : Int32} {v : Value} (A : La Z h a .int vs) (q : 0 ≤ j.toInt) (hv : vs[j.toNatClampNeg]? = some v) (hp : pc + 1 = pc') (hd : decode bytes pc = .ok (.iaload, 1)) (hr : Go p e below Q (T.setTop (mkF m pc' Ls (v :: st)))) : Go p e below Q (T.setTop (mkF m pc Ls (.int j :: .ref a :: st))) := by
  subst hp
  obtain ⟨locs, Y, N, zs, eT⟩ := X
  obtain ⟨cl, B, e1, e2, e3⟩ := A
  obtain ⟨i1, i2⟩ := La.inb e1 q hv
  exact Go.back (fun t kt => Y.iaload C.1 (by rw [eT]; exact B.1) (State.isArrayOf_alike C.hZ.alike B.2.1) B.2.2 i1 i2 (g := mkF m pc Ls (.int j :: .ref a :: st)) rfl rfl (C.cd hd) t kt) hr
theorem go_laload (C : Cx p s m meth c Z a0 own bytes maxL ret nm) (X : St Z p l e R s m args below meth c n0 T h k n) {a : Addr} {vs : List Value} {j : Int32} {v : Value} (A : La Z h a .long vs) (q : 0 ≤ j.toInt) (hv : vs[j.toNatClampNeg]? = some v) (hp : pc + 1 = pc') (hd : decode bytes pc = .ok (.laload, 1)) (hr : Go p e below Q (T.setTop (mkF m pc' Ls (v :: st)))) : Go p e below Q (T.setTop (mkF m pc Ls (.int j :: .ref a :: st))) := by
  subst hp
  obtain ⟨locs, Y, N, zs, eT⟩ := X
  obtain ⟨cl, B, e1, e2, e3⟩ := A
  obtain ⟨i1, i2⟩ := La.inb e1 q hv
  exact Go.back (fun t kt => Y.laload C.1 (by rw [eT]; exact B.1) (State.isArrayOf_alike C.hZ.alike B.2.1) B.2.2 i1 i2 (g := mkF m pc Ls (.int j :: .ref a :: st)) rfl rfl (C.cd hd) t kt) hr
theorem go_caload (C : Cx p s m meth c Z a0 own bytes maxL ret nm) (X : St Z p l e R s m args below meth c n0 T h k n) {a : Addr} {vs : List Value} {j : Int32} {v : Value} (A : La Z h a .char vs) (q : 0 ≤ j.toInt) (hv : vs[j.toNatClampNeg]? = some v) (hp : pc + 1 = pc') (hd : decode bytes pc = .ok (.caload, 1)) (hr : Go p e below Q (T.setTop (mkF m pc' Ls (v :: st)))) : Go p e below Q (T.setTop (mkF m pc Ls (.int j :: .ref a :: st))) := by
  subst hp
  obtain ⟨locs, Y, N, zs, eT⟩ := X
  obtain ⟨cl, B, e1, e2, e3⟩ := A
  obtain ⟨i1, i2⟩ := La.inb e1 q hv
  exact Go.back (fun t kt => Y.caload C.1 (by rw [eT]; exact B.1) (State.isArrayOf_alike C.hZ.alike B.2.1) B.2.2 i1 i2 (g := mkF m pc Ls (.int j :: .ref a :: st)) rfl rfl (C.cd hd) t kt) hr
theorem go_saload (C : Cx p s m meth c Z a0 own bytes maxL ret nm) (X : St Z p l e R s m args below meth c n0 T h k n) {a : Addr} {vs : List Value} {j : Int32} {v : Value} (A : La Z h a .short vs) (q : 0 ≤ j.toInt) (hv : vs[j.toNatClampNeg]? = some v) (hp : pc + 1 = pc') (hd : decode bytes pc = .ok (.saload, 1)) (hr : Go p e below Q (T.setTop (mkF m pc' Ls (v :: st)))) : Go p e below Q (T.setTop (mkF m pc Ls (.int j :: .ref a :: st))) := by
  subst hp
  obtain ⟨locs, Y, N, zs, eT⟩ := X
  obtain ⟨cl, B, e1, e2, e3⟩ := A
  obtain ⟨i1, i2⟩ := La.inb e1 q hv
  exact Go.back (fun t kt => Y.saload C.1 (by rw [eT]; exact B.1) (State.isArrayOf_alike C.hZ.alike B.2.1) B.2.2 i1 i2 (g := mkF m pc Ls (.int j :: .ref a :: st)) rfl rfl (C.cd hd) t kt) hr
theorem go_daload (C : Cx p s m meth c Z a0 own bytes maxL ret nm) (X : St Z p l e R s m args below meth c n0 T h k n) {a : Addr} {vs : List Value} {j : Int32} {v : Value} (A : La Z h a .double vs) (q : 0 ≤ j.toInt) (hv : vs[j.toNatClampNeg]? = some v) (hp : pc + 1 = pc') (hd : decode bytes pc = .ok (.daload, 1)) (hr : Go p e below Q (T.setTop (mkF m pc' Ls (v :: st)))) : Go p e below Q (T.setTop (mkF m pc Ls (.int j :: .ref a :: st))) := by
  subst hp
  obtain ⟨locs, Y, N, zs, eT⟩ := X
  obtain ⟨cl, B, e1, e2, e3⟩ := A
  obtain ⟨i1, i2⟩ := La.inb e1 q hv
  exact Go.back (fun t kt => Y.daload C.1 (by rw [eT]; exact B.1) (State.isArrayOf_alike C.hZ.alike B.2.1) B.2.2 i1 i2 (g := mkF m pc Ls (.int j :: .ref a :: st)) rfl rfl (C.cd hd) t kt) hr
theorem go_baloadBytes (C : Cx p s m meth c Z a0 own bytes maxL ret nm) (X : St Z p l e R s m args below meth c n0 T h k n) {a : Addr} {vs : List Value} {j : Int32} {v : Value} (A : La Z h a .byte vs) (q : 0 ≤ j.toInt) (hv : vs[j.toNatClampNeg]? = some v) (hp : pc + 1 = pc') (hd : decode bytes pc = .ok (.baload, 1)) (hr : Go p e below Q (T.setTop (mkF m pc' Ls (v :: st)))) : Go p e below Q (T.setTop (mkF m pc Ls (.int j :: .ref a :: st))) := by
  subst hp
  obtain ⟨locs, Y, N, zs, eT⟩ := X
  obtain ⟨cl, B, e1, e2, e3⟩ := A
  obtain ⟨i1, i2⟩ := La.inb e1 q hv
  exact Go.back (fun t kt => Y.baloadBytes C.1 (by rw [eT]; exact B.1) (State.isArrayOf_alike C.hZ.alike B.2.1) B.2.2 i1 i2 (g := mkF m pc Ls (.int j :: .ref a :: st)) rfl rfl (C.cd hd) t kt) hr
theorem go_baloadBooleans (C : Cx p s m meth c Z a0 own bytes maxL ret nm) (X : St Z p l e R s m args below meth c n0 T h k n) {a : Addr} {vs : List Value} {j : Int32} {v : Value} (A : La Z h a .boolean vs) (q : 0 ≤ j.toInt) (hv : vs[j.toNatClampNeg]? = some v) (hp : pc + 1 = pc') (hd : decode bytes pc = .ok (.baload, 1)) (hr : Go p e below Q (T.setTop (mkF m pc' Ls (v :: st)))) : Go p e below Q (T.setTop (mkF m pc Ls (.int j :: .ref a :: st))) := by
  subst hp
  obtain ⟨locs, Y, N, zs, eT⟩ := X
  obtain ⟨cl, B, e1, e2, e3⟩ := A
  obtain ⟨i1, i2⟩ := La.inb e1 q hv
  exact Go.back (fun t kt => Y.baloadBooleans C.1 (by rw [eT]; exact B.1) (State.isArrayOf_alike C.hZ.alike B.2.1) B.2.2 i1 i2 (g := mkF m pc Ls (.int j :: .ref a :: st)) rfl rfl (C.cd hd) t kt) hr
theorem go_aaload (C : Cx p s m meth c Z a0 own bytes maxL ret nm) (X : St Z p l e R s m args below meth c n0 T h k n) {a : Addr} {vs : List Value} {ty : FieldType} {j : Int32} {v : Value} (A : La Z h a ty vs) (ht : ty.isReference = true) (q : 0 ≤ j.toInt) (hv : vs[j.toNatClampNeg]? = some v) (hp : pc + 1 = pc') (hd : decode bytes pc = .ok (.aaload, 1)) (hr : Go p e below Q (T.setTop (mkF m pc' Ls (v :: st)))) : Go p e below Q (T.setTop (mkF m pc Ls (.int j :: .ref a :: st))) := by
  subst hp
  obtain ⟨locs, Y, N, zs, eT⟩ := X
  obtain ⟨cl, B, e1, e2, e3⟩ := A
  obtain ⟨i1, i2⟩ := La.inb e1 q hv
  exact Go.back (fun t kt => Y.aaload C.1 (by rw [eT]; exact B.1) (State.isArrayOf_alike C.hZ.alike B.2.1) ht B.2.2 i1 i2 (g := mkF m pc Ls (.int j :: .ref a :: st)) rfl rfl (C.cd hd) t kt) hr
theorem go_iastore (C : Cx p s m meth c Z a0 own bytes maxL ret nm) (X : St Z p l e R s m args below meth c n0 T h k n) {a : Addr} {vs : List Value} {j : Int32} {x : Int32} (A : La Z h a .int vs) (q : 0 ≤ j.toInt) (hj : j.toInt < vs.length) (ga : n0 ≤ a) (hp : pc + 1 = pc') (hd : decode bytes pc = .ok (.iastore, 1))
    (hr : ∀ T' h', Wr h h' a j.toNatClampNeg (.int x) → La Z h' a .int (vs.set j.toNatClampNeg (.int x)) → St Z p l e R s m args below meth c n0 T' h' k n → Go p e below Q (T'.setTop (mkF m pc' Ls st))) : Go p e below Q (T.setTop (mkF m pc Ls (.int x :: .int j :: .ref a :: st))) := by
  subst hp
  obtain ⟨locs, Y, N, zs, eT⟩ := X
  have A' := A
  obtain ⟨cl, B, e1, e2, e3⟩ := A
  have i1 : ¬ (j < 0 ∨ cl.slots.size ≤ j.toNatClampNeg) := fun r => r.elim (neg_not q) fun r => by
    rw [e1] at r; simp at r; have := clamp_eq q; omega
  obtain ⟨T', h', X', e', W, stp⟩ := stI Y C.1 C.hZ eT B i1 (g := mkF m pc Ls (.int x :: .int j :: .ref a :: st)) rfl rfl (C.cd hd)
  exact Go.back stp (hr T' h' W (A'.set W rfl) ⟨_, X', Fr.snoc X' N ga, zs, e'⟩)
theorem go_lastore (C : Cx p s m meth c Z a0 own bytes maxL ret nm) (X : St Z p l e R s m args below meth c n0 T h k n) {a : Addr} {vs : List Value} {j : Int32} {x : Int64} (A : La Z h a .long vs) (q : 0 ≤ j.toInt) (hj : j.toInt < vs.length) (ga : n0 ≤ a) (hp : pc + 1 = pc') (hd : decode bytes pc = .ok (.lastore, 1))
    (hr : ∀ T' h', Wr h h' a j.toNatClampNeg (.long x) → La Z h' a .long (vs.set j.toNatClampNeg (.long x)) → St Z p l e R s m args below meth c n0 T' h' k n → Go p e below Q (T'.setTop (mkF m pc' Ls st))) : Go p e below Q (T.setTop (mkF m pc Ls (.long x :: .int j :: .ref a :: st))) := by
  subst hp
  obtain ⟨locs, Y, N, zs, eT⟩ := X
  have A' := A
  obtain ⟨cl, B, e1, e2, e3⟩ := A
  have i1 : ¬ (j < 0 ∨ cl.slots.size ≤ j.toNatClampNeg) := fun r => r.elim (neg_not q) fun r => by
    rw [e1] at r; simp at r; have := clamp_eq q; omega
  obtain ⟨T', h', X', e', W, stp⟩ := stJ Y C.1 C.hZ eT B i1 (g := mkF m pc Ls (.long x :: .int j :: .ref a :: st)) rfl rfl (C.cd hd)
  exact Go.back stp (hr T' h' W (A'.set W rfl) ⟨_, X', Fr.snoc X' N ga, zs, e'⟩)
theorem go_dastore (C : Cx p s m meth c Z a0 own bytes maxL ret nm) (X : St Z p l e R s m args below meth c n0 T h k n) {a : Addr} {vs : List Value} {j : Int32} {x : UInt64} (A : La Z h a .double vs) (q : 0 ≤ j.toInt) (hj : j.toInt < vs.length) (ga : n0 ≤ a) (hp : pc + 1 = pc') (hd : decode bytes pc = .ok (.dastore, 1))
    (hr : ∀ T' h', Wr h h' a j.toNatClampNeg (.double x) → La Z h' a .double (vs.set j.toNatClampNeg (.double x)) → St Z p l e R s m args below meth c n0 T' h' k n → Go p e below Q (T'.setTop (mkF m pc' Ls st))) : Go p e below Q (T.setTop (mkF m pc Ls (.double x :: .int j :: .ref a :: st))) := by
  subst hp
  obtain ⟨locs, Y, N, zs, eT⟩ := X
  have A' := A
  obtain ⟨cl, B, e1, e2, e3⟩ := A
  have i1 : ¬ (j < 0 ∨ cl.slots.size ≤ j.toNatClampNeg) := fun r => r.elim (neg_not q) fun r => by
    rw [e1] at r; simp at r; have := clamp_eq q; omega
  obtain ⟨T', h', X', e', W, stp⟩ := stD Y C.1 C.hZ eT B i1 (g := mkF m pc Ls (.double x :: .int j :: .ref a :: st)) rfl rfl (C.cd hd)
  exact Go.back stp (hr T' h' W (A'.set W rfl) ⟨_, X', Fr.snoc X' N ga, zs, e'⟩)
theorem go_newarr (C : Cx p s m meth c Z a0 own bytes maxL ret nm) (X : St Z p l e R s m args below meth c n0 T h k n) {aty : ArrayType} (w : (Jvm.Cond.arrayClass (newarray.typeOf aty)).before a0 Z = true) {z : Int32} {cap : Nat} (hz : 0 ≤ z.toInt) (hcap : z.toInt ≤ cap) (hb8 : cap * 8 ≤ 536870912) (hc : k + 1 ≤ R.cells) (hl : n + cap ≤ R.slots) (hp : pc + 2 = pc') (hd : decode bytes pc = .ok (.newarray aty, 2))
    (hr : ∀ T' h' a, a = h.size → n0 ≤ a → Ext h h' → La Z h' a (newarray.typeOf aty) (List.replicate z.toNatClampNeg (defaultValue (newarray.typeOf aty))) → St Z p l e R s m args below meth c n0 T' h' (k + 1) (n + cap) → Go p e below Q (T'.setTop (mkF m pc' Ls (.ref a :: st)))) : Go p e below Q (T.setTop (mkF m pc Ls (.int z :: st))) := by
  subst hp
  have hsz := X.sz
  obtain ⟨locs, Y, N, zs, eT⟩ := X
  have hzc := clamp_eq hz
  obtain ⟨T', h', cA, X', e', E, A, stp⟩ := newP Y C.1 C.hZ w eT (g := mkF m pc Ls (.int z :: st)) rfl (C.cd hd) rfl (neg_not hz) (cap := cap) (by omega) hb8 hc hl
  refine Go.back stp (hr T' h' _ rfl hsz E ⟨_, A, by simp [newA], ?_, fun v hv => ?_⟩ ⟨_, X', N, zs, e'⟩)
  · have := z.toInt_lt; simp; omega
  · obtain ⟨-, rfl⟩ := List.mem_replicate.mp hv; cases aty <;> rfl
theorem go_newarrE (C : Cx p s m meth c Z a0 own bytes maxL ret nm) (X : St Z p l e R s m args below meth c n0 T h k n) {aty : ArrayType} (w : (Jvm.Cond.arrayClass (newarray.typeOf aty)).before a0 Z = true) {z : Int32} {cap : Nat} {ad : String} (had : "[" ++ (newarray.typeOf aty).toString = ad) (hz : 0 ≤ z.toInt) (hcap : z.toInt ≤ cap) (hb8 : cap * 8 ≤ 536870912) (hc : k + 1 ≤ R.cells) (hl : n + cap ≤ R.slots) (hp : pc + 2 = pc') (hd : decode bytes pc = .ok (.newarray aty, 2))
    (hr : ∀ T' h' a, a = h.size → n0 ≤ a → Ext h h' → La Z h' a (newarray.typeOf aty) (List.replicate z.toNatClampNeg (defaultValue (newarray.typeOf aty))) → Exa Z h' a ad → St Z p l e R s m args below meth c n0 T' h' (k + 1) (n + cap) → Go p e below Q (T'.setTop (mkF m pc' Ls (.ref a :: st)))) : Go p e below Q (T.setTop (mkF m pc Ls (.int z :: st))) := by
  subst hp
  have hsz := X.sz
  obtain ⟨locs, Y, N, zs, eT⟩ := X
  have hzc := clamp_eq hz
  obtain ⟨T', h', cA, X', e', E, A, EX, stp⟩ := newPE Y C.1 C.hZ w eT (g := mkF m pc Ls (.int z :: st)) rfl (C.cd hd) rfl (neg_not hz) (cap := cap) (by omega) hb8 hc hl had
  refine Go.back stp (hr T' h' _ rfl hsz E ⟨_, A, by simp [newA], ?_, fun v hv => ?_⟩ EX ⟨_, X', N, zs, e'⟩)
  · have := z.toInt_lt; simp; omega
  · obtain ⟨-, rfl⟩ := List.mem_replicate.mp hv; cases aty <;> rfl
theorem go_ifnull_n (C : Cx p s m meth c Z a0 own bytes maxL ret nm) (X : St Z p l e R s m args below meth c n0 T h k n) {o : Int} (hd : decode bytes pc = .ok (.ifnull o, 3)) (ho : 0 ≤ (pc : Int) + o) (hp2 : ((pc : Int) + o).toNat = pc2) (hr : Go p e below Q (T.setTop (mkF m pc2 Ls st))) : Go p e below Q (T.setTop (mkF m pc Ls (.null :: st))) := by
  obtain ⟨locs, Y, -, -, -⟩ := X
  exact Go.back (fun t kt => Jvm.Free.XS.ifnullYes Y.here C.1 rfl (pc0 := pc) rfl (C.cd hd) rfl ho hp2 kt) hr
theorem go_ifnull_r (C : Cx p s m meth c Z a0 own bytes maxL ret nm) (X : St Z p l e R s m args below meth c n0 T h k n) {o : Int} {b : Addr} (hp : pc + 3 = pc') (hd : decode bytes pc = .ok (.ifnull o, 3)) (hr : Go p e below Q (T.setTop (mkF m pc' Ls st))) : Go p e below Q (T.setTop (mkF m pc Ls (.ref b :: st))) := by
  subst hp
  obtain ⟨locs, Y, -, -, -⟩ := X
  exact Go.back (fun t kt => Jvm.Free.XS.ifnullNo Y.here C.1 rfl (C.cd hd) rfl kt) hr
theorem go_ifnonnull_r (C : Cx p s m meth c Z a0 own bytes maxL ret nm) (X : St Z p l e R s m args below meth c n0 T h k n) {o : Int} {b : Addr} (hd : decode bytes pc = .ok (.ifnonnull o, 3)) (ho : 0 ≤ (pc : Int) + o) (hp2 : ((pc : Int) + o).toNat = pc2) (hr : Go p e below Q (T.setTop (mkF m pc2 Ls st))) : Go p e below Q (T.setTop (mkF m pc Ls (.ref b :: st))) := by
  obtain ⟨locs, Y, -, -, -⟩ := X
  exact Go.back (fun t kt => Jvm.Free.XS.ifnonnullYes Y.here C.1 rfl (pc0 := pc) rfl (C.cd hd) rfl ho hp2 kt) hr
theorem go_ifnonnull_n (C : Cx p s m meth c Z a0 own bytes maxL ret nm) (X : St Z p l e R s m args below meth c n0 T h k n) {o : Int} (hp : pc + 3 = pc') (hd : decode bytes pc = .ok (.ifnonnull o, 3)) (hr : Go p e below Q (T.setTop (mkF m pc' Ls st))) : Go p e below Q (T.setTop (mkF m pc Ls (.null :: st))) := by
  subst hp
  obtain ⟨locs, Y, -, -, -⟩ := X
  exact Go.back (fun t kt => Jvm.Free.XS.ifnonnullNo Y.here C.1 rfl (C.cd hd) rfl kt) hr
theorem go_acmp_eq (C : Cx p s m meth c Z a0 own bytes maxL ret nm) (X : St Z p l e R s m args below meth c n0 T h k n) {o : Int} {x y : Value} (hx : x.isRef = true) (hy : y.isRef = true) (hd : decode bytes pc = .ok (.if_acmp .eq o, 3)) (hp : pc + 3 = pc') (ho : 0 ≤ (pc : Int) + o) (hp2 : ((pc : Int) + o).toNat = pc2) (h1 : x = y → Go p e below Q (T.setTop (mkF m pc2 Ls st))) (h2 : ¬ x = y → Go p e below Q (T.setTop (mkF m pc' Ls st))) : Go p e below Q (T.setTop (mkF m pc Ls (y :: x :: st))) := by
  obtain ⟨locs, Y, -, -, -⟩ := X
  by_cases q : x = y
  · exact Go.back (fun t kt => acmp (g := mkF m pc Ls (y :: x :: st)) Y C.1 rfl hx hy (pc0 := pc) (pc' := pc2) (same := true) rfl (C.cd hd) rfl (decide_eq_true q) ho (by simp [acV, hp2]) kt) (h1 q)
  · exact Go.back (fun t kt => acmp (g := mkF m pc Ls (y :: x :: st)) Y C.1 rfl hx hy (pc0 := pc) (pc' := pc') (same := false) rfl (C.cd hd) rfl (decide_eq_false q) ho (by simp [acV, hp]) kt) (h2 q)
theorem go_acmp_ne (C : Cx p s m meth c Z a0 own bytes maxL ret nm) (X : St Z p l e R s m args below meth c n0 T h k n) {o : Int} {x y : Value} (hx : x.isRef = true) (hy : y.isRef = true) (hd : decode bytes pc = .ok (.if_acmp .ne o, 3)) (hp : pc + 3 = pc') (ho : 0 ≤ (pc : Int) + o) (hp2 : ((pc : Int) + o).toNat = pc2) (h1 : ¬ x = y → Go p e below Q (T.setTop (mkF m pc2 Ls st))) (h2 : x = y → Go p e below Q (T.setTop (mkF m pc' Ls st))) : Go p e below Q (T.setTop (mkF m pc Ls (y :: x :: st))) := by
  obtain ⟨locs, Y, -, -, -⟩ := X
  by_cases q : x = y
  · exact Go.back (fun t kt => acmp (g := mkF m pc Ls (y :: x :: st)) Y C.1 rfl hx hy (pc0 := pc) (pc' := pc') (same := true) rfl (C.cd hd) rfl (decide_eq_true q) ho (by simp [acV, hp]) kt) (h2 q)
  · exact Go.back (fun t kt => acmp (g := mkF m pc Ls (y :: x :: st)) Y C.1 rfl hx hy (pc0 := pc) (pc' := pc2) (same := false) rfl (C.cd hd) rfl (decide_eq_false q) ho (by simp [acV, hp2]) kt) (h1 q)
theorem go_cast (C : Cx p s m meth c Z a0 own bytes maxL ret nm) (X : St Z p l e R s m args below meth c n0 T h k n) {cn : String} {a : Addr} (w : (Jvm.Cond.classLink own idx cn).before a0 Z = true) (F : Ins Z h a cn true) (hp : pc + 3 = pc') (hd : decode bytes pc = .ok (.checkcast idx, 3)) (hr : ∀ T', St Z p l e R s m args below meth c n0 T' h k n → Go p e below Q (T'.setTop (mkF m pc' Ls (.ref a :: st)))) : Go p e below Q (T.setTop (mkF m pc Ls (.ref a :: st))) := by
  subst hp
  obtain ⟨locs, Y, N, zs, eT⟩ := X
  obtain ⟨T', X', e', stp⟩ := castY Y C.1 C.hZ C.ow w eT F (g := mkF m pc Ls (.ref a :: st)) rfl rfl (C.cd hd)
  exact Go.back stp (hr T' ⟨_, X', N, zs, e'⟩)
theorem go_clone (C : Cx p s m meth c Z a0 own bytes maxL ret nm) (X : St Z p l e R s m args below meth c n0 T h k n) {ad : String} {a : Addr} {ty : FieldType} {vs : List Value} {cap : Nat} (w1 : (Jvm.Cond.methodLink own idx ⟨ad, "clone", "()Ljava/lang/Object;"⟩).before a0 Z = true) (w2 : (Jvm.Cond.sameMethod ad "java/lang/Object" "clone" "()Ljava/lang/Object;").before a0 Z = true) (w3 : (Jvm.Cond.native ⟨"java/lang/Object", "clone", "()Ljava/lang/Object;"⟩).before a0 Z = true)
    (w4 : (Jvm.Cond.instanceMethod ⟨"java/lang/Object", "clone", "()Ljava/lang/Object;"⟩).before a0 Z = true) (w5 : (Jvm.Cond.selects ad ⟨ad, "clone", "()Ljava/lang/Object;"⟩ ⟨"java/lang/Object", "clone", "()Ljava/lang/Object;"⟩).before a0 Z = true) (w6 : (Jvm.Cond.castable ad "java/lang/Cloneable").before a0 Z = true)
    (A : La Z h a ty vs) (E : Exa Z h a ad) (hf : 1 ≤ R.frames) (hl : (st.map fun v => v.category).sum + 14 ≤ R.locals) (hcap : vs.length ≤ cap) (hc : k + 1 ≤ R.cells) (hsl : n + cap ≤ R.slots) (hsz : Ls.size = maxL) (hp : pc + 3 = pc') (hd : decode bytes pc = .ok (.invokevirtual idx, 3))
    (hr : ∀ T' h' b, b = h.size → n0 ≤ b → Ext h h' → La Z h' b ty vs → Exa Z h' b ad → St Z p l e R s m args below meth c n0 T' h' (k + 1) (n + cap) → Go p e below Q (T'.setTop (mkF m pc' Ls (.ref b :: st)))) : Go p e below Q (T.setTop (mkF m pc Ls (.ref a :: st))) := by
  subst hp
  have hs0 := X.sz
  obtain ⟨locs, Y, N, zs, eT⟩ := X
  obtain ⟨cl, B, e1, e2, e3⟩ := A
  have FC : FitC Z cl := fitC_of B fun i hi v hv => e3 v (by rw [e1] at hv; simp at hv; exact List.mem_of_getElem? hv)
  obtain ⟨T', h', X', e', ex, A', E', stp⟩ := cloneA Y C.1 C.hZ C.ow w1 w2 w3 w4 w5 w6 eT B E FC (g := mkF m pc Ls (.ref a :: st)) rfl (hsz.trans C.ml.symm) rfl (C.cd hd) hf (W := (st.map fun v => v.category).sum) (cap := cap) (by show 2 * 0 + _ ≤ _; omega) hl (by rw [e1]; simpa using hcap) hc hsl
  exact Go.back stp (hr T' h' _ rfl hs0 ex ⟨_, A', e1, e2, e3⟩ E' ⟨_, X', N, zs, e'⟩)

theorem Laid.of {cn O fn d : String} (w : (Jvm.Cond.lays cn O fn d).before a0 Z = true) : Laid Z a0 cn O fn d := Or.inl w
theorem Laid.ofF {cn O fn d : String} (w : (Jvm.Cond.laysFinal cn O fn d).before a0 Z = true) : Laid Z a0 cn O fn d := Or.inr w
end Steps1
/-! numbers -/
theorem i_add {a b : Int32} {x y : Int} (ha : a.toInt = x) (hb : b.toInt = y) (h1 : -2147483648 ≤ x + y) (h2 : x + y < 2147483648) : (a + b).toInt = x + y := by have := c_iadd a b; have := rng32 (a + b); omega
theorem i_sub {a b : Int32} {x y : Int} (ha : a.toInt = x) (hb : b.toInt = y) (h1 : -2147483648 ≤ x - y) (h2 : x - y < 2147483648) : (a - b).toInt = x - y := by have := c_isub a b; have := rng32 (a - b); omega
theorem i_mul {a b : Int32} {x y : Int} (ha : a.toInt = x) (hb : b.toInt = y) (h1 : -2147483648 ≤ x * y) (h2 : x * y < 2147483648) : (a * b).toInt = x * y := by have := c_imul a b; have := rng32 (a * b); rw [ha, hb] at *; generalize x * y = z at *; omega
theorem l_add {a b : Int64} {x y : Int} (ha : a.toInt = x) (hb : b.toInt = y) (h1 : -9223372036854775808 ≤ x + y) (h2 : x + y < 9223372036854775808) : (a + b).toInt = x + y := by have := c_ladd a b; have := rng64 (a + b); omega
theorem l_sub {a b : Int64} {x y : Int} (ha : a.toInt = x) (hb : b.toInt = y) (h1 : -9223372036854775808 ≤ x - y) (h2 : x - y < 9223372036854775808) : (a - b).toInt = x - y := by have := c_lsub a b; have := rng64 (a - b); omega
theorem l_mul {a b : Int64} {x y : Int} (ha : a.toInt = x) (hb : b.toInt = y) (h1 : -9223372036854775808 ≤ x * y) (h2 : x * y < 9223372036854775808) : (a * b).toInt = x * y := by have := c_lmul a b; have := rng64 (a * b); rw [ha, hb] at *; generalize x * y = z at *; omega
theorem i_div {a b : Int32} {x y : Int} (ha : a.toInt = x) (hb : b.toInt = y) (h1 : 0 ≤ x) (h2 : 0 < y) : (a / b).toInt = x / y := by
  have := (c_idiv a b y hb (fun q => by subst q; have : (-1 : Int32).toInt = -1 := rfl; omega)).1 (by omega); rw [this, ha]
theorem l_div {a b : Int64} {x y : Int} (ha : a.toInt = x) (hb : b.toInt = y) (h1 : 0 ≤ x) (h2 : 0 < y) : (a / b).toInt = x / y := by
  have := (c_ldiv a b y hb (fun q => by subst q; have : (-1 : Int64).toInt = -1 := rfl; omega)).1 (by omega); rw [this, ha]
theorem i_rem {a b : Int32} {x y : Int} (ha : a.toInt = x) (hb : b.toInt = y) (h1 : 0 ≤ x) : (a % b).toInt = x % y := by
  have := (c_irem a b y hb).1 (by omega); rw [this, ha]
theorem l_rem {a b : Int64} {x y : Int} (ha : a.toInt = x) (hb : b.toInt = y) (h1 : 0 ≤ x) : (a % b).toInt = x % y := by
  rw [← lrem_mod]; have := (c_lrem a b y hb).1 (by omega); rw [this, ha]
/-- arrays of ints and longs as lists -/
def ia (xs : List Int32) : List Value := xs.map Value.int
def ja (xs : List Int64) : List Value := xs.map Value.long
def at32 (xs : List Int32) (i : Int32) : Int32 := xs.getD i.toNatClampNeg 0
def at64 (xs : List Int64) (i : Int32) : Int64 := xs.getD i.toNatClampNeg 0
def put32 (xs : List Int32) (i y : Int32) : List Int32 := xs.set i.toNatClampNeg y
def put64 (xs : List Int64) (i : Int32) (y : Int64) : List Int64 := xs.set i.toNatClampNeg y
theorem clamp_lt {i : Int32} {n : Nat} (h0 : 0 ≤ i.toInt) (h1 : i.toInt < n) : i.toNatClampNeg < n := by
  have := clamp_eq h0
  omega
theorem ia_at {xs : List Int32} {i : Int32} (h0 : 0 ≤ i.toInt) (h1 : i.toInt < xs.length) : (ia xs)[i.toNatClampNeg]? = some (.int (at32 xs i)) := by
  have := clamp_lt h0 h1; simp [ia, at32, this]
theorem ja_at {xs : List Int64} {i : Int32} (h0 : 0 ≤ i.toInt) (h1 : i.toInt < xs.length) : (ja xs)[i.toNatClampNeg]? = some (.long (at64 xs i)) := by
  have := clamp_lt h0 h1; simp [ja, at64, this]
theorem ia_put (xs : List Int32) (i y : Int32) : (ia xs).set i.toNatClampNeg (.int y) = ia (put32 xs i y) := by simp [ia, put32, List.map_set]
theorem ja_put (xs : List Int64) (i : Int32) (y : Int64) : (ja xs).set i.toNatClampNeg (.long y) = ja (put64 xs i y) := by simp [ja, put64, List.map_set]
theorem ia_len (xs : List Int32) : (ia xs).length = xs.length := by simp [ia]
theorem ja_len (xs : List Int64) : (ja xs).length = xs.length := by simp [ja]
theorem put32_len (xs : List Int32) (i y : Int32) : (put32 xs i y).length = xs.length := by simp [put32]
theorem put64_len (xs : List Int64) (i : Int32) (y : Int64) : (put64 xs i y).length = xs.length := by simp [put64]
theorem La.of {Z : State} {h : Heap} {a : Addr} {ty : FieldType} {c : Cell} (A : Arr Z h a c ty) (vs : List Value) (hl : c.slots.size = vs.length) (h31 : vs.length < 2 ^ 31) (H : ∀ i, i < vs.length → c.slots[i]? = vs[i]?) (G : ∀ v ∈ vs, fits ty v = true) : La Z h a ty vs := by
  refine ⟨c, A, Array.ext_getElem? fun i => ?_, h31, G⟩
  by_cases q : i < vs.length
  · rw [H i q]; simp
  · rw [Array.getElem?_eq_none (by omega)]; simp; omega
theorem eqv_r {Z : State} {args : Array Value} {X F : Term} {idx : List Nat} {y : Addr} (hF : F.eval args Z none idx Z = some (.ref y)) (h : (Jvm.Cond.eq X F).value args Z none Z idx = some true) : X.eval args Z none idx Z = some (.ref y) := by
  simp only [Jvm.Cond.value, hF] at h
  cases hx : X.eval args Z none idx Z with
  | none => simp [hx] at h
  | some v => cases v <;> simp [hx] at h ⊢; exact h
theorem i_eq {a b : Int32} (h : a.toInt = b.toInt) : a = b := Int32.toInt_inj.mp h
theorem l_eq {a b : Int64} (h : a.toInt = b.toInt) : a = b := Int64.toInt_inj.mp h
theorem i_ne {a b : Int32} (h : ¬ a = b) : ¬ a.toInt = b.toInt := fun q => h (i_eq q)
theorem l_ne {a b : Int64} (h : ¬ a = b) : ¬ a.toInt = b.toInt := fun q => h (l_eq q)
section Steps2
variable {p : Program} {l : Launch} {e : Env} {R : Room} {s : State} {m : MethodId} {args : Array Value} {below : List Frame} {meth : Method} {c : Code} {Z : State} {a0 : Array Value} {own : String} {bytes : ByteArray} {maxL : Nat} {ret : Option FieldType} {nm : String} {n0 : Nat} {T : State} {h : Heap} {k n : Nat} {Q : Outcome → State → Prop} {pc pc' pc2 idx : Nat} {Ls Ls' : Array Slot} {st : List Value}
theorem la_arv {a : Addr} {ty : FieldType} {vs : List Value} (F : La Z h a ty vs) (d : Value) : ∃ k, Arv Z h a k ty (Int32.ofNat vs.length) vs d := by
  obtain ⟨c, A, e1, e2, e3⟩ := F
  have ec : (Int32.ofNat vs.length).toNatClampNeg = vs.length := Int32.toNatClampNeg_ofNat_of_lt e2
  refine ⟨c.cls, c, A, rfl, ?_, ?_, fun i hi => ?_, fun i hi => ?_⟩
  · rw [ec, e1]; simp
  · have q := Int32.toInt_ofNat_of_lt e2
    exact neg_not (by rw [q]; omega)
  · rw [e1] at hi ⊢; simp at hi; simp [hi]
  · rw [e1] at hi; simp at hi
    have q : vs.getD i d = vs[i] := by simp [hi]
    rw [q]; exact e3 _ (List.getElem_mem hi)
theorem arv_la {a : Addr} {kc : ClassId} {ty : FieldType} {z : Int32} {vs : List Value} {d : Value} (F : Arv Z h a kc ty z vs d) (hl : z.toNatClampNeg = vs.length) (h31 : vs.length < 2 ^ 31) : La Z h a ty vs := by
  obtain ⟨c, A, -, e2, -, H, G⟩ := F
  refine La.of A vs (e2.trans hl) h31 (fun i hi => ?_) (fun v hv => ?_)
  · rw [H i (by omega)]; simp [hi]
  · obtain ⟨i, hi, rfl⟩ := List.mem_iff_getElem.mp hv
    have q := G i (by omega)
    simpa [hi] using q
theorem go_copy0 (C : Cx p s m meth c Z a0 own bytes maxL ret nm) (X : St Z p l e R s m args below meth c n0 T h k n) {a b : Addr} {ty : FieldType} {vs vd : List Value} (w1 : (Jvm.Cond.methodLink own idx Jvm.Stand.acN).before a0 Z = true) (w2 : (Jvm.Cond.native Jvm.Stand.acN).before a0 Z = true) (w3 : (Jvm.Cond.static Jvm.Stand.acN).before a0 Z = true) (w4 : (Jvm.Cond.initialized "java/lang/System").before a0 Z = true) (A : La Z h a ty vs) (B : La Z h b ty vd) (hty : refKind ty = false) (ge : n0 ≤ b)
    (hf : 1 ≤ R.frames) (hl : (st.map fun v => v.category).sum + (nativeFrameWords "java/lang/System" "arraycopy" 5 + 11) ≤ R.locals) (hsz : Ls.size = maxL) (hp : pc + 3 = pc') (hd : decode bytes pc = .ok (.invokestatic idx, 3))
    (hr : ∀ T' h', Keep h h' [b] → La Z h' b ty vd → St Z p l e R s m args below meth c n0 T' h' k n → Go p e below Q (T'.setTop (mkF m pc' Ls st))) : Go p e below Q (T.setTop (mkF m pc Ls (.int 0 :: .int 0 :: .ref b :: .int 0 :: .ref a :: st))) := by
  subst hp
  obtain ⟨locs, Y, N, zs, eT⟩ := X
  obtain ⟨k1, A1⟩ := la_arv A .null
  obtain ⟨k2, B1⟩ := la_arv B .null
  have z0 : (0 : Int32).toNatClampNeg = 0 := by decide
  obtain ⟨T', h', L, X', e', N', K, B2, stp⟩ := cpA Y C.1 C.hZ C.ow w1 w2 w3 w4 eT A1 B1 (us := []) (sp := 0) (dp := 0) (nn := 0) (Or.inl ⟨rfl, hty⟩) (by decide) (by decide) (by decide) (by rw [z0]; omega) (by rw [z0]; omega) (by first | rfl | simp [z0]) (by rw [z0]; omega) N ge (g := mkF m pc Ls (.int 0 :: .int 0 :: .ref b :: .int 0 :: .ref a :: st)) rfl (hsz.trans C.ml.symm) rfl (C.cd hd) hf (W := (st.map fun v => v.category).sum) (by show 2 * 0 + _ ≤ _; omega) hl
  rw [z0] at B2
  have ev : vd.take 0 ++ [] ++ vd.drop (0 + 0) = vd := by simp
  rw [ev] at B2
  exact Go.back stp (hr T' h' K (arv_la B2 (Int32.toNatClampNeg_ofNat_of_lt B.len) B.len) ⟨_, X', N', zs, e'⟩)
end Steps2
section Wide
variable {p : Program} {l : Launch} {e : Env} {R : Room} {s s0 : State} {m : MethodId} {args : Array Value} {below : List Frame} {meth : Method} {c : Code} {Z : State} {a0 : Array Value} {own : String} {bytes : ByteArray} {maxL : Nat} {ret : Option FieldType} {nm : String} {n0 : Nat} {T : State} {h h' : Heap} {k n : Nat} {Q : Outcome → State → Prop} {pc pc' pc2 idx : Nat} {Ls Ls' : Array Slot} {st : List Value} {EL : List (String × Nat)} {kc kn : Nat} {Qy : Option Value → Heap → Prop} {y : MethodName} {yb : ByteArray} {yl : Nat} {yr : Option FieldType} {rm : Room} {as' : Array Value} {QY : Option Value → Heap → Prop} {argsL rest : List Value}
/-- beside St, in a walk that may intern: s is the true start s0 with the tables at hand; whatever is booked for an entry of EL says its text -/
def Wi (Z : State) (EL : List (String × Nat)) (s0 s : State) (h : Heap) : Prop := s = s0.setVm s.vm ∧ (∃ k0, s0.Since s.vm k0 ∧ k0 ≤ h.size) ∧ CHr Z EL s0.vm s0.heap s.vm h
theorem Wi.start (H : CHv Z EL s.vm h) (hh : s.heap = h) : Wi Z EL s s h := ⟨rfl, ⟨h.size, (State.WarmedH.refl s).since _, Nat.le_refl _⟩, by subst hh; exact CHr.refl H⟩
theorem Wi.on (W : Wi Z EL s0 s h) (B : CHr Z EL s.vm h s.vm h') : Wi Z EL s0 s h' := by
  obtain ⟨e1, ⟨k0, hS, hk⟩, A⟩ := W
  exact ⟨e1, ⟨k0, hS, Nat.le_trans hk B.2.1⟩, A.trans B⟩
theorem Wi.ext (W : Wi Z EL s0 s h) (E : Ext h h') : Wi Z EL s0 s h' := W.on (CHr.ext E W.2.2.1)
theorem Wi.wr (W : Wi Z EL s0 s h) {a : Addr} {sl : Nat} {v : Value} (X : Wr h h' a sl v) (S : Safe Z EL s.vm h a) : Wi Z EL s0 s h' := W.on (CHr.wr X S W.2.2.1)
theorem Wi.keep (W : Wi Z EL s0 s h) {ws : List Addr} (K : Keep h h' ws) (S : ∀ x ∈ ws, Safe Z EL s.vm h x) : Wi Z EL s0 s h' := W.on (CHr.keep K S W.2.2.1)
theorem safeE (C : Cx p s m meth c Z a0 own bytes maxL ret nm) {a : Addr} {cn : String} (E : Exa Z h a cn) (h1 : cn ≠ "java/lang/String") (h2 : cn ≠ "[B") : Safe Z EL s.vm h a := Safe.exa C.hZ.alike E h1 h2
theorem safeA (C : Cx p s m meth c Z a0 own bytes maxL ret nm) {a : Addr} {ty : FieldType} {vs : List Value} (A : La Z h a ty vs) (h1 : ty ≠ .byte) : Safe Z EL s.vm h a := by
  obtain ⟨cl, B, -⟩ := A
  exact Safe.arr C.hZ.alike B h1
theorem Cx.re (C : Cx p s m meth c Z a0 own bytes maxL ret nm) {vm1 : Vm} (W : s.Warmed39 vm1) : Cx p (s.setVm vm1) m meth c Z a0 own bytes maxL ret nm :=
  ⟨C.1, State.Warmed39.trans (t := s) C.hZ W, C.2.2.1, (W.alike.findClass _ _).trans C.ow, C.2.2.2.2⟩
/-- the end of such a walk -/
def FinW (Z : State) (EL : List (String × Nat)) (s0 : State) (k n n0 : Nat) (Q : Option Value → Heap → Prop) (o : Outcome) (t : State) : Prop := ∃ v L, o = .returned v ∧ (Fr n0 L ∧ Q v t.heap) ∧ CHr Z EL s0.vm s0.heap t.vm t.heap ∧ ReturnedEndW s0 o t L k n
def ConW (l : Launch) (Z : State) (EL : List (String × Nat)) (y : MethodName) (bytes : ByteArray) (maxL : Nat) (ret : Option FieldType) (rm : Room) (as' : Array Value) (h : Heap) (n0 : Nat) (Q : Option Value → Heap → Prop) : Prop :=
  ∀ ws, MetFree l y (head1 (Jvm.Cond.code y bytes maxL ret :: ws) rm) (fun a U => a = as' ∧ Z.Warmed39 U.vm ∧ U.heap = h ∧ CHv Z EL U.vm h) (fun _ _ _ _ _ => True) (fun _ U o U' => ∃ v L, o = .returned v ∧ (Fr n0 L ∧ Q v U'.heap) ∧ CHr Z EL U.vm U.heap U'.vm U'.heap ∧ ReturnedEndW U o U' L rm.cells rm.slots)
theorem conW_of (hw : ∀ d ∈ tables_1, d.before a0 Z = true) (hpl : plainFor y = true) (hn0 : Old Z n0 h)
    (body : ∀ p e sv0 s m below meth c T, Cx p s m meth c Z a0 y.cls bytes maxL ret y.name → Wi Z EL sv0 s h → St Z p l e rm s m as' below meth c n0 T h 0 0 → Go p e below (FinW Z EL sv0 rm.cells rm.slots n0 Qy) (T.setTop (entryFrame m as' maxL))) :
    ConW l Z EL y bytes maxL ret rm as' h n0 Qy := by
  intro ws
  refine MetFree.of_bodySF hpl hisR ?_
  intro p e s m args below meth c s₁ Bd hml0 hP hK
  obtain ⟨rfl, hZ, hh, H⟩ := hP
  have e0 : s₁.heap = h := by rw [← hh, Bd.state]; rfl
  exact body p e s s m below meth c s₁ ⟨Bd.exec, hZ, hw, findClass_of_methodNamed Bd.named, Bd.bytes, hml0, Bd.returns, Bd.notSynchronized, (name_of_methodNamed Bd.named Bd.method).1⟩ (Wi.start H hh) ⟨[], Stand.of_body Bd, Fr.nil n0, by rw [hh]; exact hn0, e0⟩
theorem go_leaveW (C : Cx p s m meth c Z a0 own bytes maxL ret nm) (X : St Z p l e R s m args below meth c n0 T h k n) (W : Wi Z EL s0 s h) (hEL : EW Z a0 EL) {v : Option Value} {f : JFrame} (hv : meth.sig.returnType = none → v = none) (hQ : Qy v h) (hk : k ≤ kc) (hn : n ≤ kn)
    (go : ∀ {locs : List Loc} (Y : Stand p l e R s m args below meth c T locs k n) {fs : List Frame}, (∀ (f : JFrame) (acts : List Action), f.method = m → f.locked = none → f.entered = [] → (doReturn e (T.setTop f) acts v).1 = T.setFrames fs) → Steps p.tables e below (T.setTop f) (T.setFrames fs)) :
    Go p e below (FinW Z EL s0 kc kn n0 Qy) (T.setTop f) := by
  obtain ⟨locs, Y, N, -, rfl⟩ := X
  obtain ⟨es, ⟨k0, hS, hk0⟩, A⟩ := W
  have Y' : Stand p l e R (s0.setVm s.vm) m args below meth c T locs k n := by rw [← es]; exact Y
  obtain ⟨fs, hr, hrun, hended, hE⟩ := Jvm.Stand.leaveW Y' hS hk0 hv C.lk
  have B : CHr Z EL s.vm T.heap T.vm T.heap := CHv.at Y' C.hZ hEL A.1
  exact ⟨_, _, go Y hr, hrun, hended, _, _, rfl, ⟨N, hQ⟩, A.trans B, hE.1, hE.2.1, hE.2.2.1, hE.2.2.2.mono hk hn⟩
theorem go_retAW {ty : FieldType} (C : Cx p s m meth c Z a0 own bytes maxL (some ty) nm) (X : St Z p l e R s m args below meth c n0 T h k n) (W : Wi Z EL s0 s h) (hEL : EW Z a0 EL) {v : Value} (hd : decode bytes pc = .ok (.areturn, 1)) (ht : ty.isReference = true) (hv : v.isRef = true) (hQ : Qy (some v) h) (hk : k ≤ kc) (hn : n ≤ kn) : Go p e below (FinW Z EL s0 kc kn n0 Qy) (T.setTop (mkF m pc Ls (v :: st))) :=
  go_leaveW C X W hEL (fun q => by rw [C.rt] at q; cases q) hQ hk hn fun Y _ hr => retOut Y C.1 C.rt (by cases ty <;> first | (cases ht; done) | rfl) (Or.inr (Or.inr (Or.inr (Or.inr ⟨rfl, ht, hv⟩)))) (C.cd hd) hr
theorem go_retNW {ty : FieldType} (C : Cx p s m meth c Z a0 own bytes maxL (some ty) nm) (X : St Z p l e R s m args below meth c n0 T h k n) (W : Wi Z EL s0 s h) (hEL : EW Z a0 EL) {z z' : Int32} (ht : ty = .boolean ∨ ty = .byte ∨ ty = .char ∨ ty = .short) (hz : nar ty z = z') (hd : decode bytes pc = .ok (.ireturn, 1)) (hQ : Qy (some (.int z')) h) (hk : k ≤ kc) (hn : n ≤ kn) : Go p e below (FinW Z EL s0 kc kn n0 Qy) (T.setTop (mkF m pc Ls (.int z :: st))) := by
  subst hz
  exact go_leaveW C X W hEL (fun q => by rw [C.rt] at q; cases q) hQ hk hn fun Y _ hr => retN Y C.1 C.rt ht (C.cd hd) hr
theorem go_ret0W (C : Cx p s m meth c Z a0 own bytes maxL none nm) (X : St Z p l e R s m args below meth c n0 T h k n) (W : Wi Z EL s0 s h) (hEL : EW Z a0 EL) (hd : decode bytes pc = .ok (.return_, 1)) (hQ : Qy none h) (hk : k ≤ kc) (hn : n ≤ kn) : Go p e below (FinW Z EL s0 kc kn n0 Qy) (T.setTop (mkF m pc Ls [])) :=
  go_leaveW C X W hEL (fun _ => rfl) hQ hk hn fun Y _ hr => Y.returnOut C.1 C.rt (C.cd hd) hr
theorem go_ldcH (C : Cx p s m meth c Z a0 own bytes maxL ret nm) (X : St Z p l e R s m args below meth c n0 T h k n) (W : Wi Z EL s0 s h) (hEL : EW Z a0 EL) {text : String} (w : (Jvm.Cond.stringLink own idx text).before a0 Z = true) (wS : ∀ a ∈ Bundle.stringAtoms, a.before a0 Z = true) (hmem : (own, idx) ∈ EL)
    {vs : List Value} {z : Int32} (ht : (∀ c ∈ text.toList, c.toNat < 256) ∧ text.toList.map (fun c => Value.int (Jvm.Lit.byteI c.toNat.toUInt16)) = vs) (hz : ¬ z < 0) (hzl : z.toNatClampNeg = vs.length) {q : Nat} (hq : 4 * text.toList.length ≤ q) (hbig : q ≤ 536870912) (hc : k + 2 ≤ R.cells) (hl : n + (q + 4) ≤ R.slots) (hp : pc + 2 = pc') (hd : decode bytes pc = .ok (.ldc idx, 2))
    (hr : ∀ s' T' h' a b, Cx p s' m meth c Z a0 own bytes maxL ret nm → Wi Z EL s0 s' h' → Ext h h' → Exa Z h' a "java/lang/String" → Fld Z h' a "java/lang/String" "coder" "B" (.int 0) → Fld Z h' a "java/lang/String" "value" "[B" (.ref b) → La Z h' b .byte vs → (∀ x, Safe Z EL s'.vm h' x → x ≠ a ∧ x ≠ b) → (∀ x, x < h.size → Safe Z EL s.vm h x → Safe Z EL s'.vm h' x) → St Z p l e R s' m args below meth c n0 T' h' (k + 2) (n + (q + 4)) → Go p e below Q (T'.setTop (mkF m pc' Ls (.ref a :: st)))) :
    Go p e below Q (T.setTop (mkF m pc Ls st)) := by
  subst hp
  obtain ⟨locs, Y, N, zs, eT⟩ := X
  obtain ⟨es, ⟨k0, hS, hk0⟩, A⟩ := W
  have Y' : Stand p l e R (s0.setVm s.vm) m args below meth c T locs k n := by rw [← es]; exact Y
  obtain ⟨a, T', h', k1, b, kk, X', e', E, hS', hk1, hW, hf, r1, r2, r3, r4, -, -, hC, -, hne, stp⟩ := ldcCH Y' C.1 C.hZ C.ow w wS eT hS hk0 hEL hmem A.1 ht hz hzl (g := mkF m pc Ls st) rfl (C.cd hd) hq hbig hc hl
  have l31 : vs.length < 2 ^ 31 := by rw [← hzl]; exact (back32 hz).2
  refine Go.back stp (hr (s0.setVm T'.vm) T' h' a b ⟨C.1, hW, C.2.2.1, hf, C.2.2.2.2⟩ ⟨rfl, ⟨k1, hS', hk1⟩, A.trans hC⟩ E r1 r2 r3 (arv_la r4 hzl l31) hne (fun x hx S => hC.safe hx S) ⟨_, X', N, ?_, e'⟩)
  have q0 : Old Z n0 (s0.setVm s.vm).heap := by rw [← es]; exact zs
  exact q0
theorem go_callSW (C : Cx p s m meth c Z a0 own bytes maxL ret nm) (X : St Z p l e R s m args below meth c n0 T h k n) (W : Wi Z EL s0 s h) (hEL : EW Z a0 EL) (wl : (Jvm.Cond.methodLink own idx y).before a0 Z = true) (ws : (Jvm.Cond.static y).before a0 Z = true) (wi : (Jvm.Cond.initialized y.cls).before a0 Z = true) (wc : (Jvm.Cond.code y yb yl yr).before a0 Z = true)
    (hM : ConW l Z EL y yb yl yr rm as' h n0 QY) (hlen : ∀ sig, parseMethodDescriptor y.desc = some sig → argsL.length = sig.parameters.length) (ha : argsL.toArray = as') (hy : y.cls ≠ "java/lang/invoke/MethodHandle" ∧ y.cls ≠ "java/lang/invoke/VarHandle")
    (hf : rm.frames + 1 ≤ R.frames) (hl : (rest.map fun v => v.category).sum + (yl + 11) + rm.locals ≤ R.locals) (hc : k + rm.cells ≤ R.cells) (hn : n + rm.slots ≤ R.slots) (hst : st = argsL.reverse ++ rest) (hsz : Ls.size = maxL) (hp : pc + 3 = pc') (hd : decode bytes pc = .ok (.invokestatic idx, 3))
    (hr : ∀ s' T' h' v, QY v h' → Cx p s' m meth c Z a0 own bytes maxL ret nm → Wi Z EL s0 s' h' → St Z p l e R s' m args below meth c n0 T' h' (k + rm.cells) (n + rm.slots) → Go p e below Q (T'.setTop (mkF m pc' Ls (v.toList ++ rest)))) : Go p e below Q (T.setTop (mkF m pc Ls st)) := by
  subst hp; subst ha; subst hst
  obtain ⟨locs, Y, N, zs, eT⟩ := X
  obtain ⟨es, ⟨k0, hS, hk0⟩, A⟩ := W
  have BK : BackS l R p e below s args y 3 ((rest.map fun v => v.category).sum) (fun A a => a = argsL.toArray ∧ A.U.heap = h ∧ A.cells + rm.cells ≤ R.cells ∧ A.slots + rm.slots ≤ R.slots) (fun A _ v B => ∃ L, (Fr n0 L ∧ QY v B.U.heap) ∧ B.locs = A.locs ++ L ∧ B.cells = A.cells + rm.cells ∧ B.slots = A.slots + rm.slots ∧ CHr Z EL s.vm h B.U.vm B.U.heap) :=
    backOfSH (s := s) (vm0 := s.vm) (Q := fun v h' L => Fr n0 L ∧ QY v h') (hM []) C.hZ wc wi hf hl hEL A.1
  obtain ⟨v, _, ⟨T', L', k', n'⟩, -, X', hS2, hg, ⟨Lc, ⟨N', hQ⟩, l1, y1, z1, hR⟩, stp⟩ := callSS Y C.1 C.ow (mvT C.hZ wl) (mvT C.hZ ws) (mvT C.hZ wi) (mvT C.hZ wc) hy BK (g := mkF m pc Ls (argsL.reverse ++ rest)) rfl (hsz.trans C.ml.symm) (argsL := argsL) (rest := rest) hlen rfl (by show 2 * 0 + _ ≤ _; omega) (C.cd hd) (fun _ _ => ⟨rfl, eT, hc, hn⟩)
  dsimp only [Pt.U, Pt.locs, Pt.cells, Pt.slots] at X' l1 y1 z1 stp hQ hS2 hg hR
  subst l1 y1 z1
  have h2 : (s0.setVm s.vm).Since T'.vm T'.heap.size := by rw [← es]; exact hS2
  have hk2 : k0 ≤ T'.heap.size := Nat.le_trans hk0 (by rw [← eT]; exact hg)
  exact Go.back (fun t kt => stp.trans kt) (hr (s.setVm T'.vm) T' T'.heap v hQ (C.re hS2.1) ⟨congrArg (fun z => z.setVm T'.vm) es, ⟨_, hS.trans h2 hk2, Nat.le_refl _⟩, A.trans hR⟩ ⟨_, X', N.app N', zs, rfl⟩)
theorem go_bastore (C : Cx p s m meth c Z a0 own bytes maxL ret nm) (X : St Z p l e R s m args below meth c n0 T h k n) {a : Addr} {vs : List Value} {j x : Int32} (A : La Z h a .byte vs) (q : 0 ≤ j.toInt) (hj : j.toInt < vs.length) (ga : n0 ≤ a) (hp : pc + 1 = pc') (hd : decode bytes pc = .ok (.bastore, 1))
    (hr : ∀ T' h', Wr h h' a j.toNatClampNeg (.int (nar .byte x)) → La Z h' a .byte (vs.set j.toNatClampNeg (.int (nar .byte x))) → St Z p l e R s m args below meth c n0 T' h' k n → Go p e below Q (T'.setTop (mkF m pc' Ls st))) : Go p e below Q (T.setTop (mkF m pc Ls (.int x :: .int j :: .ref a :: st))) := by
  subst hp
  obtain ⟨locs, Y, N, zs, eT⟩ := X
  have A' := A
  obtain ⟨cl, B, e1, e2, e3⟩ := A
  have i1 : ¬ (j < 0 ∨ cl.slots.size ≤ j.toNatClampNeg) := fun r => r.elim (neg_not q) fun r => by
    rw [e1] at r; simp at r; have := clamp_eq q; omega
  obtain ⟨T', h', X', e', W, stp⟩ := stB Y C.1 C.hZ eT B i1 (g := mkF m pc Ls (.int x :: .int j :: .ref a :: st)) rfl rfl (C.cd hd)
  exact Go.back stp (hr T' h' W (A'.set W (fits_nar_byte _)) ⟨_, X', Fr.snoc X' N ga, zs, e'⟩)
theorem go_lookMiss (C : Cx p s m meth c Z a0 own bytes maxL ret nm) (X : St Z p l e R s m args below meth c n0 T h k n) {df : Int} {prs : Array (Int × Int)} {ln : Nat} {z : Int32} (hd : decode bytes pc = .ok (.lookupswitch df prs, ln)) (hs : (prs.toList.zip (prs.toList.drop 1)).all (fun (a, next) => a.1 < next.1) = true) (hf : prs.find? (·.1 == z.toInt) = none) (ho : 0 ≤ (pc : Int) + df) (hp2 : ((pc : Int) + df).toNat = pc2)
    (hr : Go p e below Q (T.setTop (mkF m pc2 Ls st))) : Go p e below Q (T.setTop (mkF m pc Ls (.int z :: st))) := by
  subst hp2
  obtain ⟨locs, Y, -, -, -⟩ := X
  exact Go.back (fun t kt => Jvm.Stand.lookupswitchMiss Y C.1 (g := mkF m pc Ls (.int z :: st)) rfl rfl (C.cd hd) hs hf ho t kt) hr
theorem go_specialW (C : Cx p s m meth c Z a0 own bytes maxL ret nm) (X : St Z p l e R s m args below meth c n0 T h k n) (W : Wi Z EL s0 s h) (hEL : EW Z a0 EL) {a : Addr} (wl : (Jvm.Cond.methodLink own idx y).before a0 Z = true) (ws : (Jvm.Cond.instanceMethod y).before a0 Z = true) (wi : (Jvm.Cond.initialized y.cls).before a0 Z = true) (wc : (Jvm.Cond.code y yb yl none).before a0 Z = true) (hy1 : y.name = "<init>")
    (hM : ConW l Z EL y yb yl none rm as' h n0 QY) (hlen : ∀ sig, parseMethodDescriptor y.desc = some sig → argsL.length = sig.parameters.length) (ha : (.ref a :: argsL).toArray = as') (hy : y.cls ≠ "java/lang/invoke/MethodHandle" ∧ y.cls ≠ "java/lang/invoke/VarHandle")
    (hf : rm.frames + 1 ≤ R.frames) (hl : (rest.map fun v => v.category).sum + (yl + 11) + rm.locals ≤ R.locals) (hc : k + rm.cells ≤ R.cells) (hn : n + rm.slots ≤ R.slots) (hst : st = argsL.reverse ++ .ref a :: rest) (hsz : Ls.size = maxL) (hp : pc + 3 = pc') (hd : decode bytes pc = .ok (.invokespecial idx, 3))
    (hr : ∀ s' T' h' v, QY v h' → Cx p s' m meth c Z a0 own bytes maxL ret nm → Wi Z EL s0 s' h' → St Z p l e R s' m args below meth c n0 T' h' (k + rm.cells) (n + rm.slots) → Go p e below Q (T'.setTop (mkF m pc' Ls (v.toList ++ rest)))) : Go p e below Q (T.setTop (mkF m pc Ls st)) := by
  subst hp; subst ha; subst hst
  obtain ⟨locs, Y, N, zs, eT⟩ := X
  obtain ⟨es, ⟨k0, hS, hk0⟩, A⟩ := W
  have BK : BackS l R p e below s args y 3 ((rest.map fun v => v.category).sum) (fun A b => b = (.ref a :: argsL).toArray ∧ A.U.heap = h ∧ A.cells + rm.cells ≤ R.cells ∧ A.slots + rm.slots ≤ R.slots) (fun A _ v B => ∃ L, (Fr n0 L ∧ QY v B.U.heap) ∧ B.locs = A.locs ++ L ∧ B.cells = A.cells + rm.cells ∧ B.slots = A.slots + rm.slots ∧ CHr Z EL s.vm h B.U.vm B.U.heap) :=
    backOfSH (s := s) (vm0 := s.vm) (Q := fun v h' L => Fr n0 L ∧ QY v h') (hM []) C.hZ wc wi hf hl hEL A.1
  obtain ⟨v, _, ⟨T', L', k', n'⟩, -, X', hS2, hg, ⟨Lc, ⟨N', hQ⟩, l1, y1, z1, hR⟩, stp⟩ := Y.specialBackS C.1 hy1 C.ow (mvT C.hZ wl) (mvT C.hZ ws) (mvT C.hZ wc) hy BK (g := mkF m pc Ls (argsL.reverse ++ .ref a :: rest)) rfl (hsz.trans C.ml.symm) (Steps.refl _) (a := a) (argsL := argsL) (rest := rest) hlen rfl (by show 2 * 0 + _ ≤ _; omega) (C.cd hd) (fun _ _ => ⟨rfl, eT, hc, hn⟩)
  dsimp only [Pt.U, Pt.locs, Pt.cells, Pt.slots] at X' l1 y1 z1 stp hQ hS2 hg hR
  subst l1 y1 z1
  have h2 : (s0.setVm s.vm).Since T'.vm T'.heap.size := by rw [← es]; exact hS2
  have hk2 : k0 ≤ T'.heap.size := Nat.le_trans hk0 (by rw [← eT]; exact hg)
  exact Go.back (fun t kt => stp.trans kt) (hr (s.setVm T'.vm) T' T'.heap v hQ (C.re hS2.1) ⟨congrArg (fun z => z.setVm T'.vm) es, ⟨_, hS.trans h2 hk2, Nat.le_refl _⟩, A.trans hR⟩ ⟨_, X', N.app N', zs, rfl⟩)
theorem go_castore (C : Cx p s m meth c Z a0 own bytes maxL ret nm) (X : St Z p l e R s m args below meth c n0 T h k n) {a : Addr} {vs : List Value} {j x : Int32} (A : La Z h a .char vs) (q : 0 ≤ j.toInt) (hj : j.toInt < vs.length) (ga : n0 ≤ a) (hp : pc + 1 = pc') (hd : decode bytes pc = .ok (.castore, 1))
    (hr : ∀ T' h', Wr h h' a j.toNatClampNeg (.int (nar .char x)) → La Z h' a .char (vs.set j.toNatClampNeg (.int (nar .char x))) → St Z p l e R s m args below meth c n0 T' h' k n → Go p e below Q (T'.setTop (mkF m pc' Ls st))) : Go p e below Q (T.setTop (mkF m pc Ls (.int x :: .int j :: .ref a :: st))) := by
  subst hp
  obtain ⟨locs, Y, N, zs, eT⟩ := X
  have A' := A
  obtain ⟨cl, B, e1, e2, e3⟩ := A
  have i1 : ¬ (j < 0 ∨ cl.slots.size ≤ j.toNatClampNeg) := fun r => r.elim (neg_not q) fun r => by
    rw [e1] at r; simp at r; have := clamp_eq q; omega
  obtain ⟨T', h', X', e', W, stp⟩ := stC Y C.1 C.hZ eT B i1 (g := mkF m pc Ls (.int x :: .int j :: .ref a :: st)) rfl rfl (C.cd hd)
  exact Go.back stp (hr T' h' W (A'.set W (fits_nar_char _)) ⟨_, X', Fr.snoc X' N ga, zs, e'⟩)
theorem go_inst (C : Cx p s m meth c Z a0 own bytes maxL ret nm) (X : St Z p l e R s m args below meth c n0 T h k n) {cn : String} {a : Addr} (w : (Jvm.Cond.classLink own idx cn).before a0 Z = true) (F : Ins Z h a cn true) (hp : pc + 3 = pc') (hd : decode bytes pc = .ok (.instanceof idx, 3)) (hr : ∀ T', St Z p l e R s m args below meth c n0 T' h k n → Go p e below Q (T'.setTop (mkF m pc' Ls (.int 1 :: st)))) : Go p e below Q (T.setTop (mkF m pc Ls (.ref a :: st))) := by
  subst hp
  obtain ⟨locs, Y, N, zs, eT⟩ := X
  obtain ⟨T', X', e', stp⟩ := instY Y C.1 C.hZ C.ow w eT F (g := mkF m pc Ls (.ref a :: st)) rfl rfl (C.cd hd)
  exact Go.back stp (hr T' ⟨_, X', N, zs, e'⟩)
/-- a String whose bytes aren't laid yet is no booked one -/
theorem safeN (C : Cx p s m meth c Z a0 own bytes maxL ret nm) {a : Addr} (E : Exa Z h a "java/lang/String") (F : Fld Z h a "java/lang/String" "value" "[B" .null) : Safe Z EL s.vm h a := fun B => by
  obtain ⟨pp, -, u, a', -, q, -, G, hy⟩ := B
  rcases hy with rfl | rfl
  · obtain ⟨cS, ⟨⟨s1, s2, s3, ⟨cv, kv, iv, s4, s4'⟩, -, s6, s7, s8, -⟩, -, -⟩, -⟩ := G
    obtain ⟨kv', z4⟩ := ff_back (U := Wst Z s.vm h) C.hZ.alike s4
    obtain ⟨cell, cf, k, i, f, h1, h2, h3, h4, h5, h6, h7⟩ := F
    cases h1.symm.trans (show h[q.sa]? = some q.sC from s1)
    cases h2.symm.trans z4
    rw [s8] at h7
    cases h7
  · obtain ⟨cell, k, e1, e2, e3, -, -⟩ := E
    cases (show h[q.sd]? = some q.SA from G.hd).symm.trans e1
    obtain ⟨cS, -, -, f, -⟩ := G
    have f' : s.vm.findClass "[B" = some q.SA.cls := f
    rw [C.hZ.alike.findClass] at f'
    obtain ⟨k1, q1, q2⟩ := Vm.findClass_spec f'
    obtain ⟨k2, q3, q4⟩ := Vm.findClass_spec e2
    cases q1.symm.trans q3
    have bad : "[B" = "java/lang/String" := q2.symm.trans q4
    exact absurd bad (by decide)
theorem la_uni {a : Addr} {ty ty' : FieldType} {vs vs' : List Value} (A : La Z h a ty vs) (B : La Z h a ty' vs') : vs = vs' := by
  obtain ⟨c1, A1, A2, -⟩ := A
  obtain ⟨c2, B1, B2, -⟩ := B
  cases A1.1.symm.trans B1.1
  have e := A2.symm.trans B2
  simpa using e
end Wide

theorem own_nl {c z : Int32} (hc : ((97 ≤ c.toInt ∧ c.toInt ≤ 122) ∨ (65 ≤ c.toInt ∧ c.toInt ≤ 90))) (hz : ¬ ((97 ≤ z.toInt ∧ z.toInt ≤ 122) ∨ (65 ≤ z.toInt ∧ z.toInt ≤ 90))) (e : c = z) : False := hz (e ▸ hc)
def own_code (c : Int32) : Int32 := if 97 ≤ c.toInt then (c - 97) + 1 else (c - 65) + 1
def own_cd (c : Int32) : Int64 := (own_code c).toInt64
theorem own_nb {c : Int32} (h0 : 0 ≤ c.toInt) (h1 : c.toInt < 128) : nar .byte (c.toInt8.toInt32) = c := by
  have e1 := c_i2b c
  have e2 := c_i2b (c.toInt8.toInt32)
  apply i_eq
  show (c.toInt8.toInt32).toInt8.toInt32.toInt = c.toInt
  omega
theorem own_nc {c : Int32} (h0 : 0 ≤ c.toInt) (h1 : c.toInt < 128) : nar .char c = c := by
  have e1 := c_i2c c
  apply i_eq
  show c.toUInt32.toUInt16.toUInt32.toInt32.toInt = c.toInt
  omega
theorem own_ic {c : Int32} (h0 : 0 ≤ c.toInt) (h1 : c.toInt < 128) : c.toUInt32.toUInt16.toUInt32.toInt32 = c := own_nc h0 h1
theorem own_ca {c : Int32} (h0 : 0 ≤ c.toInt) (h1 : c.toInt < 128) : (c &&& 255).toUInt32.toUInt16.toUInt32.toInt32 = c := by
  have e := c_mask c 255 8 (by decide) (by decide)
  have e1 : (c &&& 255) = c := i_eq (by omega)
  rw [e1]
  exact own_ic h0 h1
theorem own_code_i {c : Int32} (hc : ((97 ≤ c.toInt ∧ c.toInt ≤ 122) ∨ (65 ≤ c.toInt ∧ c.toInt ≤ 90))) : 1 ≤ (own_code c).toInt ∧ (own_code c).toInt ≤ 26 := by
  unfold own_code
  split
  · have e1 := i_sub (a := c) (b := 97) (y := 97) rfl rfl (by omega) (by omega)
    have e2 := i_add (b := 1) (y := 1) e1 rfl (by omega) (by omega)
    omega
  · have e1 := i_sub (a := c) (b := 65) (y := 65) rfl rfl (by omega) (by omega)
    have e2 := i_add (b := 1) (y := 1) e1 rfl (by omega) (by omega)
    omega
theorem own_cd_i {c : Int32} : (own_cd c).toInt = (own_code c).toInt := c_i2l _
theorem own_cd_ne {c : Int32} (hc : ((97 ≤ c.toInt ∧ c.toInt ≤ 122) ∨ (65 ≤ c.toInt ∧ c.toInt ≤ 90))) : ¬ own_cd c = 0 := fun q => by
  have e := own_code_i hc
  have e2 := own_cd_i (c := c)
  rw [q] at e2
  have e3 : (0 : Int64).toInt = 0 := rfl
  omega
theorem own_zor (x : Int64) : (0 : Int64) ||| x = x := by simp
theorem own_wS {Z : State} {a0 : Array Value} (hw : ∀ d ∈ tables_1, d.before a0 Z = true) : ∀ a ∈ Bundle.stringAtoms, a.before a0 Z = true := by
  intro a ha
  have e : Bundle.stringAtoms = [.initialized "java/lang/String", .instantiable "java/lang/String" 4, .arrayClass .byte, .laysFinal "java/lang/String" "java/lang/String" "value" "[B", .laysFinal "java/lang/String" "java/lang/String" "coder" "B", .soleField "java/lang/String" "value", .soleField "java/lang/String" "coder"] := rfl
  rw [e] at ha
  simp only [List.mem_cons, List.not_mem_nil, or_false] at ha
  rcases ha with rfl | rfl | rfl | rfl | rfl | rfl | rfl
  · exact hw _ (List.mem_of_getElem? (i := 74) rfl)
  · exact hw _ (List.mem_of_getElem? (i := 82) rfl)
  · exact hw _ (List.mem_of_getElem? (i := 86) rfl)
  · exact hw _ (List.mem_of_getElem? (i := 93) rfl)
  · exact hw _ (List.mem_of_getElem? (i := 95) rfl)
  · exact hw _ (List.mem_of_getElem? (i := 133) rfl)
  · exact hw _ (List.mem_of_getElem? (i := 134) rfl)
theorem own_ch46 : "aaaaaaaaaaaa".toList = ['a', 'a', 'a', 'a', 'a', 'a', 'a', 'a', 'a', 'a', 'a', 'a'] := by first | rfl | exact String.toList_ofList | decide +kernel | simp
theorem own_lit46 : (∀ c ∈ "aaaaaaaaaaaa".toList, c.toNat < 256) ∧ "aaaaaaaaaaaa".toList.map (fun c => Value.int (Jvm.Lit.byteI c.toNat.toUInt16)) = [.int 97, .int 97, .int 97, .int 97, .int 97, .int 97, .int 97, .int 97, .int 97, .int 97, .int 97, .int 97] := by
  rw [own_ch46]
  exact ⟨by decide, by first | rfl | decide +kernel⟩
theorem own_len46 : 4 * "aaaaaaaaaaaa".toList.length ≤ 48 := by rw [own_ch46]; decide
def own_ap (x : Int64) : Int64 := if x = -1 then -1 else if 18014398509481984 ≤ x.toInt then -1 else (x <<< ((6 : Int32) &&& 0x3f).toInt64) ||| 1
theorem d16_0 : decode jdk_43_method_46_code 0 = .ok (.iconst 1, 1) := by decide +kernel
theorem d16_1 : decode jdk_43_method_46_code 1 = .ok (.newarray .byte, 2) := by decide +kernel
theorem d16_3 : decode jdk_43_method_46_code 3 = .ok (.dup, 1) := by decide +kernel
theorem d16_4 : decode jdk_43_method_46_code 4 = .ok (.iconst 0, 1) := by decide +kernel
theorem d16_5 : decode jdk_43_method_46_code 5 = .ok (.iload_n 0, 1) := by decide +kernel
theorem d16_6 : decode jdk_43_method_46_code 6 = .ok (.i2b, 1) := by decide +kernel
theorem d16_7 : decode jdk_43_method_46_code 7 = .ok (.bastore, 1) := by decide +kernel
theorem d16_8 : decode jdk_43_method_46_code 8 = .ok (.areturn, 1) := by decide +kernel
theorem pn_java_lang_StringLatin1 : plainName "java/lang/StringLatin1" = true := by first | (simp [plainName, overriddenIn]; done) | decide +kernel
theorem ef_own_tb (m : MethodId) (cc : Int32)  : entryFrame m #[(.int cc)] 1 = mkF m 0 #[iv cc] [] := by
  first | (simp [entryFrame, mkF, argsToLocals, Value.category]; done) | rfl
set_option maxRecDepth 65536 in
set_option maxHeartbeats 40000000 in
theorem own_tb (l : Launch) (Z : State) (a0 : Array Value) (hw : ∀ d ∈ tables_1, d.before a0 Z = true) (cc : Int32)  (h : Heap) (n0 : Nat) (hn0 : Old Z n0 h) (hc : ((97 ≤ cc.toInt ∧ cc.toInt ≤ 122) ∨ (65 ≤ cc.toInt ∧ cc.toInt ≤ 90))) :
    Con l Z (⟨"java/lang/StringLatin1", "toBytes", "(C)[B"⟩ : MethodName) jdk_43_method_46_code 1 (some (.array .byte)) ({ frames := 0, cells := 1, slots := 1, locals := 0 } : Room) #[(.int cc)] h n0 (fun v h' => ∃ sb : Addr, v = some (.ref sb) ∧ Keep h h' [] ∧ h.size ≤ sb ∧ La Z h' sb .byte [.int cc]) := by
  refine con_of hw (plainFor_of_name pn_java_lang_StringLatin1) hn0 ?_
  intro p e s m below meth c T0 C X0
  refine Go.cast (congrArg T0.setTop (ef_own_tb m cc)) ?_
  refine go_iconst C X0 1 rfl d16_0 (z := 1) rfl ?_
  refine go_newarr C X0 (C.w 86 rfl) (cap := 1) (by decide) (by decide) (by decide) (by decide) (by decide) (pc' := 3) rfl d16_1 (fun T1 h3 sb ha_sb ga_sb E4 A5  X2 => ?_)
  have sz_sb : h.size ≤ sb := Nat.le_trans (Keep.refl h []).1 (Nat.le_of_eq ha_sb.symm)
  have K6 := (Keep.refl h []).ext E4
  replace A5 : La Z h3 sb .byte ([(.int (0 : Int32))]) := A5
  refine go_dup C X2 4 rfl d16_3 rfl ?_
  refine go_iconst C X2 5 rfl d16_4 (z := 0) rfl ?_
  refine go_iloadN C X2 6 rfl d16_5 rfl ?_
  refine go_i2b C X2 7 rfl d16_6 ?_
  refine go_bastore C X2 A5 (by decide) (by show _ < (1 : Int); decide) ga_sb (pc' := 8) rfl d16_7 (fun T7 h9 W10 A11 X8 => ?_)
  rw [own_nb (by omega) (by omega)] at A11
  have K12 := K6.wr W10 (Or.inr sz_sb)
  replace A11 : La Z h9 sb .byte ([(.int cc)]) := A11
  exact go_retA C X8 d16_8 rfl rfl ⟨sb, rfl, K12, sz_sb, A11⟩ (by decide) (by decide)
theorem d17_0 : decode jdk_42_method_151_code 0 = .ok (.aload_n 0, 1) := by decide +kernel
theorem d17_1 : decode jdk_42_method_151_code 1 = .ok (.invokespecial 1, 3) := by decide +kernel
theorem d17_4 : decode jdk_42_method_151_code 4 = .ok (.aload_n 0, 1) := by decide +kernel
theorem d17_5 : decode jdk_42_method_151_code 5 = .ok (.aload_n 1, 1) := by decide +kernel
theorem d17_6 : decode jdk_42_method_151_code 6 = .ok (.putfield 9, 3) := by decide +kernel
theorem d17_9 : decode jdk_42_method_151_code 9 = .ok (.aload_n 0, 1) := by decide +kernel
theorem d17_10 : decode jdk_42_method_151_code 10 = .ok (.iload_n 2, 1) := by decide +kernel
theorem d17_11 : decode jdk_42_method_151_code 11 = .ok (.putfield 15, 3) := by decide +kernel
theorem d17_14 : decode jdk_42_method_151_code 14 = .ok (.return_, 1) := by decide +kernel
theorem pn_java_lang_String : plainName "java/lang/String" = true := by first | (simp [plainName, overriddenIn]; done) | decide +kernel
theorem ef_own_si (m : MethodId) (sa : Addr) (sb : Addr)  : entryFrame m #[(.ref sa), (.ref sb), (.int (0 : Int32))] 3 = mkF m 0 #[rv sa, rv sb, iv (0 : Int32)] [] := by
  first | (simp [entryFrame, mkF, argsToLocals, Value.category]; done) | rfl
set_option maxRecDepth 65536 in
set_option maxHeartbeats 40000000 in
theorem own_si (l : Launch) (Z : State) (a0 : Array Value) (hw : ∀ d ∈ tables_1, d.before a0 Z = true) (sa : Addr) (sb : Addr)  (h : Heap) (n0 : Nat) (hn0 : Old Z n0 h) (E0 : Exa Z h sa "java/lang/String") (G1 : Fld Z h sa "java/lang/String" "coder" "B" (.int 0)) (G2 : Fld Z h sa "java/lang/String" "value" "[B" .null) (ga : n0 ≤ sa) :
    Con l Z (⟨"java/lang/String", "<init>", "([BB)V"⟩ : MethodName) jdk_42_method_151_code 3 none ({ frames := 1, cells := 0, slots := 0, locals := 12 } : Room) #[(.ref sa), (.ref sb), (.int (0 : Int32))] h n0 (fun v h' => v = none ∧ Keep h h' [sa] ∧ Exa Z h' sa "java/lang/String" ∧ Fld Z h' sa "java/lang/String" "coder" "B" (.int 0) ∧ Fld Z h' sa "java/lang/String" "value" "[B" (.ref sb)) := by
  refine con_of hw (plainFor_of_name pn_java_lang_String) hn0 ?_
  intro p e s m below meth c T0 C X0
  refine Go.cast (congrArg T0.setTop (ef_own_si m sa sb)) ?_
  refine go_aloadN C X0 1 rfl d17_0 rfl rfl ?_
  refine go_initO C X0 (C.w 91 rfl) (C.w 15 rfl) (C.w 16 rfl) (by decide) (Nat.le_of_ble_eq_true rfl) rfl (pc' := 4) rfl d17_1 (fun T1 X2 => ?_)
  refine go_aloadN C X2 5 rfl d17_4 rfl rfl ?_
  refine go_aloadN C X2 6 rfl d17_5 rfl rfl ?_
  refine go_putF C X2 (C.w 92 rfl) Via.refl G2 E0 (Or.inr ⟨C.w 93 rfl, rfl, C.nmE⟩) (C.w 82 rfl) ga (ty := (.array .byte)) (by decide) rfl rfl (pc' := 9) rfl d17_6 (fun T3 h5 W6 X4 => ?_)
  have F7 := G2.same W6
  have E8 := E0.wr W6
  have F9 := G1.other W6 (Or.inr (slot_ne (Or.inr (C.w 95 rfl)) (Or.inr (C.w 93 rfl)) (by decide) (t := .byte) (t' := (.array .byte)) (by decide) (by decide)))
  have K10 := (Keep.refl h [sa]).wr W6 (Or.inl (List.mem_of_getElem? (i := 0) rfl))
  refine go_aloadN C X4 10 rfl d17_9 rfl rfl ?_
  refine go_iloadN C X4 11 rfl d17_10 rfl ?_
  refine go_putFN C X4 (C.w 94 rfl) Via.refl F9 E8 (Or.inr ⟨C.w 95 rfl, rfl, C.nmE⟩) (C.w 82 rfl) ga (ty := .byte) (by decide) (v' := (.int (0 : Int32))) rfl rfl (pc' := 14) rfl d17_11 (fun T11 h13 W14 X12 => ?_)
  have F15 := F9.same W14
  have E16 := E8.wr W14
  have F17 := F7.other W14 (Or.inr (slot_ne (Or.inr (C.w 93 rfl)) (Or.inr (C.w 95 rfl)) (by decide) (t := (.array .byte)) (t' := .byte) (by decide) (by decide)))
  have K18 := K10.wr W14 (Or.inl (List.mem_of_getElem? (i := 0) rfl))
  exact go_ret0 C X12 d17_14 ⟨rfl, K18, E16, F15, F17⟩ (by decide) (by decide)
theorem d14_0 : decode jdk_42_method_139_code 0 = .ok (.getstatic 38, 3) := by decide +kernel
theorem d14_3 : decode jdk_42_method_139_code 3 = .ok (.ifCond .eq 23, 3) := by decide +kernel
theorem d14_6 : decode jdk_42_method_139_code 6 = .ok (.iload_n 0, 1) := by decide +kernel
theorem d15_0 : decode jdk_43_method_3_code 0 = .ok (.iload_n 0, 1) := by decide +kernel
theorem d15_1 : decode jdk_43_method_3_code 1 = .ok (.sipush 255, 3) := by decide +kernel
theorem d15_4 : decode jdk_43_method_3_code 4 = .ok (.if_icmp .gt 7, 3) := by decide +kernel
theorem d15_7 : decode jdk_43_method_3_code 7 = .ok (.iconst 1, 1) := by decide +kernel
theorem d15_8 : decode jdk_43_method_3_code 8 = .ok (.goto 4, 3) := by decide +kernel
theorem d15_12 : decode jdk_43_method_3_code 12 = .ok (.ireturn, 1) := by decide +kernel
theorem ef_own_p15_1 (m : MethodId) (cc : Int32)  : entryFrame m #[(.int cc)] 1 = mkF m 0 #[iv cc] [] := by
  first | (simp [entryFrame, mkF, argsToLocals, Value.category]; done) | rfl
set_option maxRecDepth 65536 in
set_option maxHeartbeats 40000000 in
theorem own_p15_1 (l : Launch) (Z : State) (a0 : Array Value) (hw : ∀ d ∈ tables_1, d.before a0 Z = true) (cc : Int32)  (h : Heap) (n0 : Nat) (hn0 : Old Z n0 h) (hc : ((97 ≤ cc.toInt ∧ cc.toInt ≤ 122) ∨ (65 ≤ cc.toInt ∧ cc.toInt ≤ 90))) :
    Con l Z (⟨"java/lang/StringLatin1", "canEncode", "(C)Z"⟩ : MethodName) jdk_43_method_3_code 1 (some .boolean) ({ frames := 0, cells := 0, slots := 0, locals := 0 } : Room) #[(.int cc)] h n0 (fun v h' => v = some (.int (1 : Int32)) ∧ h = h') := by
  refine con_of hw (plainFor_of_name pn_java_lang_StringLatin1) hn0 ?_
  intro p e s m below meth c T0 C X0
  refine Go.cast (congrArg T0.setTop (ef_own_p15_1 m cc)) ?_
  refine go_iloadN C X0 1 rfl d15_0 rfl ?_
  refine go_sipush C X0 4 rfl d15_1 (z := 255) rfl ?_
  refine go_icmp_gt C X0 d15_4 (pc' := 7) (pc2 := 11) rfl (by decide) (by decide) (fun (c4 : 255 < cc.toInt) => False.elim (by omega)) (fun (c4 : cc.toInt ≤ 255) => ?_)
  refine go_iconst C X0 8 rfl d15_7 (z := 1) rfl ?_
  refine go_goto C X0 d15_8 (pc' := 12) (by decide) (by decide) ?_
  exact go_retN C X0 (by simp) (z' := 1) rfl d15_12 ⟨rfl, rfl⟩ (by decide) (by decide)
theorem pd_0 : parseMethodDescriptor "(C)Z" = some ⟨[.char], some .boolean⟩ := by decide +kernel
theorem d14_7 : decode jdk_42_method_139_code 7 = .ok (.invokestatic 1015, 3) := by decide +kernel
theorem d14_10 : decode jdk_42_method_139_code 10 = .ok (.ifCond .eq 16, 3) := by decide +kernel
theorem d14_13 : decode jdk_42_method_139_code 13 = .ok (.new 10, 3) := by decide +kernel
theorem d14_16 : decode jdk_42_method_139_code 16 = .ok (.dup, 1) := by decide +kernel
theorem d14_17 : decode jdk_42_method_139_code 17 = .ok (.iload_n 0, 1) := by decide +kernel
theorem pd_1 : parseMethodDescriptor "(C)[B" = some ⟨[.char], some (.array .byte)⟩ := by decide +kernel
theorem d14_18 : decode jdk_42_method_139_code 18 = .ok (.invokestatic 1018, 3) := by decide +kernel
theorem d14_21 : decode jdk_42_method_139_code 21 = .ok (.iconst 0, 1) := by decide +kernel
theorem pd_2 : parseMethodDescriptor "([BB)V" = some ⟨[(.array .byte), .byte], none⟩ := by decide +kernel
theorem d14_22 : decode jdk_42_method_139_code 22 = .ok (.invokespecial 209, 3) := by decide +kernel
theorem d14_25 : decode jdk_42_method_139_code 25 = .ok (.areturn, 1) := by decide +kernel
theorem ef_own_vo (m : MethodId) (cc : Int32)  : entryFrame m #[(.int cc)] 1 = mkF m 0 #[iv cc] [] := by
  first | (simp [entryFrame, mkF, argsToLocals, Value.category]; done) | rfl
set_option maxRecDepth 65536 in
set_option maxHeartbeats 40000000 in
theorem own_vo (l : Launch) (Z : State) (a0 : Array Value) (hw : ∀ d ∈ tables_1, d.before a0 Z = true) (cc : Int32) (cs : Int32) (fv : Value) (h : Heap) (n0 : Nat) (hn0 : Old Z n0 h) (hc : ((97 ≤ cc.toInt ∧ cc.toInt ≤ 122) ∨ (65 ≤ cc.toInt ∧ cc.toInt ≤ 90))) (hcs : ¬ cs = 0) (S1 : Sta Z Z.heap "java/lang/String" "COMPACT_STRINGS" "Z" (.int cs)) (hfv : fv.isRef = true) (S2 : Sta Z Z.heap "jdk/internal/util/Preconditions" "SIOOBE_FORMATTER" "Ljava/util/function/BiFunction;" fv) :
    Con l Z (⟨"java/lang/String", "valueOf", "(C)Ljava/lang/String;"⟩ : MethodName) jdk_42_method_139_code 1 (some (.object "java/lang/String")) ({ frames := 2, cells := 2, slots := 5, locals := 27 } : Room) #[(.int cc)] h n0 (fun v h' => ∃ sa sb : Addr, v = some (.ref sa) ∧ Keep h h' [] ∧ Exa Z h' sa "java/lang/String" ∧ Fld Z h' sa "java/lang/String" "coder" "B" (.int 0) ∧ Fld Z h' sa "java/lang/String" "value" "[B" (.ref sb) ∧ La Z h' sb .byte [.int cc] ∧ h.size ≤ sa ∧ h.size ≤ sb) := by
  refine con_of hw (plainFor_of_name pn_java_lang_String) hn0 ?_
  intro p e s m below meth c T0 C X0
  refine Go.cast (congrArg T0.setTop (ef_own_vo m cc)) ?_
  refine go_getS C X0 (C.w 76 rfl) (S1.ext X0.old.2) (pc' := 3) rfl d14_0 (fun T1 X2 => ?_)
  refine go_if_eq C X2 d14_3 (pc' := 6) (pc2 := 26) rfl (by decide) (by decide) (fun (c3 : cs = (0 : Int32)) => False.elim (hcs c3)) (fun (c3 : ¬ cs = (0 : Int32)) => ?_)
  refine go_iloadN C X2 7 rfl d14_6 rfl ?_
  refine go_callS C X2 (C.w 77 rfl) (C.w 78 rfl) (C.w 79 rfl) (C.w 80 rfl) (own_p15_1 l Z a0 C.ws cc h n0 X2.old hc) (argsL := [(.int cc)]) (rest := []) (lenOf pd_0 rfl) rfl (by decide) (by decide) (Nat.le_of_ble_eq_true rfl) (by decide) (by decide) rfl rfl (pc' := 10) rfl d14_7 ?_
  rintro T3 _ _ ⟨rfl, rfl⟩ X4
  show Go p e below _ (T3.setTop (mkF m 10 #[iv cc] [(.int (1 : Int32))]))
  refine go_if_eq C X4 d14_10 (pc' := 13) (pc2 := 26) rfl (by decide) (by decide) (fun (c10 : (1 : Int32) = (0 : Int32)) => False.elim (by first | omega | exact absurd c10 (by decide))) (fun (c10 : ¬ (1 : Int32) = (0 : Int32)) => ?_)
  refine go_new C X4 (C.w 81 rfl) (C.w 82 rfl) (C.w 74 rfl) (by decide) (by decide) (pc' := 16) rfl d14_13 (fun T6 h8 sa ha_sa ga_sa E9 E10 D11 X7 => ?_)
  have sz_sa : h.size ≤ sa := Nat.le_trans (Keep.refl h []).1 (Nat.le_of_eq ha_sa.symm)
  have K12 := (Keep.refl h []).ext E9
  have F13 : Fld Z h8 sa "java/lang/String" "value" "[B" .null := D11 (Or.inr (C.w 93 rfl)) (ty := (.array .byte)) (by decide)
  have F14 : Fld Z h8 sa "java/lang/String" "coder" "B" (.int (0 : Int32)) := D11 (Or.inr (C.w 95 rfl)) (ty := .byte) (by decide)
  refine go_dup C X7 17 rfl d14_16 rfl ?_
  refine go_iloadN C X7 18 rfl d14_17 rfl ?_
  have hsz_18 := X7.sz
  have lt_sa_18 := E10.lt
  refine go_callS C X7 (C.w 83 rfl) (C.w 84 rfl) (C.w 79 rfl) (C.w 85 rfl) (own_tb l Z a0 C.ws cc h8 n0 X7.old hc) (argsL := [(.int cc)]) (rest := [(.ref sa), (.ref sa)]) (lenOf pd_1 rfl) rfl (by decide) (by decide) (Nat.le_of_ble_eq_true rfl) (by decide) (by decide) rfl rfl (pc' := 21) rfl d14_18 ?_
  rintro T15 h17 _ ⟨sb, rfl, K7, sz7sb, A7⟩ X16
  show Go p e below _ (T15.setTop (mkF m 21 #[iv cc] [(.ref sb), (.ref sa), (.ref sa)]))
  have ne_sa_sb : sa ≠ sb := Nat.ne_of_lt (Nat.lt_of_lt_of_le lt_sa_18 sz7sb)
  have ga_sb : n0 ≤ sb := Nat.le_trans hsz_18 sz7sb
  have sz_sb : h.size ≤ sb := Nat.le_trans K12.1 sz7sb
  have E18 := E10.keep K7
  have F19 := F13.keep K7 nin0
  have F20 := F14.keep K7 nin0
  have K21 := K12.trans K7 all0
  refine go_iconst C X16 22 rfl d14_21 (z := 0) rfl ?_
  refine go_special C X16 (C.w 87 rfl) (C.w 88 rfl) (C.w 74 rfl) (C.w 90 rfl) rfl (own_si l Z a0 C.ws sa sb h17 n0 X16.old E18 F20 F19 ga_sa) (argsL := [(.ref sb), (.int (0 : Int32))]) (rest := [(.ref sa)]) (lenOf pd_2 rfl) rfl (by decide) (by decide) (Nat.le_of_ble_eq_true rfl) (by decide) (by decide) rfl rfl (pc' := 25) rfl d14_22 ?_
  rintro T22 h24 _ ⟨rfl, K6, E6, G6, G7⟩ X23
  show Go p e below _ (T22.setTop (mkF m 25 #[iv cc] [(.ref sa)]))
  have E25 := E18.keep K6
  have A26 := A7.keep K6 (ninS (Ne.symm ne_sa_sb) nin0)
  have K27 := K21.trans K6 (allS (Or.inr sz_sa) all0)
  exact go_retA C X23 d14_25 rfl rfl ⟨sa, sb, rfl, K27, E6, G6, G7, A26, sz_sa, sz_sb⟩ (by decide) (by decide)
def own_st (k cc : Int32) : Int64 := if k = 0 then (0) else if k = 1 then (0) else if k = 2 then (0) else if k = 3 then (0) else if k = 4 then (-1) else if k = 5 then (-1) else if k = 6 then (-1) else if k = 7 then own_cd cc else if k = 8 then own_cd cc else if k = 9 then (-1) else (-1)
def own_bg (k : Int32) : Int32 := if k = 0 then 0 else if k = 1 then 0 else if k = 2 then 1 else if k = 3 then 1 else if k = 4 then 1 else if k = 5 then 1 else if k = 6 then 1 else if k = 7 then 1 else if k = 8 then 1 else if k = 9 then 1 else 1
def own_sc (k : Int32) : Int32 := if k = 0 then 1 else if k = 1 then 1 else if k = 2 then 1 else if k = 3 then 1 else if k = 4 then 0 else if k = 5 then 0 else if k = 6 then 0 else if k = 7 then 1 else if k = 8 then 1 else if k = 9 then 1 else 0
def own_dl (k : Int32) : Int32 := if k = 0 then 0 else if k = 1 then 1 else if k = 2 then 1 else if k = 3 then 1 else if k = 4 then 0 else if k = 5 then 0 else if k = 6 then 0 else if k = 7 then 0 else if k = 8 then 0 else if k = 9 then 1 else 1
def own_qu (k : Int32) : Int32 := if k = 0 then 0 else if k = 1 then 0 else if k = 2 then 0 else if k = 3 then 1 else if k = 4 then 0 else if k = 5 then 0 else if k = 6 then 0 else if k = 7 then 0 else if k = 8 then 0 else if k = 9 then 0 else 0
def own_rf (k : Int32) : Int32 := if k = 0 then 0 else if k = 1 then 0 else if k = 2 then 0 else if k = 3 then 0 else if k = 4 then 0 else if k = 5 then 1 else if k = 6 then 1 else if k = 7 then 0 else if k = 8 then 0 else if k = 9 then 0 else 0
def own_hd (k : Int32) : Int32 := if k = 0 then 0 else if k = 1 then 0 else if k = 2 then 0 else if k = 3 then 0 else if k = 4 then 0 else if k = 5 then 0 else if k = 6 then 0 else if k = 7 then 0 else if k = 8 then 1 else if k = 9 then 0 else 0
def own_ro (k : Int32) : Int32 := if k = 0 then 0 else if k = 1 then 0 else if k = 2 then 0 else if k = 3 then 0 else if k = 4 then 0 else if k = 5 then 1 else if k = 6 then 0 else if k = 7 then 0 else if k = 8 then 0 else if k = 9 then 0 else 0
def own_fl (k : Int32) : Int32 := if k = 0 then 2 else if k = 1 then 6 else if k = 2 then 7 else if k = 3 then 15 else if k = 4 then 1 else if k = 5 then 81 else if k = 6 then 17 else if k = 7 then 3 else if k = 8 then 35 else if k = 9 then 7 else 5
theorem own_st_0 (cc : Int32) : own_st 0 cc = 0 := rfl
theorem own_bg_0 : own_bg 0 = 0 := by decide
theorem own_sc_0 : own_sc 0 = 1 := by decide
theorem own_dl_0 : own_dl 0 = 0 := by decide
theorem own_qu_0 : own_qu 0 = 0 := by decide
theorem own_rf_0 : own_rf 0 = 0 := by decide
theorem own_hd_0 : own_hd 0 = 0 := by decide
theorem own_ro_0 : own_ro 0 = 0 := by decide
theorem own_st_1 (cc : Int32) : own_st 1 cc = 0 := rfl
theorem own_bg_1 : own_bg 1 = 0 := by decide
theorem own_sc_1 : own_sc 1 = 1 := by decide
theorem own_dl_1 : own_dl 1 = 1 := by decide
theorem own_qu_1 : own_qu 1 = 0 := by decide
theorem own_rf_1 : own_rf 1 = 0 := by decide
theorem own_hd_1 : own_hd 1 = 0 := by decide
theorem own_ro_1 : own_ro 1 = 0 := by decide
theorem own_st_2 (cc : Int32) : own_st 2 cc = 0 := rfl
theorem own_bg_2 : own_bg 2 = 1 := by decide
theorem own_sc_2 : own_sc 2 = 1 := by decide
theorem own_dl_2 : own_dl 2 = 1 := by decide
theorem own_qu_2 : own_qu 2 = 0 := by decide
theorem own_rf_2 : own_rf 2 = 0 := by decide
theorem own_hd_2 : own_hd 2 = 0 := by decide
theorem own_ro_2 : own_ro 2 = 0 := by decide
theorem own_st_3 (cc : Int32) : own_st 3 cc = 0 := rfl
theorem own_bg_3 : own_bg 3 = 1 := by decide
theorem own_sc_3 : own_sc 3 = 1 := by decide
theorem own_dl_3 : own_dl 3 = 1 := by decide
theorem own_qu_3 : own_qu 3 = 1 := by decide
theorem own_rf_3 : own_rf 3 = 0 := by decide
theorem own_hd_3 : own_hd 3 = 0 := by decide
theorem own_ro_3 : own_ro 3 = 0 := by decide
theorem own_st_4 (cc : Int32) : own_st 4 cc = -1 := rfl
theorem own_bg_4 : own_bg 4 = 1 := by decide
theorem own_sc_4 : own_sc 4 = 0 := by decide
theorem own_dl_4 : own_dl 4 = 0 := by decide
theorem own_qu_4 : own_qu 4 = 0 := by decide
theorem own_rf_4 : own_rf 4 = 0 := by decide
theorem own_hd_4 : own_hd 4 = 0 := by decide
theorem own_ro_4 : own_ro 4 = 0 := by decide
theorem own_st_5 (cc : Int32) : own_st 5 cc = -1 := rfl
theorem own_bg_5 : own_bg 5 = 1 := by decide
theorem own_sc_5 : own_sc 5 = 0 := by decide
theorem own_dl_5 : own_dl 5 = 0 := by decide
theorem own_qu_5 : own_qu 5 = 0 := by decide
theorem own_rf_5 : own_rf 5 = 1 := by decide
theorem own_hd_5 : own_hd 5 = 0 := by decide
theorem own_ro_5 : own_ro 5 = 1 := by decide
theorem own_st_6 (cc : Int32) : own_st 6 cc = -1 := rfl
theorem own_bg_6 : own_bg 6 = 1 := by decide
theorem own_sc_6 : own_sc 6 = 0 := by decide
theorem own_dl_6 : own_dl 6 = 0 := by decide
theorem own_qu_6 : own_qu 6 = 0 := by decide
theorem own_rf_6 : own_rf 6 = 1 := by decide
theorem own_hd_6 : own_hd 6 = 0 := by decide
theorem own_ro_6 : own_ro 6 = 0 := by decide
theorem own_st_7 (cc : Int32) : own_st 7 cc = own_cd cc := rfl
theorem own_bg_7 : own_bg 7 = 1 := by decide
theorem own_sc_7 : own_sc 7 = 1 := by decide
theorem own_dl_7 : own_dl 7 = 0 := by decide
theorem own_qu_7 : own_qu 7 = 0 := by decide
theorem own_rf_7 : own_rf 7 = 0 := by decide
theorem own_hd_7 : own_hd 7 = 0 := by decide
theorem own_ro_7 : own_ro 7 = 0 := by decide
theorem own_st_8 (cc : Int32) : own_st 8 cc = own_cd cc := rfl
theorem own_bg_8 : own_bg 8 = 1 := by decide
theorem own_sc_8 : own_sc 8 = 1 := by decide
theorem own_dl_8 : own_dl 8 = 0 := by decide
theorem own_qu_8 : own_qu 8 = 0 := by decide
theorem own_rf_8 : own_rf 8 = 0 := by decide
theorem own_hd_8 : own_hd 8 = 1 := by decide
theorem own_ro_8 : own_ro 8 = 0 := by decide
theorem own_st_9 (cc : Int32) : own_st 9 cc = -1 := rfl
theorem own_bg_9 : own_bg 9 = 1 := by decide
theorem own_sc_9 : own_sc 9 = 1 := by decide
theorem own_dl_9 : own_dl 9 = 1 := by decide
theorem own_qu_9 : own_qu 9 = 0 := by decide
theorem own_rf_9 : own_rf 9 = 0 := by decide
theorem own_hd_9 : own_hd 9 = 0 := by decide
theorem own_ro_9 : own_ro 9 = 0 := by decide
theorem own_st_10 (cc : Int32) : own_st 10 cc = -1 := rfl
theorem own_bg_10 : own_bg 10 = 1 := by decide
theorem own_sc_10 : own_sc 10 = 0 := by decide
theorem own_dl_10 : own_dl 10 = 1 := by decide
theorem own_qu_10 : own_qu 10 = 0 := by decide
theorem own_rf_10 : own_rf 10 = 0 := by decide
theorem own_hd_10 : own_hd 10 = 0 := by decide
theorem own_ro_10 : own_ro 10 = 0 := by decide
theorem d2_0 : decode method_4_code 0 = .ok (.new 23, 3) := by decide +kernel
theorem d2_3 : decode method_4_code 3 = .ok (.dup, 1) := by decide +kernel
theorem d3_0 : decode prog_44_method_1_code 0 = .ok (.aload_n 0, 1) := by decide +kernel
theorem d3_1 : decode prog_44_method_1_code 1 = .ok (.invokespecial 1, 3) := by decide +kernel
theorem d3_4 : decode prog_44_method_1_code 4 = .ok (.aload_n 0, 1) := by decide +kernel
theorem d5_0 : decode prog_44_method_3_code 0 = .ok (.aload_n 0, 1) := by decide +kernel
theorem d5_1 : decode prog_44_method_3_code 1 = .ok (.lconst 0, 1) := by decide +kernel
theorem d5_2 : decode prog_44_method_3_code 2 = .ok (.putfield 18, 3) := by decide +kernel
theorem d5_5 : decode prog_44_method_3_code 5 = .ok (.aload_n 0, 1) := by decide +kernel
theorem d5_6 : decode prog_44_method_3_code 6 = .ok (.iconst 0, 1) := by decide +kernel
theorem d5_7 : decode prog_44_method_3_code 7 = .ok (.putfield 22, 3) := by decide +kernel
theorem d5_10 : decode prog_44_method_3_code 10 = .ok (.aload_n 0, 1) := by decide +kernel
theorem d5_11 : decode prog_44_method_3_code 11 = .ok (.iconst 1, 1) := by decide +kernel
theorem d5_12 : decode prog_44_method_3_code 12 = .ok (.putfield 26, 3) := by decide +kernel
theorem d5_15 : decode prog_44_method_3_code 15 = .ok (.aload_n 0, 1) := by decide +kernel
theorem d5_16 : decode prog_44_method_3_code 16 = .ok (.iconst 0, 1) := by decide +kernel
theorem d5_17 : decode prog_44_method_3_code 17 = .ok (.putfield 29, 3) := by decide +kernel
theorem d5_20 : decode prog_44_method_3_code 20 = .ok (.aload_n 0, 1) := by decide +kernel
theorem d5_21 : decode prog_44_method_3_code 21 = .ok (.iconst 0, 1) := by decide +kernel
theorem d5_22 : decode prog_44_method_3_code 22 = .ok (.putfield 32, 3) := by decide +kernel
theorem d5_25 : decode prog_44_method_3_code 25 = .ok (.aload_n 0, 1) := by decide +kernel
theorem d5_26 : decode prog_44_method_3_code 26 = .ok (.iconst 0, 1) := by decide +kernel
theorem d5_27 : decode prog_44_method_3_code 27 = .ok (.putfield 35, 3) := by decide +kernel
theorem d5_30 : decode prog_44_method_3_code 30 = .ok (.aload_n 0, 1) := by decide +kernel
theorem d5_31 : decode prog_44_method_3_code 31 = .ok (.iconst 0, 1) := by decide +kernel
theorem d5_32 : decode prog_44_method_3_code 32 = .ok (.putfield 38, 3) := by decide +kernel
theorem d5_35 : decode prog_44_method_3_code 35 = .ok (.aload_n 0, 1) := by decide +kernel
theorem d5_36 : decode prog_44_method_3_code 36 = .ok (.iconst 0, 1) := by decide +kernel
theorem d5_37 : decode prog_44_method_3_code 37 = .ok (.putfield 41, 3) := by decide +kernel
theorem d5_40 : decode prog_44_method_3_code 40 = .ok (.return_, 1) := by decide +kernel
theorem pn_com_example_plantilla_plantilla_UrlValue : plainName "com/example/plantilla/plantilla/UrlValue" = true := by first | (simp [plainName, overriddenIn]; done) | decide +kernel
theorem ef_own_u5_3 (m : MethodId) (a : Addr)  : entryFrame m #[(.ref a)] 1 = mkF m 0 #[rv a] [] := by
  first | (simp [entryFrame, mkF, argsToLocals, Value.category]; done) | rfl
set_option maxRecDepth 65536 in
set_option maxHeartbeats 40000000 in
theorem own_u5_3 (l : Launch) (Z : State) (a0 : Array Value) (hw : ∀ d ∈ tables_1, d.before a0 Z = true) (a : Addr)  (h : Heap) (n0 : Nat) (hn0 : Old Z n0 h) (E0 : Exa Z h a "com/example/plantilla/plantilla/UrlValue") (FF0 : Fld Z h a "com/example/plantilla/plantilla/UrlValue" "start" "J" (.long (0 : Int64))) (FF1 : Fld Z h a "com/example/plantilla/plantilla/UrlValue" "begun" "Z" (.int (0 : Int32))) (FF2 : Fld Z h a "com/example/plantilla/plantilla/UrlValue" "schemeLike" "Z" (.int (0 : Int32))) (FF3 : Fld Z h a "com/example/plantilla/plantilla/UrlValue" "delimited" "Z" (.int (0 : Int32))) (FF4 : Fld Z h a "com/example/plantilla/plantilla/UrlValue" "query" "Z" (.int (0 : Int32))) (FF5 : Fld Z h a "com/example/plantilla/plantilla/UrlValue" "reference" "Z" (.int (0 : Int32))) (FF6 : Fld Z h a "com/example/plantilla/plantilla/UrlValue" "holding" "Z" (.int (0 : Int32))) (FF7 : Fld Z h a "com/example/plantilla/plantilla/UrlValue" "referenceOpen" "Z" (.int (0 : Int32))) (ga : n0 ≤ a)  :
    Con l Z (⟨"com/example/plantilla/plantilla/UrlValue", "reset", "()V"⟩ : MethodName) prog_44_method_3_code 1 none ({ frames := 0, cells := 0, slots := 0, locals := 0 } : Room) #[(.ref a)] h n0 (fun v h' => v = none ∧ Keep h h' [a] ∧ Exa Z h' a "com/example/plantilla/plantilla/UrlValue" ∧ Fld Z h' a "com/example/plantilla/plantilla/UrlValue" "start" "J" (.long (0 : Int64)) ∧ Fld Z h' a "com/example/plantilla/plantilla/UrlValue" "begun" "Z" (.int (0 : Int32)) ∧ Fld Z h' a "com/example/plantilla/plantilla/UrlValue" "schemeLike" "Z" (.int (1 : Int32)) ∧ Fld Z h' a "com/example/plantilla/plantilla/UrlValue" "delimited" "Z" (.int (0 : Int32)) ∧ Fld Z h' a "com/example/plantilla/plantilla/UrlValue" "query" "Z" (.int (0 : Int32)) ∧ Fld Z h' a "com/example/plantilla/plantilla/UrlValue" "reference" "Z" (.int (0 : Int32)) ∧ Fld Z h' a "com/example/plantilla/plantilla/UrlValue" "holding" "Z" (.int (0 : Int32)) ∧ Fld Z h' a "com/example/plantilla/plantilla/UrlValue" "referenceOpen" "Z" (.int (0 : Int32))) := by
  refine con_of hw (plainFor_of_name pn_com_example_plantilla_plantilla_UrlValue) hn0 ?_
  intro p e s m below meth c T0 C X0
  refine Go.cast (congrArg T0.setTop (ef_own_u5_3 m a)) ?_
  refine go_aloadN C X0 1 rfl d5_0 rfl rfl ?_
  refine go_lconst C X0 2 rfl d5_1 (z := 0) rfl ?_
  refine go_putF C X0 (C.w 22 rfl) Via.refl FF0 E0 (Or.inl (C.w 23 rfl)) (C.w 9 rfl) ga (ty := .long) (by decide) rfl rfl (pc' := 5) rfl d5_2 (fun T1 h3 W4 X2 => ?_)
  have F5 := FF0.same W4
  have E6 := E0.wr W4
  have F7 := FF1.other W4 (Or.inr (slot_ne (Or.inl (C.w 25 rfl)) (Or.inl (C.w 23 rfl)) (by decide) (t := .boolean) (t' := .long) (by decide) (by decide)))
  have F8 := FF2.other W4 (Or.inr (slot_ne (Or.inl (C.w 27 rfl)) (Or.inl (C.w 23 rfl)) (by decide) (t := .boolean) (t' := .long) (by decide) (by decide)))
  have F9 := FF3.other W4 (Or.inr (slot_ne (Or.inl (C.w 29 rfl)) (Or.inl (C.w 23 rfl)) (by decide) (t := .boolean) (t' := .long) (by decide) (by decide)))
  have F10 := FF4.other W4 (Or.inr (slot_ne (Or.inl (C.w 31 rfl)) (Or.inl (C.w 23 rfl)) (by decide) (t := .boolean) (t' := .long) (by decide) (by decide)))
  have F11 := FF5.other W4 (Or.inr (slot_ne (Or.inl (C.w 33 rfl)) (Or.inl (C.w 23 rfl)) (by decide) (t := .boolean) (t' := .long) (by decide) (by decide)))
  have F12 := FF6.other W4 (Or.inr (slot_ne (Or.inl (C.w 35 rfl)) (Or.inl (C.w 23 rfl)) (by decide) (t := .boolean) (t' := .long) (by decide) (by decide)))
  have F13 := FF7.other W4 (Or.inr (slot_ne (Or.inl (C.w 37 rfl)) (Or.inl (C.w 23 rfl)) (by decide) (t := .boolean) (t' := .long) (by decide) (by decide)))
  have K14 := (Keep.refl h [a]).wr W4 (Or.inl (List.mem_of_getElem? (i := 0) rfl))
  refine go_aloadN C X2 6 rfl d5_5 rfl rfl ?_
  refine go_iconst C X2 7 rfl d5_6 (z := 0) rfl ?_
  refine go_putFN C X2 (C.w 24 rfl) Via.refl F7 E6 (Or.inl (C.w 25 rfl)) (C.w 9 rfl) ga (ty := .boolean) (by decide) (v' := (.int (0 : Int32))) rfl rfl (pc' := 10) rfl d5_7 (fun T15 h17 W18 X16 => ?_)
  have F19 := F7.same W18
  have E20 := E6.wr W18
  have F21 := F5.other W18 (Or.inr (slot_ne (Or.inl (C.w 23 rfl)) (Or.inl (C.w 25 rfl)) (by decide) (t := .long) (t' := .boolean) (by decide) (by decide)))
  have F22 := F8.other W18 (Or.inr (slot_ne (Or.inl (C.w 27 rfl)) (Or.inl (C.w 25 rfl)) (by decide) (t := .boolean) (t' := .boolean) (by decide) (by decide)))
  have F23 := F9.other W18 (Or.inr (slot_ne (Or.inl (C.w 29 rfl)) (Or.inl (C.w 25 rfl)) (by decide) (t := .boolean) (t' := .boolean) (by decide) (by decide)))
  have F24 := F10.other W18 (Or.inr (slot_ne (Or.inl (C.w 31 rfl)) (Or.inl (C.w 25 rfl)) (by decide) (t := .boolean) (t' := .boolean) (by decide) (by decide)))
  have F25 := F11.other W18 (Or.inr (slot_ne (Or.inl (C.w 33 rfl)) (Or.inl (C.w 25 rfl)) (by decide) (t := .boolean) (t' := .boolean) (by decide) (by decide)))
  have F26 := F12.other W18 (Or.inr (slot_ne (Or.inl (C.w 35 rfl)) (Or.inl (C.w 25 rfl)) (by decide) (t := .boolean) (t' := .boolean) (by decide) (by decide)))
  have F27 := F13.other W18 (Or.inr (slot_ne (Or.inl (C.w 37 rfl)) (Or.inl (C.w 25 rfl)) (by decide) (t := .boolean) (t' := .boolean) (by decide) (by decide)))
  have K28 := K14.wr W18 (Or.inl (List.mem_of_getElem? (i := 0) rfl))
  refine go_aloadN C X16 11 rfl d5_10 rfl rfl ?_
  refine go_iconst C X16 12 rfl d5_11 (z := 1) rfl ?_
  refine go_putFN C X16 (C.w 26 rfl) Via.refl F22 E20 (Or.inl (C.w 27 rfl)) (C.w 9 rfl) ga (ty := .boolean) (by decide) (v' := (.int (1 : Int32))) rfl rfl (pc' := 15) rfl d5_12 (fun T29 h31 W32 X30 => ?_)
  have F33 := F22.same W32
  have E34 := E20.wr W32
  have F35 := F21.other W32 (Or.inr (slot_ne (Or.inl (C.w 23 rfl)) (Or.inl (C.w 27 rfl)) (by decide) (t := .long) (t' := .boolean) (by decide) (by decide)))
  have F36 := F19.other W32 (Or.inr (slot_ne (Or.inl (C.w 25 rfl)) (Or.inl (C.w 27 rfl)) (by decide) (t := .boolean) (t' := .boolean) (by decide) (by decide)))
  have F37 := F23.other W32 (Or.inr (slot_ne (Or.inl (C.w 29 rfl)) (Or.inl (C.w 27 rfl)) (by decide) (t := .boolean) (t' := .boolean) (by decide) (by decide)))
  have F38 := F24.other W32 (Or.inr (slot_ne (Or.inl (C.w 31 rfl)) (Or.inl (C.w 27 rfl)) (by decide) (t := .boolean) (t' := .boolean) (by decide) (by decide)))
  have F39 := F25.other W32 (Or.inr (slot_ne (Or.inl (C.w 33 rfl)) (Or.inl (C.w 27 rfl)) (by decide) (t := .boolean) (t' := .boolean) (by decide) (by decide)))
  have F40 := F26.other W32 (Or.inr (slot_ne (Or.inl (C.w 35 rfl)) (Or.inl (C.w 27 rfl)) (by decide) (t := .boolean) (t' := .boolean) (by decide) (by decide)))
  have F41 := F27.other W32 (Or.inr (slot_ne (Or.inl (C.w 37 rfl)) (Or.inl (C.w 27 rfl)) (by decide) (t := .boolean) (t' := .boolean) (by decide) (by decide)))
  have K42 := K28.wr W32 (Or.inl (List.mem_of_getElem? (i := 0) rfl))
  refine go_aloadN C X30 16 rfl d5_15 rfl rfl ?_
  refine go_iconst C X30 17 rfl d5_16 (z := 0) rfl ?_
  refine go_putFN C X30 (C.w 28 rfl) Via.refl F37 E34 (Or.inl (C.w 29 rfl)) (C.w 9 rfl) ga (ty := .boolean) (by decide) (v' := (.int (0 : Int32))) rfl rfl (pc' := 20) rfl d5_17 (fun T43 h45 W46 X44 => ?_)
  have F47 := F37.same W46
  have E48 := E34.wr W46
  have F49 := F35.other W46 (Or.inr (slot_ne (Or.inl (C.w 23 rfl)) (Or.inl (C.w 29 rfl)) (by decide) (t := .long) (t' := .boolean) (by decide) (by decide)))
  have F50 := F36.other W46 (Or.inr (slot_ne (Or.inl (C.w 25 rfl)) (Or.inl (C.w 29 rfl)) (by decide) (t := .boolean) (t' := .boolean) (by decide) (by decide)))
  have F51 := F33.other W46 (Or.inr (slot_ne (Or.inl (C.w 27 rfl)) (Or.inl (C.w 29 rfl)) (by decide) (t := .boolean) (t' := .boolean) (by decide) (by decide)))
  have F52 := F38.other W46 (Or.inr (slot_ne (Or.inl (C.w 31 rfl)) (Or.inl (C.w 29 rfl)) (by decide) (t := .boolean) (t' := .boolean) (by decide) (by decide)))
  have F53 := F39.other W46 (Or.inr (slot_ne (Or.inl (C.w 33 rfl)) (Or.inl (C.w 29 rfl)) (by decide) (t := .boolean) (t' := .boolean) (by decide) (by decide)))
  have F54 := F40.other W46 (Or.inr (slot_ne (Or.inl (C.w 35 rfl)) (Or.inl (C.w 29 rfl)) (by decide) (t := .boolean) (t' := .boolean) (by decide) (by decide)))
  have F55 := F41.other W46 (Or.inr (slot_ne (Or.inl (C.w 37 rfl)) (Or.inl (C.w 29 rfl)) (by decide) (t := .boolean) (t' := .boolean) (by decide) (by decide)))
  have K56 := K42.wr W46 (Or.inl (List.mem_of_getElem? (i := 0) rfl))
  refine go_aloadN C X44 21 rfl d5_20 rfl rfl ?_
  refine go_iconst C X44 22 rfl d5_21 (z := 0) rfl ?_
  refine go_putFN C X44 (C.w 30 rfl) Via.refl F52 E48 (Or.inl (C.w 31 rfl)) (C.w 9 rfl) ga (ty := .boolean) (by decide) (v' := (.int (0 : Int32))) rfl rfl (pc' := 25) rfl d5_22 (fun T57 h59 W60 X58 => ?_)
  have F61 := F52.same W60
  have E62 := E48.wr W60
  have F63 := F49.other W60 (Or.inr (slot_ne (Or.inl (C.w 23 rfl)) (Or.inl (C.w 31 rfl)) (by decide) (t := .long) (t' := .boolean) (by decide) (by decide)))
  have F64 := F50.other W60 (Or.inr (slot_ne (Or.inl (C.w 25 rfl)) (Or.inl (C.w 31 rfl)) (by decide) (t := .boolean) (t' := .boolean) (by decide) (by decide)))
  have F65 := F51.other W60 (Or.inr (slot_ne (Or.inl (C.w 27 rfl)) (Or.inl (C.w 31 rfl)) (by decide) (t := .boolean) (t' := .boolean) (by decide) (by decide)))
  have F66 := F47.other W60 (Or.inr (slot_ne (Or.inl (C.w 29 rfl)) (Or.inl (C.w 31 rfl)) (by decide) (t := .boolean) (t' := .boolean) (by decide) (by decide)))
  have F67 := F53.other W60 (Or.inr (slot_ne (Or.inl (C.w 33 rfl)) (Or.inl (C.w 31 rfl)) (by decide) (t := .boolean) (t' := .boolean) (by decide) (by decide)))
  have F68 := F54.other W60 (Or.inr (slot_ne (Or.inl (C.w 35 rfl)) (Or.inl (C.w 31 rfl)) (by decide) (t := .boolean) (t' := .boolean) (by decide) (by decide)))
  have F69 := F55.other W60 (Or.inr (slot_ne (Or.inl (C.w 37 rfl)) (Or.inl (C.w 31 rfl)) (by decide) (t := .boolean) (t' := .boolean) (by decide) (by decide)))
  have K70 := K56.wr W60 (Or.inl (List.mem_of_getElem? (i := 0) rfl))
  refine go_aloadN C X58 26 rfl d5_25 rfl rfl ?_
  refine go_iconst C X58 27 rfl d5_26 (z := 0) rfl ?_
  refine go_putFN C X58 (C.w 32 rfl) Via.refl F67 E62 (Or.inl (C.w 33 rfl)) (C.w 9 rfl) ga (ty := .boolean) (by decide) (v' := (.int (0 : Int32))) rfl rfl (pc' := 30) rfl d5_27 (fun T71 h73 W74 X72 => ?_)
  have F75 := F67.same W74
  have E76 := E62.wr W74
  have F77 := F63.other W74 (Or.inr (slot_ne (Or.inl (C.w 23 rfl)) (Or.inl (C.w 33 rfl)) (by decide) (t := .long) (t' := .boolean) (by decide) (by decide)))
  have F78 := F64.other W74 (Or.inr (slot_ne (Or.inl (C.w 25 rfl)) (Or.inl (C.w 33 rfl)) (by decide) (t := .boolean) (t' := .boolean) (by decide) (by decide)))
  have F79 := F65.other W74 (Or.inr (slot_ne (Or.inl (C.w 27 rfl)) (Or.inl (C.w 33 rfl)) (by decide) (t := .boolean) (t' := .boolean) (by decide) (by decide)))
  have F80 := F66.other W74 (Or.inr (slot_ne (Or.inl (C.w 29 rfl)) (Or.inl (C.w 33 rfl)) (by decide) (t := .boolean) (t' := .boolean) (by decide) (by decide)))
  have F81 := F61.other W74 (Or.inr (slot_ne (Or.inl (C.w 31 rfl)) (Or.inl (C.w 33 rfl)) (by decide) (t := .boolean) (t' := .boolean) (by decide) (by decide)))
  have F82 := F68.other W74 (Or.inr (slot_ne (Or.inl (C.w 35 rfl)) (Or.inl (C.w 33 rfl)) (by decide) (t := .boolean) (t' := .boolean) (by decide) (by decide)))
  have F83 := F69.other W74 (Or.inr (slot_ne (Or.inl (C.w 37 rfl)) (Or.inl (C.w 33 rfl)) (by decide) (t := .boolean) (t' := .boolean) (by decide) (by decide)))
  have K84 := K70.wr W74 (Or.inl (List.mem_of_getElem? (i := 0) rfl))
  refine go_aloadN C X72 31 rfl d5_30 rfl rfl ?_
  refine go_iconst C X72 32 rfl d5_31 (z := 0) rfl ?_
  refine go_putFN C X72 (C.w 34 rfl) Via.refl F82 E76 (Or.inl (C.w 35 rfl)) (C.w 9 rfl) ga (ty := .boolean) (by decide) (v' := (.int (0 : Int32))) rfl rfl (pc' := 35) rfl d5_32 (fun T85 h87 W88 X86 => ?_)
  have F89 := F82.same W88
  have E90 := E76.wr W88
  have F91 := F77.other W88 (Or.inr (slot_ne (Or.inl (C.w 23 rfl)) (Or.inl (C.w 35 rfl)) (by decide) (t := .long) (t' := .boolean) (by decide) (by decide)))
  have F92 := F78.other W88 (Or.inr (slot_ne (Or.inl (C.w 25 rfl)) (Or.inl (C.w 35 rfl)) (by decide) (t := .boolean) (t' := .boolean) (by decide) (by decide)))
  have F93 := F79.other W88 (Or.inr (slot_ne (Or.inl (C.w 27 rfl)) (Or.inl (C.w 35 rfl)) (by decide) (t := .boolean) (t' := .boolean) (by decide) (by decide)))
  have F94 := F80.other W88 (Or.inr (slot_ne (Or.inl (C.w 29 rfl)) (Or.inl (C.w 35 rfl)) (by decide) (t := .boolean) (t' := .boolean) (by decide) (by decide)))
  have F95 := F81.other W88 (Or.inr (slot_ne (Or.inl (C.w 31 rfl)) (Or.inl (C.w 35 rfl)) (by decide) (t := .boolean) (t' := .boolean) (by decide) (by decide)))
  have F96 := F75.other W88 (Or.inr (slot_ne (Or.inl (C.w 33 rfl)) (Or.inl (C.w 35 rfl)) (by decide) (t := .boolean) (t' := .boolean) (by decide) (by decide)))
  have F97 := F83.other W88 (Or.inr (slot_ne (Or.inl (C.w 37 rfl)) (Or.inl (C.w 35 rfl)) (by decide) (t := .boolean) (t' := .boolean) (by decide) (by decide)))
  have K98 := K84.wr W88 (Or.inl (List.mem_of_getElem? (i := 0) rfl))
  refine go_aloadN C X86 36 rfl d5_35 rfl rfl ?_
  refine go_iconst C X86 37 rfl d5_36 (z := 0) rfl ?_
  refine go_putFN C X86 (C.w 36 rfl) Via.refl F97 E90 (Or.inl (C.w 37 rfl)) (C.w 9 rfl) ga (ty := .boolean) (by decide) (v' := (.int (0 : Int32))) rfl rfl (pc' := 40) rfl d5_37 (fun T99 h101 W102 X100 => ?_)
  have F103 := F97.same W102
  have E104 := E90.wr W102
  have F105 := F91.other W102 (Or.inr (slot_ne (Or.inl (C.w 23 rfl)) (Or.inl (C.w 37 rfl)) (by decide) (t := .long) (t' := .boolean) (by decide) (by decide)))
  have F106 := F92.other W102 (Or.inr (slot_ne (Or.inl (C.w 25 rfl)) (Or.inl (C.w 37 rfl)) (by decide) (t := .boolean) (t' := .boolean) (by decide) (by decide)))
  have F107 := F93.other W102 (Or.inr (slot_ne (Or.inl (C.w 27 rfl)) (Or.inl (C.w 37 rfl)) (by decide) (t := .boolean) (t' := .boolean) (by decide) (by decide)))
  have F108 := F94.other W102 (Or.inr (slot_ne (Or.inl (C.w 29 rfl)) (Or.inl (C.w 37 rfl)) (by decide) (t := .boolean) (t' := .boolean) (by decide) (by decide)))
  have F109 := F95.other W102 (Or.inr (slot_ne (Or.inl (C.w 31 rfl)) (Or.inl (C.w 37 rfl)) (by decide) (t := .boolean) (t' := .boolean) (by decide) (by decide)))
  have F110 := F96.other W102 (Or.inr (slot_ne (Or.inl (C.w 33 rfl)) (Or.inl (C.w 37 rfl)) (by decide) (t := .boolean) (t' := .boolean) (by decide) (by decide)))
  have F111 := F89.other W102 (Or.inr (slot_ne (Or.inl (C.w 35 rfl)) (Or.inl (C.w 37 rfl)) (by decide) (t := .boolean) (t' := .boolean) (by decide) (by decide)))
  have K112 := K98.wr W102 (Or.inl (List.mem_of_getElem? (i := 0) rfl))
  exact go_ret0 C X100 d5_40 ⟨rfl, K112, E104, F105, F106, F107, F108, F109, F110, F111, F103⟩ (by decide) (by decide)
theorem pd_3 : parseMethodDescriptor "()V" = some ⟨[], none⟩ := by decide +kernel
theorem d3_5 : decode prog_44_method_1_code 5 = .ok (.invokevirtual 7, 3) := by decide +kernel
theorem d3_8 : decode prog_44_method_1_code 8 = .ok (.return_, 1) := by decide +kernel
theorem ef_own_u3_2 (m : MethodId) (a : Addr)  : entryFrame m #[(.ref a)] 1 = mkF m 0 #[rv a] [] := by
  first | (simp [entryFrame, mkF, argsToLocals, Value.category]; done) | rfl
set_option maxRecDepth 65536 in
set_option maxHeartbeats 40000000 in
theorem own_u3_2 (l : Launch) (Z : State) (a0 : Array Value) (hw : ∀ d ∈ tables_1, d.before a0 Z = true) (a : Addr)  (h : Heap) (n0 : Nat) (hn0 : Old Z n0 h) (E0 : Exa Z h a "com/example/plantilla/plantilla/UrlValue") (FF0 : Fld Z h a "com/example/plantilla/plantilla/UrlValue" "start" "J" (.long (0 : Int64))) (FF1 : Fld Z h a "com/example/plantilla/plantilla/UrlValue" "begun" "Z" (.int (0 : Int32))) (FF2 : Fld Z h a "com/example/plantilla/plantilla/UrlValue" "schemeLike" "Z" (.int (0 : Int32))) (FF3 : Fld Z h a "com/example/plantilla/plantilla/UrlValue" "delimited" "Z" (.int (0 : Int32))) (FF4 : Fld Z h a "com/example/plantilla/plantilla/UrlValue" "query" "Z" (.int (0 : Int32))) (FF5 : Fld Z h a "com/example/plantilla/plantilla/UrlValue" "reference" "Z" (.int (0 : Int32))) (FF6 : Fld Z h a "com/example/plantilla/plantilla/UrlValue" "holding" "Z" (.int (0 : Int32))) (FF7 : Fld Z h a "com/example/plantilla/plantilla/UrlValue" "referenceOpen" "Z" (.int (0 : Int32))) (ga : n0 ≤ a)  :
    Con l Z (⟨"com/example/plantilla/plantilla/UrlValue", "<init>", "()V"⟩ : MethodName) prog_44_method_1_code 1 none ({ frames := 1, cells := 0, slots := 0, locals := 12 } : Room) #[(.ref a)] h n0 (fun v h' => v = none ∧ Keep h h' [a] ∧ Exa Z h' a "com/example/plantilla/plantilla/UrlValue" ∧ Fld Z h' a "com/example/plantilla/plantilla/UrlValue" "start" "J" (.long (0 : Int64)) ∧ Fld Z h' a "com/example/plantilla/plantilla/UrlValue" "begun" "Z" (.int (0 : Int32)) ∧ Fld Z h' a "com/example/plantilla/plantilla/UrlValue" "schemeLike" "Z" (.int (1 : Int32)) ∧ Fld Z h' a "com/example/plantilla/plantilla/UrlValue" "delimited" "Z" (.int (0 : Int32)) ∧ Fld Z h' a "com/example/plantilla/plantilla/UrlValue" "query" "Z" (.int (0 : Int32)) ∧ Fld Z h' a "com/example/plantilla/plantilla/UrlValue" "reference" "Z" (.int (0 : Int32)) ∧ Fld Z h' a "com/example/plantilla/plantilla/UrlValue" "holding" "Z" (.int (0 : Int32)) ∧ Fld Z h' a "com/example/plantilla/plantilla/UrlValue" "referenceOpen" "Z" (.int (0 : Int32))) := by
  refine con_of hw (plainFor_of_name pn_com_example_plantilla_plantilla_UrlValue) hn0 ?_
  intro p e s m below meth c T0 C X0
  refine Go.cast (congrArg T0.setTop (ef_own_u3_2 m a)) ?_
  refine go_aloadN C X0 1 rfl d3_0 rfl rfl ?_
  refine go_initO C X0 (C.w 14 rfl) (C.w 15 rfl) (C.w 16 rfl) (by decide) (Nat.le_of_ble_eq_true rfl) rfl (pc' := 4) rfl d3_1 (fun T1 X2 => ?_)
  refine go_aloadN C X2 5 rfl d3_4 rfl rfl ?_
  refine go_virtual C X2 E0 (C.w 17 rfl) (C.w 18 rfl) (notFace_of_selects (args := #[]) (mvT C.hZ (C.w 20 rfl))) (C.w 20 rfl) (C.w 19 rfl) (C.w 10 rfl) (C.w 21 rfl) (own_u5_3 l Z a0 C.ws a h n0 X2.old E0 FF0 FF1 FF2 FF3 FF4 FF5 FF6 FF7 ga ) (argsL := []) (rest := []) (lenOf pd_3 rfl) rfl (by decide) (by decide) (Nat.le_of_ble_eq_true rfl) (by decide) (by decide) rfl rfl (pc' := 8) rfl d3_5 ?_
  rintro T3 h5 _ ⟨rfl, Kq6, Eq6, Fq60, Fq61, Fq62, Fq63, Fq64, Fq65, Fq66, Fq67⟩ X4
  show Go p e below _ (T3.setTop (mkF m 8 #[rv a] []))
  have E7 := E0.keep Kq6
  have K8 := (Keep.refl h [a]).trans Kq6 (allS (Or.inl (List.mem_of_getElem? (i := 0) rfl)) all0)
  exact go_ret0 C X4 d3_8 ⟨rfl, K8, Eq6, Fq60, Fq61, Fq62, Fq63, Fq64, Fq65, Fq66, Fq67⟩ (by decide) (by decide)
theorem d2_4 : decode method_4_code 4 = .ok (.invokespecial 28, 3) := by decide +kernel
theorem d2_7 : decode method_4_code 7 = .ok (.astore_n 2, 1) := by decide +kernel
theorem d2_8 : decode method_4_code 8 = .ok (.iload_n 0, 1) := by decide +kernel
theorem d2_9 : decode method_4_code 9 = .ok (.iconst 1, 1) := by decide +kernel
theorem d2_10 : decode method_4_code 10 = .ok (.if_icmp .ne 10, 3) := by decide +kernel
theorem d2_20 : decode method_4_code 20 = .ok (.iload_n 0, 1) := by decide +kernel
theorem d2_21 : decode method_4_code 21 = .ok (.iconst 2, 1) := by decide +kernel
theorem d2_22 : decode method_4_code 22 = .ok (.if_icmp .ne 13, 3) := by decide +kernel
theorem d2_35 : decode method_4_code 35 = .ok (.iload_n 0, 1) := by decide +kernel
theorem d2_36 : decode method_4_code 36 = .ok (.iconst 3, 1) := by decide +kernel
theorem d2_37 : decode method_4_code 37 = .ok (.if_icmp .ne 13, 3) := by decide +kernel
theorem d2_50 : decode method_4_code 50 = .ok (.iload_n 0, 1) := by decide +kernel
theorem d2_51 : decode method_4_code 51 = .ok (.iconst 4, 1) := by decide +kernel
theorem d2_52 : decode method_4_code 52 = .ok (.if_icmp .ne 13, 3) := by decide +kernel
theorem d2_65 : decode method_4_code 65 = .ok (.iload_n 0, 1) := by decide +kernel
theorem d2_66 : decode method_4_code 66 = .ok (.iconst 5, 1) := by decide +kernel
theorem d2_67 : decode method_4_code 67 = .ok (.if_icmp .ne 13, 3) := by decide +kernel
theorem d2_80 : decode method_4_code 80 = .ok (.iload_n 0, 1) := by decide +kernel
theorem d2_81 : decode method_4_code 81 = .ok (.bipush 6, 2) := by decide +kernel
theorem d2_83 : decode method_4_code 83 = .ok (.if_icmp .ne 20, 3) := by decide +kernel
theorem d2_103 : decode method_4_code 103 = .ok (.iload_n 0, 1) := by decide +kernel
theorem d2_104 : decode method_4_code 104 = .ok (.bipush 7, 2) := by decide +kernel
theorem d2_106 : decode method_4_code 106 = .ok (.if_icmp .ne 12, 3) := by decide +kernel
theorem d2_118 : decode method_4_code 118 = .ok (.iload_n 0, 1) := by decide +kernel
theorem d2_119 : decode method_4_code 119 = .ok (.bipush 8, 2) := by decide +kernel
theorem d2_121 : decode method_4_code 121 = .ok (.if_icmp .ne 15, 3) := by decide +kernel
theorem d2_136 : decode method_4_code 136 = .ok (.iload_n 0, 1) := by decide +kernel
theorem d2_137 : decode method_4_code 137 = .ok (.bipush 9, 2) := by decide +kernel
theorem d2_139 : decode method_4_code 139 = .ok (.if_icmp .ne 17, 3) := by decide +kernel
theorem d2_156 : decode method_4_code 156 = .ok (.iload_n 0, 1) := by decide +kernel
theorem d2_157 : decode method_4_code 157 = .ok (.bipush 10, 2) := by decide +kernel
theorem d2_159 : decode method_4_code 159 = .ok (.if_icmp .ne 14, 3) := by decide +kernel
theorem d2_173 : decode method_4_code 173 = .ok (.aload_n 2, 1) := by decide +kernel
theorem d2_174 : decode method_4_code 174 = .ok (.areturn, 1) := by decide +kernel
theorem d2_162 : decode method_4_code 162 = .ok (.aload_n 2, 1) := by decide +kernel
theorem d2_163 : decode method_4_code 163 = .ok (.bipush 33, 2) := by decide +kernel
theorem d6_0 : decode prog_44_method_8_code 0 = .ok (.aload_n 0, 1) := by decide +kernel
theorem d6_1 : decode prog_44_method_8_code 1 = .ok (.getfield 38, 3) := by decide +kernel
theorem d6_4 : decode prog_44_method_8_code 4 = .ok (.ifCond .eq 26, 3) := by decide +kernel
theorem d6_30 : decode prog_44_method_8_code 30 = .ok (.iconst 0, 1) := by decide +kernel
theorem d6_31 : decode prog_44_method_8_code 31 = .ok (.istore_n 2, 1) := by decide +kernel
theorem d6_32 : decode prog_44_method_8_code 32 = .ok (.iload_n 2, 1) := by decide +kernel
theorem d6_33 : decode prog_44_method_8_code 33 = .ok (.ifCond .eq 7, 3) := by decide +kernel
theorem d6_40 : decode prog_44_method_8_code 40 = .ok (.aload_n 0, 1) := by decide +kernel
theorem d6_41 : decode prog_44_method_8_code 41 = .ok (.iload_n 1, 1) := by decide +kernel
theorem d6_42 : decode prog_44_method_8_code 42 = .ok (.iconst 1, 1) := by decide +kernel
theorem d7_0 : decode prog_44_method_13_code 0 = .ok (.aload_n 0, 1) := by decide +kernel
theorem d7_1 : decode prog_44_method_13_code 1 = .ok (.getfield 41, 3) := by decide +kernel
theorem d7_4 : decode prog_44_method_13_code 4 = .ok (.ifCond .eq 14, 3) := by decide +kernel
theorem d7_18 : decode prog_44_method_13_code 18 = .ok (.iconst 0, 1) := by decide +kernel
theorem d7_19 : decode prog_44_method_13_code 19 = .ok (.istore_n 3, 1) := by decide +kernel
theorem d7_20 : decode prog_44_method_13_code 20 = .ok (.aload_n 0, 1) := by decide +kernel
theorem d7_21 : decode prog_44_method_13_code 21 = .ok (.iload_n 2, 1) := by decide +kernel
theorem d7_22 : decode prog_44_method_13_code 22 = .ok (.ifCond .eq 40, 3) := by decide +kernel
theorem d7_25 : decode prog_44_method_13_code 25 = .ok (.iload_n 1, 1) := by decide +kernel
theorem d7_26 : decode prog_44_method_13_code 26 = .ok (.bipush 38, 2) := by decide +kernel
theorem d7_28 : decode prog_44_method_13_code 28 = .ok (.if_icmp .eq 30, 3) := by decide +kernel
theorem d7_31 : decode prog_44_method_13_code 31 = .ok (.aload_n 0, 1) := by decide +kernel
theorem d7_32 : decode prog_44_method_13_code 32 = .ok (.getfield 41, 3) := by decide +kernel
theorem d7_35 : decode prog_44_method_13_code 35 = .ok (.ifCond .eq 27, 3) := by decide +kernel
theorem d7_62 : decode prog_44_method_13_code 62 = .ok (.iconst 0, 1) := by decide +kernel
theorem d7_63 : decode prog_44_method_13_code 63 = .ok (.putfield 41, 3) := by decide +kernel
theorem d7_66 : decode prog_44_method_13_code 66 = .ok (.iload_n 1, 1) := by decide +kernel
theorem d7_67 : decode prog_44_method_13_code 67 = .ok (.bipush 9, 2) := by decide +kernel
theorem d7_69 : decode prog_44_method_13_code 69 = .ok (.if_icmp .eq 28, 3) := by decide +kernel
theorem d7_72 : decode prog_44_method_13_code 72 = .ok (.iload_n 1, 1) := by decide +kernel
theorem d7_73 : decode prog_44_method_13_code 73 = .ok (.bipush 10, 2) := by decide +kernel
theorem d7_75 : decode prog_44_method_13_code 75 = .ok (.if_icmp .eq 22, 3) := by decide +kernel
theorem d7_78 : decode prog_44_method_13_code 78 = .ok (.iload_n 1, 1) := by decide +kernel
theorem d7_79 : decode prog_44_method_13_code 79 = .ok (.bipush 13, 2) := by decide +kernel
theorem d7_81 : decode prog_44_method_13_code 81 = .ok (.if_icmp .eq 16, 3) := by decide +kernel
theorem d7_84 : decode prog_44_method_13_code 84 = .ok (.aload_n 0, 1) := by decide +kernel
theorem d7_85 : decode prog_44_method_13_code 85 = .ok (.getfield 22, 3) := by decide +kernel
theorem d7_88 : decode prog_44_method_13_code 88 = .ok (.ifCond .ne 11, 3) := by decide +kernel
theorem d7_91 : decode prog_44_method_13_code 91 = .ok (.iload_n 1, 1) := by decide +kernel
theorem d7_92 : decode prog_44_method_13_code 92 = .ok (.bipush 32, 2) := by decide +kernel
theorem d7_94 : decode prog_44_method_13_code 94 = .ok (.if_icmp .gt 5, 3) := by decide +kernel
theorem d7_99 : decode prog_44_method_13_code 99 = .ok (.aload_n 0, 1) := by decide +kernel
theorem d7_100 : decode prog_44_method_13_code 100 = .ok (.iconst 1, 1) := by decide +kernel
theorem d7_101 : decode prog_44_method_13_code 101 = .ok (.putfield 22, 3) := by decide +kernel
theorem d7_104 : decode prog_44_method_13_code 104 = .ok (.iconst 0, 1) := by decide +kernel
theorem d7_105 : decode prog_44_method_13_code 105 = .ok (.istore 4, 2) := by decide +kernel
theorem d7_107 : decode prog_44_method_13_code 107 = .ok (.iload_n 1, 1) := by decide +kernel
theorem d7_108 : decode prog_44_method_13_code 108 = .ok (.bipush 63, 2) := by decide +kernel
theorem d7_110 : decode prog_44_method_13_code 110 = .ok (.if_icmp .eq 13, 3) := by decide +kernel
theorem d7_113 : decode prog_44_method_13_code 113 = .ok (.iload_n 1, 1) := by decide +kernel
theorem d7_114 : decode prog_44_method_13_code 114 = .ok (.bipush 35, 2) := by decide +kernel
theorem d7_116 : decode prog_44_method_13_code 116 = .ok (.if_icmp .ne 25, 3) := by decide +kernel
theorem d7_141 : decode prog_44_method_13_code 141 = .ok (.iload_n 1, 1) := by decide +kernel
theorem d7_142 : decode prog_44_method_13_code 142 = .ok (.bipush 58, 2) := by decide +kernel
theorem d7_144 : decode prog_44_method_13_code 144 = .ok (.if_icmp .eq 9, 3) := by decide +kernel
theorem d7_147 : decode prog_44_method_13_code 147 = .ok (.iload_n 1, 1) := by decide +kernel
theorem d7_148 : decode prog_44_method_13_code 148 = .ok (.bipush 47, 2) := by decide +kernel
theorem d7_150 : decode prog_44_method_13_code 150 = .ok (.if_icmp .ne 11, 3) := by decide +kernel
theorem d7_161 : decode prog_44_method_13_code 161 = .ok (.aload_n 0, 1) := by decide +kernel
theorem d7_162 : decode prog_44_method_13_code 162 = .ok (.getfield 29, 3) := by decide +kernel
theorem d7_165 : decode prog_44_method_13_code 165 = .ok (.ifCond .ne 71, 3) := by decide +kernel
theorem d7_168 : decode prog_44_method_13_code 168 = .ok (.aload_n 0, 1) := by decide +kernel
theorem d7_169 : decode prog_44_method_13_code 169 = .ok (.dup, 1) := by decide +kernel
theorem d7_170 : decode prog_44_method_13_code 170 = .ok (.getfield 35, 3) := by decide +kernel
theorem d7_173 : decode prog_44_method_13_code 173 = .ok (.iload_n 2, 1) := by decide +kernel
theorem d7_174 : decode prog_44_method_13_code 174 = .ok (.ifCond .eq 13, 3) := by decide +kernel
theorem d7_177 : decode prog_44_method_13_code 177 = .ok (.iload_n 1, 1) := by decide +kernel
theorem d7_178 : decode prog_44_method_13_code 178 = .ok (.bipush 38, 2) := by decide +kernel
theorem d7_180 : decode prog_44_method_13_code 180 = .ok (.if_icmp .ne 7, 3) := by decide +kernel
theorem d7_187 : decode prog_44_method_13_code 187 = .ok (.iconst 0, 1) := by decide +kernel
theorem d7_188 : decode prog_44_method_13_code 188 = .ok (.ior, 1) := by decide +kernel
theorem d7_189 : decode prog_44_method_13_code 189 = .ok (.putfield 35, 3) := by decide +kernel
theorem d7_192 : decode prog_44_method_13_code 192 = .ok (.aload_n 0, 1) := by decide +kernel
theorem d7_193 : decode prog_44_method_13_code 193 = .ok (.dup, 1) := by decide +kernel
theorem d7_194 : decode prog_44_method_13_code 194 = .ok (.getfield 26, 3) := by decide +kernel
theorem d7_197 : decode prog_44_method_13_code 197 = .ok (.aload_n 0, 1) := by decide +kernel
theorem d7_198 : decode prog_44_method_13_code 198 = .ok (.getfield 18, 3) := by decide +kernel
theorem d7_201 : decode prog_44_method_13_code 201 = .ok (.lconst 0, 1) := by decide +kernel
theorem d7_202 : decode prog_44_method_13_code 202 = .ok (.lcmp, 1) := by decide +kernel
theorem d7_203 : decode prog_44_method_13_code 203 = .ok (.ifCond .ne 10, 3) := by decide +kernel
theorem d7_206 : decode prog_44_method_13_code 206 = .ok (.iload_n 1, 1) := by decide +kernel
theorem d11_0 : decode prog_44_method_15_code 0 = .ok (.iload_n 0, 1) := by decide +kernel
theorem d11_1 : decode prog_44_method_15_code 1 = .ok (.bipush 97, 2) := by decide +kernel
theorem d11_3 : decode prog_44_method_15_code 3 = .ok (.if_icmp .lt 9, 3) := by decide +kernel
theorem d11_12 : decode prog_44_method_15_code 12 = .ok (.iload_n 0, 1) := by decide +kernel
theorem d11_13 : decode prog_44_method_15_code 13 = .ok (.bipush 65, 2) := by decide +kernel
theorem d11_15 : decode prog_44_method_15_code 15 = .ok (.if_icmp .lt 13, 3) := by decide +kernel
theorem d11_28 : decode prog_44_method_15_code 28 = .ok (.iconst 0, 1) := by decide +kernel
theorem d11_29 : decode prog_44_method_15_code 29 = .ok (.ireturn, 1) := by decide +kernel
theorem ef_own_p11_6 (m : MethodId)   : entryFrame m #[(.int (33 : Int32))] 1 = mkF m 0 #[iv (33 : Int32)] [] := by
  first | (simp [entryFrame, mkF, argsToLocals, Value.category]; done) | rfl
set_option maxRecDepth 65536 in
set_option maxHeartbeats 40000000 in
theorem own_p11_6 (l : Launch) (Z : State) (a0 : Array Value) (hw : ∀ d ∈ tables_1, d.before a0 Z = true)   (h : Heap) (n0 : Nat) (hn0 : Old Z n0 h)  :
    Con l Z (⟨"com/example/plantilla/plantilla/UrlValue", "isAsciiLetter", "(C)Z"⟩ : MethodName) prog_44_method_15_code 1 (some .boolean) ({ frames := 0, cells := 0, slots := 0, locals := 0 } : Room) #[(.int (33 : Int32))] h n0 (fun v h' => v = some (.int (0 : Int32)) ∧ h = h') := by
  refine con_of hw (plainFor_of_name pn_com_example_plantilla_plantilla_UrlValue) hn0 ?_
  intro p e s m below meth c T0 C X0
  refine Go.cast (congrArg T0.setTop (ef_own_p11_6 m )) ?_
  refine go_iloadN C X0 1 rfl d11_0 rfl ?_
  refine go_bipush C X0 3 rfl d11_1 (z := 97) rfl ?_
  refine go_icmp_lt C X0 d11_3 (pc' := 6) (pc2 := 12) rfl (by decide) (by decide) (fun (c3 : 33 < 97) => ?_) (fun (c3 : 97 ≤ 33) => False.elim (by first | omega | exact absurd c3 (by decide)))
  refine go_iloadN C X0 13 rfl d11_12 rfl ?_
  refine go_bipush C X0 15 rfl d11_13 (z := 65) rfl ?_
  refine go_icmp_lt C X0 d11_15 (pc' := 18) (pc2 := 28) rfl (by decide) (by decide) (fun (c15 : 33 < 65) => ?_) (fun (c15 : 65 ≤ 33) => False.elim (by first | omega | exact absurd c15 (by decide)))
  refine go_iconst C X0 29 rfl d11_28 (z := 0) rfl ?_
  exact go_retN C X0 (by simp) (z' := 0) rfl d11_29 ⟨rfl, rfl⟩ (by decide) (by decide)
theorem d7_207 : decode prog_44_method_13_code 207 = .ok (.invokestatic 79, 3) := by decide +kernel
theorem d7_210 : decode prog_44_method_13_code 210 = .ok (.goto 7, 3) := by decide +kernel
theorem d7_217 : decode prog_44_method_13_code 217 = .ok (.iand, 1) := by decide +kernel
theorem d7_218 : decode prog_44_method_13_code 218 = .ok (.putfield 26, 3) := by decide +kernel
theorem d7_221 : decode prog_44_method_13_code 221 = .ok (.aload_n 0, 1) := by decide +kernel
theorem d7_222 : decode prog_44_method_13_code 222 = .ok (.aload_n 0, 1) := by decide +kernel
theorem d7_223 : decode prog_44_method_13_code 223 = .ok (.getfield 18, 3) := by decide +kernel
theorem d7_226 : decode prog_44_method_13_code 226 = .ok (.iload_n 1, 1) := by decide +kernel
theorem d12_0 : decode prog_35_method_2_code 0 = .ok (.iload_n 2, 1) := by decide +kernel
theorem d13_0 : decode prog_35_method_5_code 0 = .ok (.iload_n 0, 1) := by decide +kernel
theorem d13_1 : decode prog_35_method_5_code 1 = .ok (.bipush 97, 2) := by decide +kernel
theorem d13_3 : decode prog_35_method_5_code 3 = .ok (.if_icmp .lt 19, 3) := by decide +kernel
theorem d13_22 : decode prog_35_method_5_code 22 = .ok (.iload_n 0, 1) := by decide +kernel
theorem d13_23 : decode prog_35_method_5_code 23 = .ok (.bipush 65, 2) := by decide +kernel
theorem d13_25 : decode prog_35_method_5_code 25 = .ok (.if_icmp .lt 19, 3) := by decide +kernel
theorem d13_44 : decode prog_35_method_5_code 44 = .ok (.iload_n 0, 1) := by decide +kernel
theorem d13_45 : decode prog_35_method_5_code 45 = .ok (.bipush 48, 2) := by decide +kernel
theorem d13_47 : decode prog_35_method_5_code 47 = .ok (.if_icmp .lt 20, 3) := by decide +kernel
theorem d13_67 : decode prog_35_method_5_code 67 = .ok (.iload_n 0, 1) := by decide +kernel
theorem d13_68 : decode prog_35_method_5_code 68 = .ok (.lookupswitch 64 #[(43, 49), (45, 54), (46, 59), (58, 44)], 44) := by decide +kernel
theorem d13_132 : decode prog_35_method_5_code 132 = .ok (.iconst 0, 1) := by decide +kernel
theorem d13_133 : decode prog_35_method_5_code 133 = .ok (.istore_n 1, 1) := by decide +kernel
theorem d13_134 : decode prog_35_method_5_code 134 = .ok (.iload_n 1, 1) := by decide +kernel
theorem d13_135 : decode prog_35_method_5_code 135 = .ok (.ireturn, 1) := by decide +kernel
theorem pn_com_example_plantilla_plantilla_PackedName : plainName "com/example/plantilla/plantilla/PackedName" = true := by first | (simp [plainName, overriddenIn]; done) | decide +kernel
theorem ef_own_p13_8 (m : MethodId)   : entryFrame m #[(.int (33 : Int32))] 2 = mkF m 0 #[iv (33 : Int32), un] [] := by
  first | (simp [entryFrame, mkF, argsToLocals, Value.category]; done) | rfl
set_option maxRecDepth 65536 in
set_option maxHeartbeats 40000000 in
theorem own_p13_8 (l : Launch) (Z : State) (a0 : Array Value) (hw : ∀ d ∈ tables_1, d.before a0 Z = true)   (h : Heap) (n0 : Nat) (hn0 : Old Z n0 h)  :
    Con l Z (⟨"com/example/plantilla/plantilla/PackedName", "codeOf", "(C)I"⟩ : MethodName) prog_35_method_5_code 2 (some .int) ({ frames := 0, cells := 0, slots := 0, locals := 0 } : Room) #[(.int (33 : Int32))] h n0 (fun v h' => v = some (.int (0 : Int32)) ∧ h = h') := by
  refine con_of hw (plainFor_of_name pn_com_example_plantilla_plantilla_PackedName) hn0 ?_
  intro p e s m below meth c T0 C X0
  refine Go.cast (congrArg T0.setTop (ef_own_p13_8 m )) ?_
  refine go_iloadN C X0 1 rfl d13_0 rfl ?_
  refine go_bipush C X0 3 rfl d13_1 (z := 97) rfl ?_
  refine go_icmp_lt C X0 d13_3 (pc' := 6) (pc2 := 22) rfl (by decide) (by decide) (fun (c3 : 33 < 97) => ?_) (fun (c3 : 97 ≤ 33) => False.elim (by first | omega | exact absurd c3 (by decide)))
  refine go_iloadN C X0 23 rfl d13_22 rfl ?_
  refine go_bipush C X0 25 rfl d13_23 (z := 65) rfl ?_
  refine go_icmp_lt C X0 d13_25 (pc' := 28) (pc2 := 44) rfl (by decide) (by decide) (fun (c25 : 33 < 65) => ?_) (fun (c25 : 65 ≤ 33) => False.elim (by first | omega | exact absurd c25 (by decide)))
  refine go_iloadN C X0 45 rfl d13_44 rfl ?_
  refine go_bipush C X0 47 rfl d13_45 (z := 48) rfl ?_
  refine go_icmp_lt C X0 d13_47 (pc' := 50) (pc2 := 67) rfl (by decide) (by decide) (fun (c47 : 33 < 48) => ?_) (fun (c47 : 48 ≤ 33) => False.elim (by first | omega | exact absurd c47 (by decide)))
  refine go_iloadN C X0 68 rfl d13_67 rfl ?_
  refine go_lookMiss C X0 d13_68 (by first | decide | (simp; done)) (by first | decide | rfl | (simp; done)) (pc2 := 132) (by decide) (by decide) ?_
  refine go_iconst C X0 133 rfl d13_132 (z := 0) rfl ?_
  refine go_istoreN C X0 134 rfl d13_133 #[iv (33 : Int32), iv (0 : Int32)] rfl ?_
  refine go_iloadN C X0 135 rfl d13_134 rfl ?_
  exact go_retI C X0 d13_135 ⟨rfl, rfl⟩ (by decide) (by decide)
theorem pd_4 : parseMethodDescriptor "(C)I" = some ⟨[.char], some .int⟩ := by decide +kernel
theorem d12_1 : decode prog_35_method_2_code 1 = .ok (.invokestatic 7, 3) := by decide +kernel
theorem d12_4 : decode prog_35_method_2_code 4 = .ok (.i2l, 1) := by decide +kernel
theorem d12_5 : decode prog_35_method_2_code 5 = .ok (.lstore_n 3, 1) := by decide +kernel
theorem d12_6 : decode prog_35_method_2_code 6 = .ok (.lload_n 0, 1) := by decide +kernel
theorem d12_7 : decode prog_35_method_2_code 7 = .ok (.ldc2_w 13, 3) := by decide +kernel
theorem d12_10 : decode prog_35_method_2_code 10 = .ok (.lcmp, 1) := by decide +kernel
theorem d12_11 : decode prog_35_method_2_code 11 = .ok (.ifCond .lt 7, 3) := by decide +kernel
theorem d12_18 : decode prog_35_method_2_code 18 = .ok (.iconst 0, 1) := by decide +kernel
theorem d12_19 : decode prog_35_method_2_code 19 = .ok (.istore 5, 2) := by decide +kernel
theorem d12_21 : decode prog_35_method_2_code 21 = .ok (.lload_n 0, 1) := by decide +kernel
theorem d12_22 : decode prog_35_method_2_code 22 = .ok (.ldc2_w 15, 3) := by decide +kernel
theorem d12_25 : decode prog_35_method_2_code 25 = .ok (.lcmp, 1) := by decide +kernel
theorem d12_26 : decode prog_35_method_2_code 26 = .ok (.ifCond .eq 14, 3) := by decide +kernel
theorem d12_29 : decode prog_35_method_2_code 29 = .ok (.lload_n 3, 1) := by decide +kernel
theorem d12_30 : decode prog_35_method_2_code 30 = .ok (.lconst 0, 1) := by decide +kernel
theorem d12_31 : decode prog_35_method_2_code 31 = .ok (.lcmp, 1) := by decide +kernel
theorem d12_32 : decode prog_35_method_2_code 32 = .ok (.ifCond .eq 8, 3) := by decide +kernel
theorem d12_40 : decode prog_35_method_2_code 40 = .ok (.ldc2_w 15, 3) := by decide +kernel
theorem d12_43 : decode prog_35_method_2_code 43 = .ok (.goto 9, 3) := by decide +kernel
theorem d12_52 : decode prog_35_method_2_code 52 = .ok (.lreturn, 1) := by decide +kernel
theorem ef_own_p12_7 (m : MethodId)   : entryFrame m #[(.long (0 : Int64)), (.int (33 : Int32))] 6 = mkF m 0 #[jv (0 : Int64), sc, iv (33 : Int32), un, un, un] [] := by
  first | (simp [entryFrame, mkF, argsToLocals, Value.category]; done) | rfl
set_option maxRecDepth 65536 in
set_option maxHeartbeats 40000000 in
theorem own_p12_7 (l : Launch) (Z : State) (a0 : Array Value) (hw : ∀ d ∈ tables_1, d.before a0 Z = true)   (h : Heap) (n0 : Nat) (hn0 : Old Z n0 h)  :
    Con l Z (⟨"com/example/plantilla/plantilla/PackedName", "appended", "(JC)J"⟩ : MethodName) prog_35_method_2_code 6 (some .long) ({ frames := 1, cells := 0, slots := 0, locals := 13 } : Room) #[(.long (0 : Int64)), (.int (33 : Int32))] h n0 (fun v h' => v = some (.long (-1 : Int64)) ∧ h = h') := by
  refine con_of hw (plainFor_of_name pn_com_example_plantilla_plantilla_PackedName) hn0 ?_
  intro p e s m below meth c T0 C X0
  refine Go.cast (congrArg T0.setTop (ef_own_p12_7 m )) ?_
  refine go_iloadN C X0 1 rfl d12_0 rfl ?_
  refine go_callS C X0 (C.w 67 rfl) (C.w 68 rfl) (C.w 65 rfl) (C.w 69 rfl) (own_p13_8 l Z a0 C.ws  h n0 X0.old ) (argsL := [(.int (33 : Int32))]) (rest := []) (lenOf pd_4 rfl) rfl (by decide) (by decide) (Nat.le_of_ble_eq_true rfl) (by decide) (by decide) rfl rfl (pc' := 4) rfl d12_1 ?_
  rintro T1 _ _ ⟨rfl, rfl⟩ X2
  show Go p e below _ (T1.setTop (mkF m 4 #[jv (0 : Int64), sc, iv (33 : Int32), un, un, un] [(.int (0 : Int32))]))
  refine go_i2l C X2 5 rfl d12_4 ?_
  show Go p e below _ (T1.setTop (mkF m 5 #[jv (0 : Int64), sc, iv (33 : Int32), un, un, un] [(.long (0 : Int64))]))
  refine go_lstoreN C X2 6 rfl d12_5 #[jv (0 : Int64), sc, iv (33 : Int32), jv (0 : Int64), sc, un] rfl ?_
  refine go_lloadN C X2 7 rfl d12_6 rfl ?_
  refine go_ldc2Long C X2 (C.w 70 rfl) (pc' := 10) rfl d12_7 ?_
  refine go_lif_lt C X2 (pc1 := 11) rfl d12_10 d12_11 (pc' := 14) (pc2 := 18) rfl (by decide) (by decide) (fun (c11 : 0 < 18014398509481984) => ?_) (fun (c11 : 18014398509481984 ≤ 0) => False.elim (by first | omega | exact absurd c11 (by decide)))
  refine go_iconst C X2 19 rfl d12_18 (z := 0) rfl ?_
  refine go_istore C X2 21 rfl d12_19 #[jv (0 : Int64), sc, iv (33 : Int32), jv (0 : Int64), sc, iv (0 : Int32)] rfl ?_
  refine go_lloadN C X2 22 rfl d12_21 rfl ?_
  refine go_ldc2Long C X2 (C.w 71 rfl) (pc' := 25) rfl d12_22 ?_
  refine go_lif_eq C X2 (pc1 := 26) rfl d12_25 d12_26 (pc' := 29) (pc2 := 40) rfl (by decide) (by decide) (fun (c26 : (0 : Int64) = (-1 : Int64)) => False.elim (by first | omega | exact absurd c26 (by decide))) (fun (c26 : ¬ (0 : Int64) = (-1 : Int64)) => ?_)
  refine go_lloadN C X2 30 rfl d12_29 rfl ?_
  refine go_lconst C X2 31 rfl d12_30 (z := 0) rfl ?_
  refine go_lif_eq C X2 (pc1 := 32) rfl d12_31 d12_32 (pc' := 35) (pc2 := 40) rfl (by decide) (by decide) (fun (c32 : (0 : Int64) = (0 : Int64)) => ?_) (fun (c32 : ¬ (0 : Int64) = (0 : Int64)) => False.elim (by first | omega | exact absurd c32 (by decide)))
  refine go_ldc2Long C X2 (C.w 71 rfl) (pc' := 43) rfl d12_40 ?_
  refine go_goto C X2 d12_43 (pc' := 52) (by decide) (by decide) ?_
  exact go_retJ C X2 d12_52 ⟨rfl, rfl⟩ (by decide) (by decide)
theorem pd_5 : parseMethodDescriptor "(JC)J" = some ⟨[.long, .char], some .long⟩ := by decide +kernel
theorem d7_227 : decode prog_44_method_13_code 227 = .ok (.invokestatic 89, 3) := by decide +kernel
theorem d7_230 : decode prog_44_method_13_code 230 = .ok (.putfield 18, 3) := by decide +kernel
theorem d7_233 : decode prog_44_method_13_code 233 = .ok (.iconst 1, 1) := by decide +kernel
theorem d7_234 : decode prog_44_method_13_code 234 = .ok (.istore 4, 2) := by decide +kernel
theorem d7_236 : decode prog_44_method_13_code 236 = .ok (.iload 4, 2) := by decide +kernel
theorem d7_238 : decode prog_44_method_13_code 238 = .ok (.ireturn, 1) := by decide +kernel
theorem ef_own_u7_5 (m : MethodId) (a : Addr)  : entryFrame m #[(.ref a), (.int (33 : Int32)), (.int (1 : Int32))] 5 = mkF m 0 #[rv a, iv (33 : Int32), iv (1 : Int32), un, un] [] := by
  first | (simp [entryFrame, mkF, argsToLocals, Value.category]; done) | rfl
set_option maxRecDepth 65536 in
set_option maxHeartbeats 40000000 in
theorem own_u7_5 (l : Launch) (Z : State) (a0 : Array Value) (hw : ∀ d ∈ tables_1, d.before a0 Z = true) (a : Addr)  (h : Heap) (n0 : Nat) (hn0 : Old Z n0 h) (E0 : Exa Z h a "com/example/plantilla/plantilla/UrlValue") (FF0 : Fld Z h a "com/example/plantilla/plantilla/UrlValue" "start" "J" (.long (0 : Int64))) (FF1 : Fld Z h a "com/example/plantilla/plantilla/UrlValue" "begun" "Z" (.int (0 : Int32))) (FF2 : Fld Z h a "com/example/plantilla/plantilla/UrlValue" "schemeLike" "Z" (.int (1 : Int32))) (FF3 : Fld Z h a "com/example/plantilla/plantilla/UrlValue" "delimited" "Z" (.int (0 : Int32))) (FF4 : Fld Z h a "com/example/plantilla/plantilla/UrlValue" "query" "Z" (.int (0 : Int32))) (FF5 : Fld Z h a "com/example/plantilla/plantilla/UrlValue" "reference" "Z" (.int (0 : Int32))) (FF6 : Fld Z h a "com/example/plantilla/plantilla/UrlValue" "holding" "Z" (.int (0 : Int32))) (FF7 : Fld Z h a "com/example/plantilla/plantilla/UrlValue" "referenceOpen" "Z" (.int (0 : Int32))) (ga : n0 ≤ a)  :
    Con l Z (⟨"com/example/plantilla/plantilla/UrlValue", "take", "(CZ)Z"⟩ : MethodName) prog_44_method_13_code 5 (some .boolean) ({ frames := 2, cells := 0, slots := 0, locals := 31 } : Room) #[(.ref a), (.int (33 : Int32)), (.int (1 : Int32))] h n0 (fun v h' => v = some (.int (1 : Int32)) ∧ Keep h h' [a] ∧ Exa Z h' a "com/example/plantilla/plantilla/UrlValue" ∧ Fld Z h' a "com/example/plantilla/plantilla/UrlValue" "start" "J" (.long (-1 : Int64)) ∧ Fld Z h' a "com/example/plantilla/plantilla/UrlValue" "begun" "Z" (.int (1 : Int32)) ∧ Fld Z h' a "com/example/plantilla/plantilla/UrlValue" "schemeLike" "Z" (.int (0 : Int32)) ∧ Fld Z h' a "com/example/plantilla/plantilla/UrlValue" "delimited" "Z" (.int (0 : Int32)) ∧ Fld Z h' a "com/example/plantilla/plantilla/UrlValue" "query" "Z" (.int (0 : Int32)) ∧ Fld Z h' a "com/example/plantilla/plantilla/UrlValue" "reference" "Z" (.int (0 : Int32)) ∧ Fld Z h' a "com/example/plantilla/plantilla/UrlValue" "holding" "Z" (.int (0 : Int32)) ∧ Fld Z h' a "com/example/plantilla/plantilla/UrlValue" "referenceOpen" "Z" (.int (0 : Int32))) := by
  refine con_of hw (plainFor_of_name pn_com_example_plantilla_plantilla_UrlValue) hn0 ?_
  intro p e s m below meth c T0 C X0
  refine Go.cast (congrArg T0.setTop (ef_own_u7_5 m a)) ?_
  refine go_aloadN C X0 1 rfl d7_0 rfl rfl ?_
  refine go_getF C X0 (C.w 36 rfl) Via.refl FF7 (pc' := 4) rfl d7_1 (fun T1 X2 => ?_)
  refine go_if_eq C X2 d7_4 (pc' := 7) (pc2 := 18) rfl (by decide) (by decide) (fun (c4 : (0 : Int32) = (0 : Int32)) => ?_) (fun (c4 : ¬ (0 : Int32) = (0 : Int32)) => False.elim (by first | omega | exact absurd c4 (by decide)))
  refine go_iconst C X2 19 rfl d7_18 (z := 0) rfl ?_
  refine go_istoreN C X2 20 rfl d7_19 #[rv a, iv (33 : Int32), iv (1 : Int32), iv (0 : Int32), un] rfl ?_
  refine go_aloadN C X2 21 rfl d7_20 rfl rfl ?_
  refine go_iloadN C X2 22 rfl d7_21 rfl ?_
  refine go_if_eq C X2 d7_22 (pc' := 25) (pc2 := 62) rfl (by decide) (by decide) (fun (c22 : (1 : Int32) = (0 : Int32)) => False.elim (by first | omega | exact absurd c22 (by decide))) (fun (c22 : ¬ (1 : Int32) = (0 : Int32)) => ?_)
  refine go_iloadN C X2 26 rfl d7_25 rfl ?_
  refine go_bipush C X2 28 rfl d7_26 (z := 38) rfl ?_
  refine go_icmp_eq C X2 d7_28 (pc' := 31) (pc2 := 58) rfl (by decide) (by decide) (fun (c28 : (33 : Int32) = (38 : Int32)) => False.elim (by first | omega | exact absurd c28 (by decide))) (fun (c28 : ¬ (33 : Int32) = (38 : Int32)) => ?_)
  refine go_aloadN C X2 32 rfl d7_31 rfl rfl ?_
  refine go_getF C X2 (C.w 36 rfl) Via.refl FF7 (pc' := 35) rfl d7_32 (fun T3 X4 => ?_)
  refine go_if_eq C X4 d7_35 (pc' := 38) (pc2 := 62) rfl (by decide) (by decide) (fun (c35 : (0 : Int32) = (0 : Int32)) => ?_) (fun (c35 : ¬ (0 : Int32) = (0 : Int32)) => False.elim (by first | omega | exact absurd c35 (by decide)))
  refine go_iconst C X4 63 rfl d7_62 (z := 0) rfl ?_
  refine go_putFN C X4 (C.w 36 rfl) Via.refl FF7 E0 (Or.inl (C.w 37 rfl)) (C.w 9 rfl) ga (ty := .boolean) (by decide) (v' := (.int (0 : Int32))) rfl rfl (pc' := 66) rfl d7_63 (fun T5 h7 W8 X6 => ?_)
  have F9 := FF7.same W8
  have E10 := E0.wr W8
  have F11 := FF0.other W8 (Or.inr (slot_ne (Or.inl (C.w 23 rfl)) (Or.inl (C.w 37 rfl)) (by decide) (t := .long) (t' := .boolean) (by decide) (by decide)))
  have F12 := FF1.other W8 (Or.inr (slot_ne (Or.inl (C.w 25 rfl)) (Or.inl (C.w 37 rfl)) (by decide) (t := .boolean) (t' := .boolean) (by decide) (by decide)))
  have F13 := FF2.other W8 (Or.inr (slot_ne (Or.inl (C.w 27 rfl)) (Or.inl (C.w 37 rfl)) (by decide) (t := .boolean) (t' := .boolean) (by decide) (by decide)))
  have F14 := FF3.other W8 (Or.inr (slot_ne (Or.inl (C.w 29 rfl)) (Or.inl (C.w 37 rfl)) (by decide) (t := .boolean) (t' := .boolean) (by decide) (by decide)))
  have F15 := FF4.other W8 (Or.inr (slot_ne (Or.inl (C.w 31 rfl)) (Or.inl (C.w 37 rfl)) (by decide) (t := .boolean) (t' := .boolean) (by decide) (by decide)))
  have F16 := FF5.other W8 (Or.inr (slot_ne (Or.inl (C.w 33 rfl)) (Or.inl (C.w 37 rfl)) (by decide) (t := .boolean) (t' := .boolean) (by decide) (by decide)))
  have F17 := FF6.other W8 (Or.inr (slot_ne (Or.inl (C.w 35 rfl)) (Or.inl (C.w 37 rfl)) (by decide) (t := .boolean) (t' := .boolean) (by decide) (by decide)))
  have K18 := (Keep.refl h [a]).wr W8 (Or.inl (List.mem_of_getElem? (i := 0) rfl))
  refine go_iloadN C X6 67 rfl d7_66 rfl ?_
  refine go_bipush C X6 69 rfl d7_67 (z := 9) rfl ?_
  refine go_icmp_eq C X6 d7_69 (pc' := 72) (pc2 := 97) rfl (by decide) (by decide) (fun (c69 : (33 : Int32) = (9 : Int32)) => False.elim (by first | omega | exact absurd c69 (by decide))) (fun (c69 : ¬ (33 : Int32) = (9 : Int32)) => ?_)
  refine go_iloadN C X6 73 rfl d7_72 rfl ?_
  refine go_bipush C X6 75 rfl d7_73 (z := 10) rfl ?_
  refine go_icmp_eq C X6 d7_75 (pc' := 78) (pc2 := 97) rfl (by decide) (by decide) (fun (c75 : (33 : Int32) = (10 : Int32)) => False.elim (by first | omega | exact absurd c75 (by decide))) (fun (c75 : ¬ (33 : Int32) = (10 : Int32)) => ?_)
  refine go_iloadN C X6 79 rfl d7_78 rfl ?_
  refine go_bipush C X6 81 rfl d7_79 (z := 13) rfl ?_
  refine go_icmp_eq C X6 d7_81 (pc' := 84) (pc2 := 97) rfl (by decide) (by decide) (fun (c81 : (33 : Int32) = (13 : Int32)) => False.elim (by first | omega | exact absurd c81 (by decide))) (fun (c81 : ¬ (33 : Int32) = (13 : Int32)) => ?_)
  refine go_aloadN C X6 85 rfl d7_84 rfl rfl ?_
  refine go_getF C X6 (C.w 24 rfl) Via.refl F12 (pc' := 88) rfl d7_85 (fun T19 X20 => ?_)
  refine go_if_ne C X20 d7_88 (pc' := 91) (pc2 := 99) rfl (by decide) (by decide) (fun (c88 : ¬ (0 : Int32) = (0 : Int32)) => False.elim (by first | omega | exact absurd c88 (by decide))) (fun (c88 : (0 : Int32) = (0 : Int32)) => ?_)
  refine go_iloadN C X20 92 rfl d7_91 rfl ?_
  refine go_bipush C X20 94 rfl d7_92 (z := 32) rfl ?_
  refine go_icmp_gt C X20 d7_94 (pc' := 97) (pc2 := 99) rfl (by decide) (by decide) (fun (c94 : 32 < 33) => ?_) (fun (c94 : 33 ≤ 32) => False.elim (by first | omega | exact absurd c94 (by decide)))
  refine go_aloadN C X20 100 rfl d7_99 rfl rfl ?_
  refine go_iconst C X20 101 rfl d7_100 (z := 1) rfl ?_
  refine go_putFN C X20 (C.w 24 rfl) Via.refl F12 E10 (Or.inl (C.w 25 rfl)) (C.w 9 rfl) ga (ty := .boolean) (by decide) (v' := (.int (1 : Int32))) rfl rfl (pc' := 104) rfl d7_101 (fun T21 h23 W24 X22 => ?_)
  have F25 := F12.same W24
  have E26 := E10.wr W24
  have F27 := F11.other W24 (Or.inr (slot_ne (Or.inl (C.w 23 rfl)) (Or.inl (C.w 25 rfl)) (by decide) (t := .long) (t' := .boolean) (by decide) (by decide)))
  have F28 := F13.other W24 (Or.inr (slot_ne (Or.inl (C.w 27 rfl)) (Or.inl (C.w 25 rfl)) (by decide) (t := .boolean) (t' := .boolean) (by decide) (by decide)))
  have F29 := F14.other W24 (Or.inr (slot_ne (Or.inl (C.w 29 rfl)) (Or.inl (C.w 25 rfl)) (by decide) (t := .boolean) (t' := .boolean) (by decide) (by decide)))
  have F30 := F15.other W24 (Or.inr (slot_ne (Or.inl (C.w 31 rfl)) (Or.inl (C.w 25 rfl)) (by decide) (t := .boolean) (t' := .boolean) (by decide) (by decide)))
  have F31 := F16.other W24 (Or.inr (slot_ne (Or.inl (C.w 33 rfl)) (Or.inl (C.w 25 rfl)) (by decide) (t := .boolean) (t' := .boolean) (by decide) (by decide)))
  have F32 := F17.other W24 (Or.inr (slot_ne (Or.inl (C.w 35 rfl)) (Or.inl (C.w 25 rfl)) (by decide) (t := .boolean) (t' := .boolean) (by decide) (by decide)))
  have F33 := F9.other W24 (Or.inr (slot_ne (Or.inl (C.w 37 rfl)) (Or.inl (C.w 25 rfl)) (by decide) (t := .boolean) (t' := .boolean) (by decide) (by decide)))
  have K34 := K18.wr W24 (Or.inl (List.mem_of_getElem? (i := 0) rfl))
  refine go_iconst C X22 105 rfl d7_104 (z := 0) rfl ?_
  refine go_istore C X22 107 rfl d7_105 #[rv a, iv (33 : Int32), iv (1 : Int32), iv (0 : Int32), iv (0 : Int32)] rfl ?_
  refine go_iloadN C X22 108 rfl d7_107 rfl ?_
  refine go_bipush C X22 110 rfl d7_108 (z := 63) rfl ?_
  refine go_icmp_eq C X22 d7_110 (pc' := 113) (pc2 := 123) rfl (by decide) (by decide) (fun (c110 : (33 : Int32) = (63 : Int32)) => False.elim (by first | omega | exact absurd c110 (by decide))) (fun (c110 : ¬ (33 : Int32) = (63 : Int32)) => ?_)
  refine go_iloadN C X22 114 rfl d7_113 rfl ?_
  refine go_bipush C X22 116 rfl d7_114 (z := 35) rfl ?_
  refine go_icmp_ne C X22 d7_116 (pc' := 119) (pc2 := 141) rfl (by decide) (by decide) (fun (c116 : ¬ (33 : Int32) = (35 : Int32)) => ?_) (fun (c116 : (33 : Int32) = (35 : Int32)) => False.elim (by first | omega | exact absurd c116 (by decide)))
  refine go_iloadN C X22 142 rfl d7_141 rfl ?_
  refine go_bipush C X22 144 rfl d7_142 (z := 58) rfl ?_
  refine go_icmp_eq C X22 d7_144 (pc' := 147) (pc2 := 153) rfl (by decide) (by decide) (fun (c144 : (33 : Int32) = (58 : Int32)) => False.elim (by first | omega | exact absurd c144 (by decide))) (fun (c144 : ¬ (33 : Int32) = (58 : Int32)) => ?_)
  refine go_iloadN C X22 148 rfl d7_147 rfl ?_
  refine go_bipush C X22 150 rfl d7_148 (z := 47) rfl ?_
  refine go_icmp_ne C X22 d7_150 (pc' := 153) (pc2 := 161) rfl (by decide) (by decide) (fun (c150 : ¬ (33 : Int32) = (47 : Int32)) => ?_) (fun (c150 : (33 : Int32) = (47 : Int32)) => False.elim (by first | omega | exact absurd c150 (by decide)))
  refine go_aloadN C X22 162 rfl d7_161 rfl rfl ?_
  refine go_getF C X22 (C.w 28 rfl) Via.refl F29 (pc' := 165) rfl d7_162 (fun T35 X36 => ?_)
  refine go_if_ne C X36 d7_165 (pc' := 168) (pc2 := 236) rfl (by decide) (by decide) (fun (c165 : ¬ (0 : Int32) = (0 : Int32)) => False.elim (by first | omega | exact absurd c165 (by decide))) (fun (c165 : (0 : Int32) = (0 : Int32)) => ?_)
  refine go_aloadN C X36 169 rfl d7_168 rfl rfl ?_
  refine go_dup C X36 170 rfl d7_169 rfl ?_
  refine go_getF C X36 (C.w 32 rfl) Via.refl F31 (pc' := 173) rfl d7_170 (fun T37 X38 => ?_)
  refine go_iloadN C X38 174 rfl d7_173 rfl ?_
  refine go_if_eq C X38 d7_174 (pc' := 177) (pc2 := 187) rfl (by decide) (by decide) (fun (c174 : (1 : Int32) = (0 : Int32)) => False.elim (by first | omega | exact absurd c174 (by decide))) (fun (c174 : ¬ (1 : Int32) = (0 : Int32)) => ?_)
  refine go_iloadN C X38 178 rfl d7_177 rfl ?_
  refine go_bipush C X38 180 rfl d7_178 (z := 38) rfl ?_
  refine go_icmp_ne C X38 d7_180 (pc' := 183) (pc2 := 187) rfl (by decide) (by decide) (fun (c180 : ¬ (33 : Int32) = (38 : Int32)) => ?_) (fun (c180 : (33 : Int32) = (38 : Int32)) => False.elim (by first | omega | exact absurd c180 (by decide)))
  refine go_iconst C X38 188 rfl d7_187 (z := 0) rfl ?_
  refine go_iorL C X38 189 rfl d7_188 (z := (0)) rfl ?_
  refine go_putFN C X38 (C.w 32 rfl) Via.refl F31 E26 (Or.inl (C.w 33 rfl)) (C.w 9 rfl) ga (ty := .boolean) (by decide) (v' := (.int (0 : Int32))) rfl rfl (pc' := 192) rfl d7_189 (fun T39 h41 W42 X40 => ?_)
  have F43 := F31.same W42
  have E44 := E26.wr W42
  have F45 := F27.other W42 (Or.inr (slot_ne (Or.inl (C.w 23 rfl)) (Or.inl (C.w 33 rfl)) (by decide) (t := .long) (t' := .boolean) (by decide) (by decide)))
  have F46 := F25.other W42 (Or.inr (slot_ne (Or.inl (C.w 25 rfl)) (Or.inl (C.w 33 rfl)) (by decide) (t := .boolean) (t' := .boolean) (by decide) (by decide)))
  have F47 := F28.other W42 (Or.inr (slot_ne (Or.inl (C.w 27 rfl)) (Or.inl (C.w 33 rfl)) (by decide) (t := .boolean) (t' := .boolean) (by decide) (by decide)))
  have F48 := F29.other W42 (Or.inr (slot_ne (Or.inl (C.w 29 rfl)) (Or.inl (C.w 33 rfl)) (by decide) (t := .boolean) (t' := .boolean) (by decide) (by decide)))
  have F49 := F30.other W42 (Or.inr (slot_ne (Or.inl (C.w 31 rfl)) (Or.inl (C.w 33 rfl)) (by decide) (t := .boolean) (t' := .boolean) (by decide) (by decide)))
  have F50 := F32.other W42 (Or.inr (slot_ne (Or.inl (C.w 35 rfl)) (Or.inl (C.w 33 rfl)) (by decide) (t := .boolean) (t' := .boolean) (by decide) (by decide)))
  have F51 := F33.other W42 (Or.inr (slot_ne (Or.inl (C.w 37 rfl)) (Or.inl (C.w 33 rfl)) (by decide) (t := .boolean) (t' := .boolean) (by decide) (by decide)))
  have K52 := K34.wr W42 (Or.inl (List.mem_of_getElem? (i := 0) rfl))
  refine go_aloadN C X40 193 rfl d7_192 rfl rfl ?_
  refine go_dup C X40 194 rfl d7_193 rfl ?_
  refine go_getF C X40 (C.w 26 rfl) Via.refl F47 (pc' := 197) rfl d7_194 (fun T53 X54 => ?_)
  refine go_aloadN C X54 198 rfl d7_197 rfl rfl ?_
  refine go_getF C X54 (C.w 22 rfl) Via.refl F45 (pc' := 201) rfl d7_198 (fun T55 X56 => ?_)
  refine go_lconst C X56 202 rfl d7_201 (z := 0) rfl ?_
  refine go_lif_ne C X56 (pc1 := 203) rfl d7_202 d7_203 (pc' := 206) (pc2 := 213) rfl (by decide) (by decide) (fun (c203 : ¬ (0 : Int64) = (0 : Int64)) => False.elim (by first | omega | exact absurd c203 (by decide))) (fun (c203 : (0 : Int64) = (0 : Int64)) => ?_)
  refine go_iloadN C X56 207 rfl d7_206 rfl ?_
  refine go_callS C X56 (C.w 60 rfl) (C.w 61 rfl) (C.w 10 rfl) (C.w 62 rfl) (own_p11_6 l Z a0 C.ws  h41 n0 X56.old ) (argsL := [(.int (33 : Int32))]) (rest := [(.int (1 : Int32)), (.ref a)]) (lenOf pd_0 rfl) rfl (by decide) (by decide) (Nat.le_of_ble_eq_true rfl) (by decide) (by decide) rfl rfl (pc' := 210) rfl d7_207 ?_
  rintro T57 _ _ ⟨rfl, rfl⟩ X58
  show Go p e below _ (T57.setTop (mkF m 210 #[rv a, iv (33 : Int32), iv (1 : Int32), iv (0 : Int32), iv (0 : Int32)] [(.int (0 : Int32)), (.int (1 : Int32)), (.ref a)]))
  refine go_goto C X58 d7_210 (pc' := 217) (by decide) (by decide) ?_
  refine go_iandL C X58 218 rfl d7_217 (z := (0)) rfl ?_
  refine go_putFN C X58 (C.w 26 rfl) Via.refl F47 E44 (Or.inl (C.w 27 rfl)) (C.w 9 rfl) ga (ty := .boolean) (by decide) (v' := (.int (0 : Int32))) rfl rfl (pc' := 221) rfl d7_218 (fun T60 h62 W63 X61 => ?_)
  have F64 := F47.same W63
  have E65 := E44.wr W63
  have F66 := F45.other W63 (Or.inr (slot_ne (Or.inl (C.w 23 rfl)) (Or.inl (C.w 27 rfl)) (by decide) (t := .long) (t' := .boolean) (by decide) (by decide)))
  have F67 := F46.other W63 (Or.inr (slot_ne (Or.inl (C.w 25 rfl)) (Or.inl (C.w 27 rfl)) (by decide) (t := .boolean) (t' := .boolean) (by decide) (by decide)))
  have F68 := F48.other W63 (Or.inr (slot_ne (Or.inl (C.w 29 rfl)) (Or.inl (C.w 27 rfl)) (by decide) (t := .boolean) (t' := .boolean) (by decide) (by decide)))
  have F69 := F49.other W63 (Or.inr (slot_ne (Or.inl (C.w 31 rfl)) (Or.inl (C.w 27 rfl)) (by decide) (t := .boolean) (t' := .boolean) (by decide) (by decide)))
  have F70 := F43.other W63 (Or.inr (slot_ne (Or.inl (C.w 33 rfl)) (Or.inl (C.w 27 rfl)) (by decide) (t := .boolean) (t' := .boolean) (by decide) (by decide)))
  have F71 := F50.other W63 (Or.inr (slot_ne (Or.inl (C.w 35 rfl)) (Or.inl (C.w 27 rfl)) (by decide) (t := .boolean) (t' := .boolean) (by decide) (by decide)))
  have F72 := F51.other W63 (Or.inr (slot_ne (Or.inl (C.w 37 rfl)) (Or.inl (C.w 27 rfl)) (by decide) (t := .boolean) (t' := .boolean) (by decide) (by decide)))
  have K73 := K52.wr W63 (Or.inl (List.mem_of_getElem? (i := 0) rfl))
  refine go_aloadN C X61 222 rfl d7_221 rfl rfl ?_
  refine go_aloadN C X61 223 rfl d7_222 rfl rfl ?_
  refine go_getF C X61 (C.w 22 rfl) Via.refl F66 (pc' := 226) rfl d7_223 (fun T74 X75 => ?_)
  refine go_iloadN C X75 227 rfl d7_226 rfl ?_
  refine go_callS C X75 (C.w 63 rfl) (C.w 64 rfl) (C.w 65 rfl) (C.w 66 rfl) (own_p12_7 l Z a0 C.ws  h62 n0 X75.old ) (argsL := [(.long (0 : Int64)), (.int (33 : Int32))]) (rest := [(.ref a)]) (lenOf pd_5 rfl) rfl (by decide) (by decide) (Nat.le_of_ble_eq_true rfl) (by decide) (by decide) rfl rfl (pc' := 230) rfl d7_227 ?_
  rintro T76 _ _ ⟨rfl, rfl⟩ X77
  show Go p e below _ (T76.setTop (mkF m 230 #[rv a, iv (33 : Int32), iv (1 : Int32), iv (0 : Int32), iv (0 : Int32)] [(.long (-1 : Int64)), (.ref a)]))
  refine go_putF C X77 (C.w 22 rfl) Via.refl F66 E65 (Or.inl (C.w 23 rfl)) (C.w 9 rfl) ga (ty := .long) (by decide) rfl rfl (pc' := 233) rfl d7_230 (fun T79 h81 W82 X80 => ?_)
  have F83 := F66.same W82
  have E84 := E65.wr W82
  have F85 := F67.other W82 (Or.inr (slot_ne (Or.inl (C.w 25 rfl)) (Or.inl (C.w 23 rfl)) (by decide) (t := .boolean) (t' := .long) (by decide) (by decide)))
  have F86 := F64.other W82 (Or.inr (slot_ne (Or.inl (C.w 27 rfl)) (Or.inl (C.w 23 rfl)) (by decide) (t := .boolean) (t' := .long) (by decide) (by decide)))
  have F87 := F68.other W82 (Or.inr (slot_ne (Or.inl (C.w 29 rfl)) (Or.inl (C.w 23 rfl)) (by decide) (t := .boolean) (t' := .long) (by decide) (by decide)))
  have F88 := F69.other W82 (Or.inr (slot_ne (Or.inl (C.w 31 rfl)) (Or.inl (C.w 23 rfl)) (by decide) (t := .boolean) (t' := .long) (by decide) (by decide)))
  have F89 := F70.other W82 (Or.inr (slot_ne (Or.inl (C.w 33 rfl)) (Or.inl (C.w 23 rfl)) (by decide) (t := .boolean) (t' := .long) (by decide) (by decide)))
  have F90 := F71.other W82 (Or.inr (slot_ne (Or.inl (C.w 35 rfl)) (Or.inl (C.w 23 rfl)) (by decide) (t := .boolean) (t' := .long) (by decide) (by decide)))
  have F91 := F72.other W82 (Or.inr (slot_ne (Or.inl (C.w 37 rfl)) (Or.inl (C.w 23 rfl)) (by decide) (t := .boolean) (t' := .long) (by decide) (by decide)))
  have K92 := K73.wr W82 (Or.inl (List.mem_of_getElem? (i := 0) rfl))
  refine go_iconst C X80 234 rfl d7_233 (z := 1) rfl ?_
  refine go_istore C X80 236 rfl d7_234 #[rv a, iv (33 : Int32), iv (1 : Int32), iv (0 : Int32), iv (1 : Int32)] rfl ?_
  refine go_iload C X80 238 rfl d7_236 rfl ?_
  exact go_retN C X80 (by simp) (z' := 1) rfl d7_238 ⟨rfl, K92, E84, F83, F85, F86, F87, F88, F89, F90, F91⟩ (by decide) (by decide)
theorem pd_6 : parseMethodDescriptor "(CZ)Z" = some ⟨[.char, .boolean], some .boolean⟩ := by decide +kernel
theorem d6_43 : decode prog_44_method_8_code 43 = .ok (.invokevirtual 51, 3) := by decide +kernel
theorem d6_46 : decode prog_44_method_8_code 46 = .ok (.pop, 1) := by decide +kernel
theorem d6_47 : decode prog_44_method_8_code 47 = .ok (.aload_n 0, 1) := by decide +kernel
theorem d6_48 : decode prog_44_method_8_code 48 = .ok (.dup, 1) := by decide +kernel
theorem d6_49 : decode prog_44_method_8_code 49 = .ok (.getfield 38, 3) := by decide +kernel
theorem d6_52 : decode prog_44_method_8_code 52 = .ok (.aload_n 0, 1) := by decide +kernel
theorem d6_53 : decode prog_44_method_8_code 53 = .ok (.getfield 29, 3) := by decide +kernel
theorem d6_56 : decode prog_44_method_8_code 56 = .ok (.ifCond .ne 21, 3) := by decide +kernel
theorem d6_59 : decode prog_44_method_8_code 59 = .ok (.aload_n 0, 1) := by decide +kernel
theorem d6_60 : decode prog_44_method_8_code 60 = .ok (.getfield 26, 3) := by decide +kernel
theorem d6_63 : decode prog_44_method_8_code 63 = .ok (.ifCond .ne 10, 3) := by decide +kernel
theorem d6_66 : decode prog_44_method_8_code 66 = .ok (.aload_n 0, 1) := by decide +kernel
theorem d6_67 : decode prog_44_method_8_code 67 = .ok (.getfield 35, 3) := by decide +kernel
theorem d6_70 : decode prog_44_method_8_code 70 = .ok (.ifCond .eq 7, 3) := by decide +kernel
theorem d6_77 : decode prog_44_method_8_code 77 = .ok (.iconst 0, 1) := by decide +kernel
theorem d6_78 : decode prog_44_method_8_code 78 = .ok (.iand, 1) := by decide +kernel
theorem d6_79 : decode prog_44_method_8_code 79 = .ok (.putfield 38, 3) := by decide +kernel
theorem d6_82 : decode prog_44_method_8_code 82 = .ok (.iload_n 2, 1) := by decide +kernel
theorem d6_83 : decode prog_44_method_8_code 83 = .ok (.ireturn, 1) := by decide +kernel
theorem ef_own_u6_4 (m : MethodId) (a : Addr)  : entryFrame m #[(.ref a), (.int (33 : Int32))] 3 = mkF m 0 #[rv a, iv (33 : Int32), un] [] := by
  first | (simp [entryFrame, mkF, argsToLocals, Value.category]; done) | rfl
set_option maxRecDepth 65536 in
set_option maxHeartbeats 40000000 in
theorem own_u6_4 (l : Launch) (Z : State) (a0 : Array Value) (hw : ∀ d ∈ tables_1, d.before a0 Z = true) (a : Addr)  (h : Heap) (n0 : Nat) (hn0 : Old Z n0 h) (E0 : Exa Z h a "com/example/plantilla/plantilla/UrlValue") (FF0 : Fld Z h a "com/example/plantilla/plantilla/UrlValue" "start" "J" (.long (0 : Int64))) (FF1 : Fld Z h a "com/example/plantilla/plantilla/UrlValue" "begun" "Z" (.int (0 : Int32))) (FF2 : Fld Z h a "com/example/plantilla/plantilla/UrlValue" "schemeLike" "Z" (.int (1 : Int32))) (FF3 : Fld Z h a "com/example/plantilla/plantilla/UrlValue" "delimited" "Z" (.int (0 : Int32))) (FF4 : Fld Z h a "com/example/plantilla/plantilla/UrlValue" "query" "Z" (.int (0 : Int32))) (FF5 : Fld Z h a "com/example/plantilla/plantilla/UrlValue" "reference" "Z" (.int (0 : Int32))) (FF6 : Fld Z h a "com/example/plantilla/plantilla/UrlValue" "holding" "Z" (.int (0 : Int32))) (FF7 : Fld Z h a "com/example/plantilla/plantilla/UrlValue" "referenceOpen" "Z" (.int (0 : Int32))) (ga : n0 ≤ a)  :
    Con l Z (⟨"com/example/plantilla/plantilla/UrlValue", "read", "(C)Z"⟩ : MethodName) prog_44_method_8_code 3 (some .boolean) ({ frames := 3, cells := 0, slots := 0, locals := 47 } : Room) #[(.ref a), (.int (33 : Int32))] h n0 (fun v h' => v = some (.int (0 : Int32)) ∧ Keep h h' [a] ∧ Exa Z h' a "com/example/plantilla/plantilla/UrlValue" ∧ Fld Z h' a "com/example/plantilla/plantilla/UrlValue" "start" "J" (.long (-1 : Int64)) ∧ Fld Z h' a "com/example/plantilla/plantilla/UrlValue" "begun" "Z" (.int (1 : Int32)) ∧ Fld Z h' a "com/example/plantilla/plantilla/UrlValue" "schemeLike" "Z" (.int (0 : Int32)) ∧ Fld Z h' a "com/example/plantilla/plantilla/UrlValue" "delimited" "Z" (.int (0 : Int32)) ∧ Fld Z h' a "com/example/plantilla/plantilla/UrlValue" "query" "Z" (.int (0 : Int32)) ∧ Fld Z h' a "com/example/plantilla/plantilla/UrlValue" "reference" "Z" (.int (0 : Int32)) ∧ Fld Z h' a "com/example/plantilla/plantilla/UrlValue" "holding" "Z" (.int (0 : Int32)) ∧ Fld Z h' a "com/example/plantilla/plantilla/UrlValue" "referenceOpen" "Z" (.int (0 : Int32))) := by
  refine con_of hw (plainFor_of_name pn_com_example_plantilla_plantilla_UrlValue) hn0 ?_
  intro p e s m below meth c T0 C X0
  refine Go.cast (congrArg T0.setTop (ef_own_u6_4 m a)) ?_
  refine go_aloadN C X0 1 rfl d6_0 rfl rfl ?_
  refine go_getF C X0 (C.w 34 rfl) Via.refl FF6 (pc' := 4) rfl d6_1 (fun T1 X2 => ?_)
  refine go_if_eq C X2 d6_4 (pc' := 7) (pc2 := 30) rfl (by decide) (by decide) (fun (c4 : (0 : Int32) = (0 : Int32)) => ?_) (fun (c4 : ¬ (0 : Int32) = (0 : Int32)) => False.elim (by first | omega | exact absurd c4 (by decide)))
  refine go_iconst C X2 31 rfl d6_30 (z := 0) rfl ?_
  refine go_istoreN C X2 32 rfl d6_31 #[rv a, iv (33 : Int32), iv (0 : Int32)] rfl ?_
  refine go_iloadN C X2 33 rfl d6_32 rfl ?_
  refine go_if_eq C X2 d6_33 (pc' := 36) (pc2 := 40) rfl (by decide) (by decide) (fun (c33 : (0 : Int32) = (0 : Int32)) => ?_) (fun (c33 : ¬ (0 : Int32) = (0 : Int32)) => False.elim (by first | omega | exact absurd c33 (by decide)))
  refine go_aloadN C X2 41 rfl d6_40 rfl rfl ?_
  refine go_iloadN C X2 42 rfl d6_41 rfl ?_
  refine go_iconst C X2 43 rfl d6_42 (z := 1) rfl ?_
  refine go_private C X2 E0 (C.w 43 rfl) (C.w 44 rfl) (Jvm.Kit.selects_private (by decide) (C.w 9 rfl) (C.w 45 rfl) (C.w 44 rfl)) (C.w 45 rfl) (C.w 10 rfl) (C.w 46 rfl) (own_u7_5 l Z a0 C.ws a h n0 X2.old E0 FF0 FF1 FF2 FF3 FF4 FF5 FF6 FF7 ga ) (argsL := [(.int (33 : Int32)), (.int (1 : Int32))]) (rest := []) (lenOf pd_6 rfl) rfl (by decide) (by decide) (Nat.le_of_ble_eq_true rfl) (by decide) (by decide) rfl rfl (pc' := 46) rfl d6_43 ?_
  rintro T3 h5 _ ⟨rfl, Kq6, Eq6, Fq60, Fq61, Fq62, Fq63, Fq64, Fq65, Fq66, Fq67⟩ X4
  show Go p e below _ (T3.setTop (mkF m 46 #[rv a, iv (33 : Int32), iv (0 : Int32)] [(.int (1 : Int32))]))
  have E7 := E0.keep Kq6
  have K8 := (Keep.refl h [a]).trans Kq6 (allS (Or.inl (List.mem_of_getElem? (i := 0) rfl)) all0)
  refine go_pop C X4 47 rfl d6_46 rfl ?_
  refine go_aloadN C X4 48 rfl d6_47 rfl rfl ?_
  refine go_dup C X4 49 rfl d6_48 rfl ?_
  refine go_getF C X4 (C.w 34 rfl) Via.refl Fq66 (pc' := 52) rfl d6_49 (fun T9 X10 => ?_)
  refine go_aloadN C X10 53 rfl d6_52 rfl rfl ?_
  refine go_getF C X10 (C.w 28 rfl) Via.refl Fq63 (pc' := 56) rfl d6_53 (fun T11 X12 => ?_)
  refine go_if_ne C X12 d6_56 (pc' := 59) (pc2 := 77) rfl (by decide) (by decide) (fun (c56 : ¬ (0 : Int32) = (0 : Int32)) => False.elim (by first | omega | exact absurd c56 (by decide))) (fun (c56 : (0 : Int32) = (0 : Int32)) => ?_)
  refine go_aloadN C X12 60 rfl d6_59 rfl rfl ?_
  refine go_getF C X12 (C.w 26 rfl) Via.refl Fq62 (pc' := 63) rfl d6_60 (fun T13 X14 => ?_)
  refine go_if_ne C X14 d6_63 (pc' := 66) (pc2 := 73) rfl (by decide) (by decide) (fun (c63 : ¬ (0 : Int32) = (0 : Int32)) => False.elim (by first | omega | exact absurd c63 (by decide))) (fun (c63 : (0 : Int32) = (0 : Int32)) => ?_)
  refine go_aloadN C X14 67 rfl d6_66 rfl rfl ?_
  refine go_getF C X14 (C.w 32 rfl) Via.refl Fq65 (pc' := 70) rfl d6_67 (fun T15 X16 => ?_)
  refine go_if_eq C X16 d6_70 (pc' := 73) (pc2 := 77) rfl (by decide) (by decide) (fun (c70 : (0 : Int32) = (0 : Int32)) => ?_) (fun (c70 : ¬ (0 : Int32) = (0 : Int32)) => False.elim (by first | omega | exact absurd c70 (by decide)))
  refine go_iconst C X16 78 rfl d6_77 (z := 0) rfl ?_
  refine go_iandL C X16 79 rfl d6_78 (z := (0)) rfl ?_
  refine go_putFN C X16 (C.w 34 rfl) Via.refl Fq66 Eq6 (Or.inl (C.w 35 rfl)) (C.w 9 rfl) ga (ty := .boolean) (by decide) (v' := (.int (0 : Int32))) rfl rfl (pc' := 82) rfl d6_79 (fun T17 h19 W20 X18 => ?_)
  have F21 := Fq66.same W20
  have E22 := Eq6.wr W20
  have F23 := Fq60.other W20 (Or.inr (slot_ne (Or.inl (C.w 23 rfl)) (Or.inl (C.w 35 rfl)) (by decide) (t := .long) (t' := .boolean) (by decide) (by decide)))
  have F24 := Fq61.other W20 (Or.inr (slot_ne (Or.inl (C.w 25 rfl)) (Or.inl (C.w 35 rfl)) (by decide) (t := .boolean) (t' := .boolean) (by decide) (by decide)))
  have F25 := Fq62.other W20 (Or.inr (slot_ne (Or.inl (C.w 27 rfl)) (Or.inl (C.w 35 rfl)) (by decide) (t := .boolean) (t' := .boolean) (by decide) (by decide)))
  have F26 := Fq63.other W20 (Or.inr (slot_ne (Or.inl (C.w 29 rfl)) (Or.inl (C.w 35 rfl)) (by decide) (t := .boolean) (t' := .boolean) (by decide) (by decide)))
  have F27 := Fq64.other W20 (Or.inr (slot_ne (Or.inl (C.w 31 rfl)) (Or.inl (C.w 35 rfl)) (by decide) (t := .boolean) (t' := .boolean) (by decide) (by decide)))
  have F28 := Fq65.other W20 (Or.inr (slot_ne (Or.inl (C.w 33 rfl)) (Or.inl (C.w 35 rfl)) (by decide) (t := .boolean) (t' := .boolean) (by decide) (by decide)))
  have F29 := Fq67.other W20 (Or.inr (slot_ne (Or.inl (C.w 37 rfl)) (Or.inl (C.w 35 rfl)) (by decide) (t := .boolean) (t' := .boolean) (by decide) (by decide)))
  have K30 := K8.wr W20 (Or.inl (List.mem_of_getElem? (i := 0) rfl))
  refine go_iloadN C X18 83 rfl d6_82 rfl ?_
  exact go_retN C X18 (by simp) (z' := 0) rfl d6_83 ⟨rfl, K30, E22, F23, F24, F25, F26, F27, F28, F21, F29⟩ (by decide) (by decide)
theorem d2_165 : decode method_4_code 165 = .ok (.invokevirtual 32, 3) := by decide +kernel
theorem d2_168 : decode method_4_code 168 = .ok (.pop, 1) := by decide +kernel
theorem d2_169 : decode method_4_code 169 = .ok (.aload_n 2, 1) := by decide +kernel
theorem d10_0 : decode prog_44_method_10_code 0 = .ok (.aload_n 0, 1) := by decide +kernel
theorem d10_1 : decode prog_44_method_10_code 1 = .ok (.iconst 0, 1) := by decide +kernel
theorem d10_2 : decode prog_44_method_10_code 2 = .ok (.putfield 38, 3) := by decide +kernel
theorem d10_5 : decode prog_44_method_10_code 5 = .ok (.aload_n 0, 1) := by decide +kernel
theorem d10_6 : decode prog_44_method_10_code 6 = .ok (.iconst 1, 1) := by decide +kernel
theorem d10_7 : decode prog_44_method_10_code 7 = .ok (.putfield 29, 3) := by decide +kernel
theorem d10_10 : decode prog_44_method_10_code 10 = .ok (.return_, 1) := by decide +kernel
theorem ef_own_u10_9 (m : MethodId) (a : Addr)  : entryFrame m #[(.ref a)] 1 = mkF m 0 #[rv a] [] := by
  first | (simp [entryFrame, mkF, argsToLocals, Value.category]; done) | rfl
set_option maxRecDepth 65536 in
set_option maxHeartbeats 40000000 in
theorem own_u10_9 (l : Launch) (Z : State) (a0 : Array Value) (hw : ∀ d ∈ tables_1, d.before a0 Z = true) (a : Addr)  (h : Heap) (n0 : Nat) (hn0 : Old Z n0 h) (E0 : Exa Z h a "com/example/plantilla/plantilla/UrlValue") (FF0 : Fld Z h a "com/example/plantilla/plantilla/UrlValue" "start" "J" (.long (-1 : Int64))) (FF1 : Fld Z h a "com/example/plantilla/plantilla/UrlValue" "begun" "Z" (.int (1 : Int32))) (FF2 : Fld Z h a "com/example/plantilla/plantilla/UrlValue" "schemeLike" "Z" (.int (0 : Int32))) (FF3 : Fld Z h a "com/example/plantilla/plantilla/UrlValue" "delimited" "Z" (.int (0 : Int32))) (FF4 : Fld Z h a "com/example/plantilla/plantilla/UrlValue" "query" "Z" (.int (0 : Int32))) (FF5 : Fld Z h a "com/example/plantilla/plantilla/UrlValue" "reference" "Z" (.int (0 : Int32))) (FF6 : Fld Z h a "com/example/plantilla/plantilla/UrlValue" "holding" "Z" (.int (0 : Int32))) (FF7 : Fld Z h a "com/example/plantilla/plantilla/UrlValue" "referenceOpen" "Z" (.int (0 : Int32))) (ga : n0 ≤ a)  :
    Con l Z (⟨"com/example/plantilla/plantilla/UrlValue", "voidHeldValue", "()V"⟩ : MethodName) prog_44_method_10_code 1 none ({ frames := 0, cells := 0, slots := 0, locals := 0 } : Room) #[(.ref a)] h n0 (fun v h' => v = none ∧ Keep h h' [a] ∧ Exa Z h' a "com/example/plantilla/plantilla/UrlValue" ∧ Fld Z h' a "com/example/plantilla/plantilla/UrlValue" "start" "J" (.long (-1 : Int64)) ∧ Fld Z h' a "com/example/plantilla/plantilla/UrlValue" "begun" "Z" (.int (1 : Int32)) ∧ Fld Z h' a "com/example/plantilla/plantilla/UrlValue" "schemeLike" "Z" (.int (0 : Int32)) ∧ Fld Z h' a "com/example/plantilla/plantilla/UrlValue" "delimited" "Z" (.int (1 : Int32)) ∧ Fld Z h' a "com/example/plantilla/plantilla/UrlValue" "query" "Z" (.int (0 : Int32)) ∧ Fld Z h' a "com/example/plantilla/plantilla/UrlValue" "reference" "Z" (.int (0 : Int32)) ∧ Fld Z h' a "com/example/plantilla/plantilla/UrlValue" "holding" "Z" (.int (0 : Int32)) ∧ Fld Z h' a "com/example/plantilla/plantilla/UrlValue" "referenceOpen" "Z" (.int (0 : Int32))) := by
  refine con_of hw (plainFor_of_name pn_com_example_plantilla_plantilla_UrlValue) hn0 ?_
  intro p e s m below meth c T0 C X0
  refine Go.cast (congrArg T0.setTop (ef_own_u10_9 m a)) ?_
  refine go_aloadN C X0 1 rfl d10_0 rfl rfl ?_
  refine go_iconst C X0 2 rfl d10_1 (z := 0) rfl ?_
  refine go_putFN C X0 (C.w 34 rfl) Via.refl FF6 E0 (Or.inl (C.w 35 rfl)) (C.w 9 rfl) ga (ty := .boolean) (by decide) (v' := (.int (0 : Int32))) rfl rfl (pc' := 5) rfl d10_2 (fun T1 h3 W4 X2 => ?_)
  have F5 := FF6.same W4
  have E6 := E0.wr W4
  have F7 := FF0.other W4 (Or.inr (slot_ne (Or.inl (C.w 23 rfl)) (Or.inl (C.w 35 rfl)) (by decide) (t := .long) (t' := .boolean) (by decide) (by decide)))
  have F8 := FF1.other W4 (Or.inr (slot_ne (Or.inl (C.w 25 rfl)) (Or.inl (C.w 35 rfl)) (by decide) (t := .boolean) (t' := .boolean) (by decide) (by decide)))
  have F9 := FF2.other W4 (Or.inr (slot_ne (Or.inl (C.w 27 rfl)) (Or.inl (C.w 35 rfl)) (by decide) (t := .boolean) (t' := .boolean) (by decide) (by decide)))
  have F10 := FF3.other W4 (Or.inr (slot_ne (Or.inl (C.w 29 rfl)) (Or.inl (C.w 35 rfl)) (by decide) (t := .boolean) (t' := .boolean) (by decide) (by decide)))
  have F11 := FF4.other W4 (Or.inr (slot_ne (Or.inl (C.w 31 rfl)) (Or.inl (C.w 35 rfl)) (by decide) (t := .boolean) (t' := .boolean) (by decide) (by decide)))
  have F12 := FF5.other W4 (Or.inr (slot_ne (Or.inl (C.w 33 rfl)) (Or.inl (C.w 35 rfl)) (by decide) (t := .boolean) (t' := .boolean) (by decide) (by decide)))
  have F13 := FF7.other W4 (Or.inr (slot_ne (Or.inl (C.w 37 rfl)) (Or.inl (C.w 35 rfl)) (by decide) (t := .boolean) (t' := .boolean) (by decide) (by decide)))
  have K14 := (Keep.refl h [a]).wr W4 (Or.inl (List.mem_of_getElem? (i := 0) rfl))
  refine go_aloadN C X2 6 rfl d10_5 rfl rfl ?_
  refine go_iconst C X2 7 rfl d10_6 (z := 1) rfl ?_
  refine go_putFN C X2 (C.w 28 rfl) Via.refl F10 E6 (Or.inl (C.w 29 rfl)) (C.w 9 rfl) ga (ty := .boolean) (by decide) (v' := (.int (1 : Int32))) rfl rfl (pc' := 10) rfl d10_7 (fun T15 h17 W18 X16 => ?_)
  have F19 := F10.same W18
  have E20 := E6.wr W18
  have F21 := F7.other W18 (Or.inr (slot_ne (Or.inl (C.w 23 rfl)) (Or.inl (C.w 29 rfl)) (by decide) (t := .long) (t' := .boolean) (by decide) (by decide)))
  have F22 := F8.other W18 (Or.inr (slot_ne (Or.inl (C.w 25 rfl)) (Or.inl (C.w 29 rfl)) (by decide) (t := .boolean) (t' := .boolean) (by decide) (by decide)))
  have F23 := F9.other W18 (Or.inr (slot_ne (Or.inl (C.w 27 rfl)) (Or.inl (C.w 29 rfl)) (by decide) (t := .boolean) (t' := .boolean) (by decide) (by decide)))
  have F24 := F11.other W18 (Or.inr (slot_ne (Or.inl (C.w 31 rfl)) (Or.inl (C.w 29 rfl)) (by decide) (t := .boolean) (t' := .boolean) (by decide) (by decide)))
  have F25 := F12.other W18 (Or.inr (slot_ne (Or.inl (C.w 33 rfl)) (Or.inl (C.w 29 rfl)) (by decide) (t := .boolean) (t' := .boolean) (by decide) (by decide)))
  have F26 := F5.other W18 (Or.inr (slot_ne (Or.inl (C.w 35 rfl)) (Or.inl (C.w 29 rfl)) (by decide) (t := .boolean) (t' := .boolean) (by decide) (by decide)))
  have F27 := F13.other W18 (Or.inr (slot_ne (Or.inl (C.w 37 rfl)) (Or.inl (C.w 29 rfl)) (by decide) (t := .boolean) (t' := .boolean) (by decide) (by decide)))
  have K28 := K14.wr W18 (Or.inl (List.mem_of_getElem? (i := 0) rfl))
  exact go_ret0 C X16 d10_10 ⟨rfl, K28, E20, F21, F22, F23, F19, F24, F25, F26, F27⟩ (by decide) (by decide)
theorem d2_170 : decode method_4_code 170 = .ok (.invokevirtual 29, 3) := by decide +kernel
theorem d2_142 : decode method_4_code 142 = .ok (.aload_n 2, 1) := by decide +kernel
theorem d2_143 : decode method_4_code 143 = .ok (.ldc 46, 2) := by decide +kernel
theorem d18_0 : decode prog_44_method_11_code 0 = .ok (.aload_n 0, 1) := by decide +kernel
theorem d18_1 : decode prog_44_method_11_code 1 = .ok (.getfield 29, 3) := by decide +kernel
theorem d18_4 : decode prog_44_method_11_code 4 = .ok (.ifCond .eq 9, 3) := by decide +kernel
theorem d18_13 : decode prog_44_method_11_code 13 = .ok (.aload_n 0, 1) := by decide +kernel
theorem d18_14 : decode prog_44_method_11_code 14 = .ok (.getfield 41, 3) := by decide +kernel
theorem d18_17 : decode prog_44_method_11_code 17 = .ok (.istore_n 2, 1) := by decide +kernel
theorem d18_18 : decode prog_44_method_11_code 18 = .ok (.iconst 0, 1) := by decide +kernel
theorem d18_19 : decode prog_44_method_11_code 19 = .ok (.istore_n 3, 1) := by decide +kernel
theorem d18_20 : decode prog_44_method_11_code 20 = .ok (.iconst 0, 1) := by decide +kernel
theorem d18_21 : decode prog_44_method_11_code 21 = .ok (.istore 4, 2) := by decide +kernel
theorem d18_23 : decode prog_44_method_11_code 23 = .ok (.iload 4, 2) := by decide +kernel
theorem d18_25 : decode prog_44_method_11_code 25 = .ok (.aload_n 1, 1) := by decide +kernel
theorem d19_0 : decode jdk_42_method_54_code 0 = .ok (.aload_n 0, 1) := by decide +kernel
theorem d19_1 : decode jdk_42_method_54_code 1 = .ok (.getfield 9, 3) := by decide +kernel
theorem d19_4 : decode jdk_42_method_54_code 4 = .ok (.arraylength, 1) := by decide +kernel
theorem d19_5 : decode jdk_42_method_54_code 5 = .ok (.aload_n 0, 1) := by decide +kernel
theorem d20_0 : decode jdk_42_method_152_code 0 = .ok (.getstatic 38, 3) := by decide +kernel
theorem d20_3 : decode jdk_42_method_152_code 3 = .ok (.ifCond .eq 10, 3) := by decide +kernel
theorem d20_6 : decode jdk_42_method_152_code 6 = .ok (.aload_n 0, 1) := by decide +kernel
theorem d20_7 : decode jdk_42_method_152_code 7 = .ok (.getfield 15, 3) := by decide +kernel
theorem d20_10 : decode jdk_42_method_152_code 10 = .ok (.goto 4, 3) := by decide +kernel
theorem d20_14 : decode jdk_42_method_152_code 14 = .ok (.ireturn, 1) := by decide +kernel
theorem ef_own_s20_12 (m : MethodId) (sa : Addr)  : entryFrame m #[(.ref sa)] 1 = mkF m 0 #[rv sa] [] := by
  first | (simp [entryFrame, mkF, argsToLocals, Value.category]; done) | rfl
set_option maxRecDepth 65536 in
set_option maxHeartbeats 40000000 in
theorem own_s20_12 (l : Launch) (Z : State) (a0 : Array Value) (hw : ∀ d ∈ tables_1, d.before a0 Z = true) (sa : Addr) (sb : Addr) (cs : Int32) (fv : Value) (h : Heap) (n0 : Nat) (hn0 : Old Z n0 h) (ES : Exa Z h sa "java/lang/String") (G1 : Fld Z h sa "java/lang/String" "coder" "B" (.int 0)) (G2 : Fld Z h sa "java/lang/String" "value" "[B" (.ref sb)) (AS : La Z h sb .byte [(.int (97 : Int32)), (.int (97 : Int32)), (.int (97 : Int32)), (.int (97 : Int32)), (.int (97 : Int32)), (.int (97 : Int32)), (.int (97 : Int32)), (.int (97 : Int32)), (.int (97 : Int32)), (.int (97 : Int32)), (.int (97 : Int32)), (.int (97 : Int32))]) (hcs : ¬ cs = 0) (S1 : Sta Z Z.heap "java/lang/String" "COMPACT_STRINGS" "Z" (.int cs)) (hfv : fv.isRef = true) (S2 : Sta Z Z.heap "jdk/internal/util/Preconditions" "SIOOBE_FORMATTER" "Ljava/util/function/BiFunction;" fv) :
    Con l Z (⟨"java/lang/String", "coder", "()B"⟩ : MethodName) jdk_42_method_152_code 1 (some .byte) ({ frames := 0, cells := 0, slots := 0, locals := 0 } : Room) #[(.ref sa)] h n0 (fun v h' => v = some (.int (0 : Int32)) ∧ h = h') := by
  refine con_of hw (plainFor_of_name pn_java_lang_String) hn0 ?_
  intro p e s m below meth c T0 C X0
  refine Go.cast (congrArg T0.setTop (ef_own_s20_12 m sa)) ?_
  refine go_getS C X0 (C.w 76 rfl) (S1.ext X0.old.2) (pc' := 3) rfl d20_0 (fun T1 X2 => ?_)
  refine go_if_eq C X2 d20_3 (pc' := 6) (pc2 := 13) rfl (by decide) (by decide) (fun (c3 : cs = (0 : Int32)) => False.elim (hcs c3)) (fun (c3 : ¬ cs = (0 : Int32)) => ?_)
  refine go_aloadN C X2 7 rfl d20_6 rfl rfl ?_
  refine go_getF C X2 (C.w 94 rfl) Via.refl G1 (pc' := 10) rfl d20_7 (fun T3 X4 => ?_)
  refine go_goto C X4 d20_10 (pc' := 14) (by decide) (by decide) ?_
  exact go_retN C X4 (by simp) (z' := 0) rfl d20_14 ⟨rfl, rfl⟩ (by decide) (by decide)
theorem pd_7 : parseMethodDescriptor "()B" = some ⟨[], some .byte⟩ := by decide +kernel
theorem d19_6 : decode jdk_42_method_54_code 6 = .ok (.invokevirtual 335, 3) := by decide +kernel
theorem d19_9 : decode jdk_42_method_54_code 9 = .ok (.ishr, 1) := by decide +kernel
theorem d19_10 : decode jdk_42_method_54_code 10 = .ok (.ireturn, 1) := by decide +kernel
theorem ef_own_s19_11 (m : MethodId) (sa : Addr)  : entryFrame m #[(.ref sa)] 1 = mkF m 0 #[rv sa] [] := by
  first | (simp [entryFrame, mkF, argsToLocals, Value.category]; done) | rfl
set_option maxRecDepth 65536 in
set_option maxHeartbeats 40000000 in
theorem own_s19_11 (l : Launch) (Z : State) (a0 : Array Value) (hw : ∀ d ∈ tables_1, d.before a0 Z = true) (sa : Addr) (sb : Addr) (cs : Int32) (fv : Value) (h : Heap) (n0 : Nat) (hn0 : Old Z n0 h) (ES : Exa Z h sa "java/lang/String") (G1 : Fld Z h sa "java/lang/String" "coder" "B" (.int 0)) (G2 : Fld Z h sa "java/lang/String" "value" "[B" (.ref sb)) (AS : La Z h sb .byte [(.int (97 : Int32)), (.int (97 : Int32)), (.int (97 : Int32)), (.int (97 : Int32)), (.int (97 : Int32)), (.int (97 : Int32)), (.int (97 : Int32)), (.int (97 : Int32)), (.int (97 : Int32)), (.int (97 : Int32)), (.int (97 : Int32)), (.int (97 : Int32))]) (hcs : ¬ cs = 0) (S1 : Sta Z Z.heap "java/lang/String" "COMPACT_STRINGS" "Z" (.int cs)) (hfv : fv.isRef = true) (S2 : Sta Z Z.heap "jdk/internal/util/Preconditions" "SIOOBE_FORMATTER" "Ljava/util/function/BiFunction;" fv) :
    Con l Z (⟨"java/lang/String", "length", "()I"⟩ : MethodName) jdk_42_method_54_code 1 (some .int) ({ frames := 1, cells := 0, slots := 0, locals := 13 } : Room) #[(.ref sa)] h n0 (fun v h' => v = some (.int (12 : Int32)) ∧ h = h') := by
  refine con_of hw (plainFor_of_name pn_java_lang_String) hn0 ?_
  intro p e s m below meth c T0 C X0
  refine Go.cast (congrArg T0.setTop (ef_own_s19_11 m sa)) ?_
  refine go_aloadN C X0 1 rfl d19_0 rfl rfl ?_
  refine go_getF C X0 (C.w 92 rfl) Via.refl G2 (pc' := 4) rfl d19_1 (fun T1 X2 => ?_)
  refine go_alen C X2 AS (z := (12 : Int32)) rfl (pc' := 5) rfl d19_4 ?_
  refine go_aloadN C X2 6 rfl d19_5 rfl rfl ?_
  refine go_virtual C X2 ES (C.w 106 rfl) (C.w 107 rfl) (notFace_of_selects (args := #[]) (mvT C.hZ (C.w 109 rfl))) (C.w 109 rfl) (C.w 108 rfl) (C.w 74 rfl) (C.w 110 rfl) (own_s20_12 l Z a0 C.ws sa sb cs fv h n0 X2.old ES G1 G2 AS hcs S1 hfv S2) (argsL := []) (rest := [(.int (12 : Int32))]) (lenOf pd_7 rfl) rfl (by decide) (by decide) (Nat.le_of_ble_eq_true rfl) (by decide) (by decide) rfl rfl (pc' := 9) rfl d19_6 ?_
  rintro T3 _ _ ⟨rfl, rfl⟩ X4
  show Go p e below _ (T3.setTop (mkF m 9 #[rv sa] [(.int (0 : Int32)), (.int (12 : Int32))]))
  refine go_ishr C X4 10 rfl d19_9 ?_
  show Go p e below _ (T3.setTop (mkF m 10 #[rv sa] [(.int (12 : Int32))]))
  exact go_retI C X4 d19_10 ⟨rfl, rfl⟩ (by decide) (by decide)
theorem pd_8 : parseMethodDescriptor "()I" = some ⟨[], some .int⟩ := by decide +kernel
theorem d18_26 : decode prog_44_method_11_code 26 = .ok (.invokevirtual 62, 3) := by decide +kernel
theorem d18_29 : decode prog_44_method_11_code 29 = .ok (.if_icmp .ge 48, 3) := by decide +kernel
theorem d18_32 : decode prog_44_method_11_code 32 = .ok (.aload_n 0, 1) := by decide +kernel
theorem d18_33 : decode prog_44_method_11_code 33 = .ok (.getfield 29, 3) := by decide +kernel
theorem d18_36 : decode prog_44_method_11_code 36 = .ok (.ifCond .ne 41, 3) := by decide +kernel
theorem d18_39 : decode prog_44_method_11_code 39 = .ok (.aload_n 1, 1) := by decide +kernel
theorem d18_40 : decode prog_44_method_11_code 40 = .ok (.iload 4, 2) := by decide +kernel
theorem d21_0 : decode jdk_42_method_56_code 0 = .ok (.aload_n 0, 1) := by decide +kernel
theorem d22_0 : decode jdk_42_method_154_code 0 = .ok (.getstatic 38, 3) := by decide +kernel
theorem d22_3 : decode jdk_42_method_154_code 3 = .ok (.ifCond .eq 14, 3) := by decide +kernel
theorem d22_6 : decode jdk_42_method_154_code 6 = .ok (.aload_n 0, 1) := by decide +kernel
theorem d22_7 : decode jdk_42_method_154_code 7 = .ok (.getfield 15, 3) := by decide +kernel
theorem d22_10 : decode jdk_42_method_154_code 10 = .ok (.ifCond .ne 7, 3) := by decide +kernel
theorem d22_13 : decode jdk_42_method_154_code 13 = .ok (.iconst 1, 1) := by decide +kernel
theorem d22_14 : decode jdk_42_method_154_code 14 = .ok (.goto 4, 3) := by decide +kernel
theorem d22_18 : decode jdk_42_method_154_code 18 = .ok (.ireturn, 1) := by decide +kernel
theorem ef_own_s22_14 (m : MethodId) (sa : Addr)  : entryFrame m #[(.ref sa)] 1 = mkF m 0 #[rv sa] [] := by
  first | (simp [entryFrame, mkF, argsToLocals, Value.category]; done) | rfl
set_option maxRecDepth 65536 in
set_option maxHeartbeats 40000000 in
theorem own_s22_14 (l : Launch) (Z : State) (a0 : Array Value) (hw : ∀ d ∈ tables_1, d.before a0 Z = true) (sa : Addr) (sb : Addr) (cs : Int32) (fv : Value) (h : Heap) (n0 : Nat) (hn0 : Old Z n0 h) (ES : Exa Z h sa "java/lang/String") (G1 : Fld Z h sa "java/lang/String" "coder" "B" (.int 0)) (G2 : Fld Z h sa "java/lang/String" "value" "[B" (.ref sb)) (AS : La Z h sb .byte [(.int (97 : Int32)), (.int (97 : Int32)), (.int (97 : Int32)), (.int (97 : Int32)), (.int (97 : Int32)), (.int (97 : Int32)), (.int (97 : Int32)), (.int (97 : Int32)), (.int (97 : Int32)), (.int (97 : Int32)), (.int (97 : Int32)), (.int (97 : Int32))]) (hcs : ¬ cs = 0) (S1 : Sta Z Z.heap "java/lang/String" "COMPACT_STRINGS" "Z" (.int cs)) (hfv : fv.isRef = true) (S2 : Sta Z Z.heap "jdk/internal/util/Preconditions" "SIOOBE_FORMATTER" "Ljava/util/function/BiFunction;" fv) :
    Con l Z (⟨"java/lang/String", "isLatin1", "()Z"⟩ : MethodName) jdk_42_method_154_code 1 (some .boolean) ({ frames := 0, cells := 0, slots := 0, locals := 0 } : Room) #[(.ref sa)] h n0 (fun v h' => v = some (.int (1 : Int32)) ∧ h = h') := by
  refine con_of hw (plainFor_of_name pn_java_lang_String) hn0 ?_
  intro p e s m below meth c T0 C X0
  refine Go.cast (congrArg T0.setTop (ef_own_s22_14 m sa)) ?_
  refine go_getS C X0 (C.w 76 rfl) (S1.ext X0.old.2) (pc' := 3) rfl d22_0 (fun T1 X2 => ?_)
  refine go_if_eq C X2 d22_3 (pc' := 6) (pc2 := 17) rfl (by decide) (by decide) (fun (c3 : cs = (0 : Int32)) => False.elim (hcs c3)) (fun (c3 : ¬ cs = (0 : Int32)) => ?_)
  refine go_aloadN C X2 7 rfl d22_6 rfl rfl ?_
  refine go_getF C X2 (C.w 94 rfl) Via.refl G1 (pc' := 10) rfl d22_7 (fun T3 X4 => ?_)
  refine go_if_ne C X4 d22_10 (pc' := 13) (pc2 := 17) rfl (by decide) (by decide) (fun (c10 : ¬ (0 : Int32) = (0 : Int32)) => False.elim (by first | omega | exact absurd c10 (by decide))) (fun (c10 : (0 : Int32) = (0 : Int32)) => ?_)
  refine go_iconst C X4 14 rfl d22_13 (z := 1) rfl ?_
  refine go_goto C X4 d22_14 (pc' := 18) (by decide) (by decide) ?_
  exact go_retN C X4 (by simp) (z' := 1) rfl d22_18 ⟨rfl, rfl⟩ (by decide) (by decide)
theorem pd_9 : parseMethodDescriptor "()Z" = some ⟨[], some .boolean⟩ := by decide +kernel
theorem d21_1 : decode jdk_42_method_56_code 1 = .ok (.invokevirtual 492, 3) := by decide +kernel
theorem d21_4 : decode jdk_42_method_56_code 4 = .ok (.ifCond .eq 12, 3) := by decide +kernel
theorem d21_7 : decode jdk_42_method_56_code 7 = .ok (.aload_n 0, 1) := by decide +kernel
theorem d21_8 : decode jdk_42_method_56_code 8 = .ok (.getfield 9, 3) := by decide +kernel
theorem d21_11 : decode jdk_42_method_56_code 11 = .ok (.iload_n 1, 1) := by decide +kernel
theorem d23_0 : decode jdk_43_method_2_code 0 = .ok (.iload_n 1, 1) := by decide +kernel
theorem d23_1 : decode jdk_43_method_2_code 1 = .ok (.aload_n 0, 1) := by decide +kernel
theorem d23_2 : decode jdk_43_method_2_code 2 = .ok (.arraylength, 1) := by decide +kernel
theorem d24_0 : decode jdk_42_method_155_code 0 = .ok (.iload_n 0, 1) := by decide +kernel
theorem d24_1 : decode jdk_42_method_155_code 1 = .ok (.iload_n 1, 1) := by decide +kernel
theorem d24_2 : decode jdk_42_method_155_code 2 = .ok (.getstatic 1053, 3) := by decide +kernel
theorem d25_0 : decode jdk_41_method_11_code 0 = .ok (.iload_n 0, 1) := by decide +kernel
theorem d25_1 : decode jdk_41_method_11_code 1 = .ok (.ifCond .lt 8, 3) := by decide +kernel
theorem d25_4 : decode jdk_41_method_11_code 4 = .ok (.iload_n 0, 1) := by decide +kernel
theorem d25_5 : decode jdk_41_method_11_code 5 = .ok (.iload_n 1, 1) := by decide +kernel
theorem d25_6 : decode jdk_41_method_11_code 6 = .ok (.if_icmp .lt 10, 3) := by decide +kernel
theorem d25_16 : decode jdk_41_method_11_code 16 = .ok (.iload_n 0, 1) := by decide +kernel
theorem d25_17 : decode jdk_41_method_11_code 17 = .ok (.ireturn, 1) := by decide +kernel
theorem pn_jdk_internal_util_Preconditions : plainName "jdk/internal/util/Preconditions" = true := by first | (simp [plainName, overriddenIn]; done) | decide +kernel
theorem ef_own_pc_17 (m : MethodId) (fv : Value) (hfv : fv.isRef = true) : entryFrame m #[(.int (0 : Int32)), (.int (12 : Int32)), fv] 3 = mkF m 0 #[iv (0 : Int32), iv (12 : Int32), .val fv] [] := by
  cases fv <;> first | (cases hfv; done) | skip
  all_goals first | (simp [entryFrame, mkF, argsToLocals, Value.category]; done) | rfl
set_option maxRecDepth 65536 in
set_option maxHeartbeats 40000000 in
theorem own_pc_17 (l : Launch) (Z : State) (a0 : Array Value) (hw : ∀ d ∈ tables_1, d.before a0 Z = true) (fv : Value)  (h : Heap) (n0 : Nat) (hn0 : Old Z n0 h) (hfv : fv.isRef = true)  :
    Con l Z (⟨"jdk/internal/util/Preconditions", "checkIndex", "(IILjava/util/function/BiFunction;)I"⟩ : MethodName) jdk_41_method_11_code 3 (some .int) ({ frames := 0, cells := 0, slots := 0, locals := 0 } : Room) #[(.int (0 : Int32)), (.int (12 : Int32)), fv] h n0 (fun v h' => v = some (.int (0 : Int32)) ∧ h = h') := by
  refine con_of hw (plainFor_of_name pn_jdk_internal_util_Preconditions) hn0 ?_
  intro p e s m below meth c T0 C X0
  refine Go.cast (congrArg T0.setTop (ef_own_pc_17 m fv hfv)) ?_
  refine go_iloadN C X0 1 rfl d25_0 rfl ?_
  refine go_if_lt C X0 d25_1 (pc' := 4) (pc2 := 9) rfl (by decide) (by decide) (fun (c1 : 0 < 0) => False.elim (by first | omega | exact absurd c1 (by decide))) (fun (c1 : 0 ≤ 0) => ?_)
  refine go_iloadN C X0 5 rfl d25_4 rfl ?_
  refine go_iloadN C X0 6 rfl d25_5 rfl ?_
  refine go_icmp_lt C X0 d25_6 (pc' := 9) (pc2 := 16) rfl (by decide) (by decide) (fun (c6 : 0 < 12) => ?_) (fun (c6 : 12 ≤ 0) => False.elim (by first | omega | exact absurd c6 (by decide)))
  refine go_iloadN C X0 17 rfl d25_16 rfl ?_
  exact go_retI C X0 d25_17 ⟨rfl, rfl⟩ (by decide) (by decide)
theorem pd_10 : parseMethodDescriptor "(IILjava/util/function/BiFunction;)I" = some ⟨[.int, .int, (.object "java/util/function/BiFunction")], some .int⟩ := by decide +kernel
theorem d24_5 : decode jdk_42_method_155_code 5 = .ok (.invokestatic 1059, 3) := by decide +kernel
theorem d24_8 : decode jdk_42_method_155_code 8 = .ok (.pop, 1) := by decide +kernel
theorem d24_9 : decode jdk_42_method_155_code 9 = .ok (.return_, 1) := by decide +kernel
theorem ef_own_sc_16 (m : MethodId)   : entryFrame m #[(.int (0 : Int32)), (.int (12 : Int32))] 2 = mkF m 0 #[iv (0 : Int32), iv (12 : Int32)] [] := by
  first | (simp [entryFrame, mkF, argsToLocals, Value.category]; done) | rfl
set_option maxRecDepth 65536 in
set_option maxHeartbeats 40000000 in
theorem own_sc_16 (l : Launch) (Z : State) (a0 : Array Value) (hw : ∀ d ∈ tables_1, d.before a0 Z = true)  (cs : Int32) (fv : Value) (h : Heap) (n0 : Nat) (hn0 : Old Z n0 h) (hcs : ¬ cs = 0) (S1 : Sta Z Z.heap "java/lang/String" "COMPACT_STRINGS" "Z" (.int cs)) (hfv : fv.isRef = true) (S2 : Sta Z Z.heap "jdk/internal/util/Preconditions" "SIOOBE_FORMATTER" "Ljava/util/function/BiFunction;" fv) :
    Con l Z (⟨"java/lang/String", "checkIndex", "(II)V"⟩ : MethodName) jdk_42_method_155_code 2 none ({ frames := 1, cells := 0, slots := 0, locals := 14 } : Room) #[(.int (0 : Int32)), (.int (12 : Int32))] h n0 (fun v h' => v = none ∧ h = h') := by
  refine con_of hw (plainFor_of_name pn_java_lang_String) hn0 ?_
  intro p e s m below meth c T0 C X0
  refine Go.cast (congrArg T0.setTop (ef_own_sc_16 m )) ?_
  refine go_iloadN C X0 1 rfl d24_0 rfl ?_
  refine go_iloadN C X0 2 rfl d24_1 rfl ?_
  refine go_getS C X0 (C.w 127 rfl) (S2.ext X0.old.2) (pc' := 5) rfl d24_2 (fun T1 X2 => ?_)
  refine go_callS C X2 (C.w 129 rfl) (C.w 130 rfl) (C.w 128 rfl) (C.w 131 rfl) (own_pc_17 l Z a0 C.ws fv h n0 X2.old hfv) (argsL := [(.int (0 : Int32)), (.int (12 : Int32)), fv]) (rest := []) (lenOf pd_10 rfl) rfl (by decide) (by decide) (Nat.le_of_ble_eq_true rfl) (by decide) (by decide) rfl rfl (pc' := 8) rfl d24_5 ?_
  rintro T3 _ _ ⟨rfl, rfl⟩ X4
  show Go p e below _ (T3.setTop (mkF m 8 #[iv (0 : Int32), iv (12 : Int32)] [(.int (0 : Int32))]))
  refine go_pop C X4 9 rfl d24_8 rfl ?_
  exact go_ret0 C X4 d24_9 ⟨rfl, rfl⟩ (by decide) (by decide)
theorem pd_11 : parseMethodDescriptor "(II)V" = some ⟨[.int, .int], none⟩ := by decide +kernel
theorem d23_3 : decode jdk_43_method_2_code 3 = .ok (.invokestatic 9, 3) := by decide +kernel
theorem d23_6 : decode jdk_43_method_2_code 6 = .ok (.aload_n 0, 1) := by decide +kernel
theorem d23_7 : decode jdk_43_method_2_code 7 = .ok (.iload_n 1, 1) := by decide +kernel
theorem d23_8 : decode jdk_43_method_2_code 8 = .ok (.baload, 1) := by decide +kernel
theorem d23_9 : decode jdk_43_method_2_code 9 = .ok (.sipush 255, 3) := by decide +kernel
theorem d23_12 : decode jdk_43_method_2_code 12 = .ok (.iand, 1) := by decide +kernel
theorem d23_13 : decode jdk_43_method_2_code 13 = .ok (.i2c, 1) := by decide +kernel
theorem d23_14 : decode jdk_43_method_2_code 14 = .ok (.ireturn, 1) := by decide +kernel
theorem ef_own_lc_15 (m : MethodId) (sb : Addr)  : entryFrame m #[(.ref sb), (.int (0 : Int32))] 2 = mkF m 0 #[rv sb, iv (0 : Int32)] [] := by
  first | (simp [entryFrame, mkF, argsToLocals, Value.category]; done) | rfl
set_option maxRecDepth 65536 in
set_option maxHeartbeats 40000000 in
theorem own_lc_15 (l : Launch) (Z : State) (a0 : Array Value) (hw : ∀ d ∈ tables_1, d.before a0 Z = true) (sb : Addr) (cs : Int32) (fv : Value) (h : Heap) (n0 : Nat) (hn0 : Old Z n0 h) (AS : La Z h sb .byte [(.int (97 : Int32)), (.int (97 : Int32)), (.int (97 : Int32)), (.int (97 : Int32)), (.int (97 : Int32)), (.int (97 : Int32)), (.int (97 : Int32)), (.int (97 : Int32)), (.int (97 : Int32)), (.int (97 : Int32)), (.int (97 : Int32)), (.int (97 : Int32))]) (hcs : ¬ cs = 0) (S1 : Sta Z Z.heap "java/lang/String" "COMPACT_STRINGS" "Z" (.int cs)) (hfv : fv.isRef = true) (S2 : Sta Z Z.heap "jdk/internal/util/Preconditions" "SIOOBE_FORMATTER" "Ljava/util/function/BiFunction;" fv) :
    Con l Z (⟨"java/lang/StringLatin1", "charAt", "([BI)C"⟩ : MethodName) jdk_43_method_2_code 2 (some .char) ({ frames := 2, cells := 0, slots := 0, locals := 27 } : Room) #[(.ref sb), (.int (0 : Int32))] h n0 (fun v h' => v = some (.int (97 : Int32)) ∧ h = h') := by
  refine con_of hw (plainFor_of_name pn_java_lang_StringLatin1) hn0 ?_
  intro p e s m below meth c T0 C X0
  refine Go.cast (congrArg T0.setTop (ef_own_lc_15 m sb)) ?_
  refine go_iloadN C X0 1 rfl d23_0 rfl ?_
  refine go_aloadN C X0 2 rfl d23_1 rfl rfl ?_
  refine go_alen C X0 AS (z := (12 : Int32)) rfl (pc' := 3) rfl d23_2 ?_
  refine go_callS C X0 (C.w 124 rfl) (C.w 125 rfl) (C.w 74 rfl) (C.w 126 rfl) (own_sc_16 l Z a0 C.ws cs fv h n0 X0.old hcs S1 hfv S2) (argsL := [(.int (0 : Int32)), (.int (12 : Int32))]) (rest := []) (lenOf pd_11 rfl) rfl (by decide) (by decide) (Nat.le_of_ble_eq_true rfl) (by decide) (by decide) rfl rfl (pc' := 6) rfl d23_3 ?_
  rintro T1 _ _ ⟨rfl, rfl⟩ X2
  show Go p e below _ (T1.setTop (mkF m 6 #[rv sb, iv (0 : Int32)] []))
  refine go_aloadN C X2 7 rfl d23_6 rfl rfl ?_
  refine go_iloadN C X2 8 rfl d23_7 rfl ?_
  refine go_baloadBytes C X2 AS (by decide) (v := (.int (97 : Int32))) rfl (pc' := 9) rfl d23_8 ?_
  refine go_sipush C X2 12 rfl d23_9 (z := 255) rfl ?_
  refine go_iandL C X2 13 rfl d23_12 (z := (97)) rfl ?_
  refine go_i2c C X2 14 rfl d23_13 ?_
  show Go p e below _ (T1.setTop (mkF m 14 #[rv sb, iv (0 : Int32)] [(.int (97 : Int32))]))
  exact go_retN C X2 (by simp) (z' := 97) rfl d23_14 ⟨rfl, rfl⟩ (by decide) (by decide)
theorem pd_12 : parseMethodDescriptor "([BI)C" = some ⟨[(.array .byte), .int], some .char⟩ := by decide +kernel
theorem d21_12 : decode jdk_42_method_56_code 12 = .ok (.invokestatic 495, 3) := by decide +kernel
theorem d21_15 : decode jdk_42_method_56_code 15 = .ok (.ireturn, 1) := by decide +kernel
theorem ef_own_s21_13 (m : MethodId) (sa : Addr)  : entryFrame m #[(.ref sa), (.int (0 : Int32))] 2 = mkF m 0 #[rv sa, iv (0 : Int32)] [] := by
  first | (simp [entryFrame, mkF, argsToLocals, Value.category]; done) | rfl
set_option maxRecDepth 65536 in
set_option maxHeartbeats 40000000 in
theorem own_s21_13 (l : Launch) (Z : State) (a0 : Array Value) (hw : ∀ d ∈ tables_1, d.before a0 Z = true) (sa : Addr) (sb : Addr) (cs : Int32) (fv : Value) (h : Heap) (n0 : Nat) (hn0 : Old Z n0 h) (ES : Exa Z h sa "java/lang/String") (G1 : Fld Z h sa "java/lang/String" "coder" "B" (.int 0)) (G2 : Fld Z h sa "java/lang/String" "value" "[B" (.ref sb)) (AS : La Z h sb .byte [(.int (97 : Int32)), (.int (97 : Int32)), (.int (97 : Int32)), (.int (97 : Int32)), (.int (97 : Int32)), (.int (97 : Int32)), (.int (97 : Int32)), (.int (97 : Int32)), (.int (97 : Int32)), (.int (97 : Int32)), (.int (97 : Int32)), (.int (97 : Int32))]) (hcs : ¬ cs = 0) (S1 : Sta Z Z.heap "java/lang/String" "COMPACT_STRINGS" "Z" (.int cs)) (hfv : fv.isRef = true) (S2 : Sta Z Z.heap "jdk/internal/util/Preconditions" "SIOOBE_FORMATTER" "Ljava/util/function/BiFunction;" fv) :
    Con l Z (⟨"java/lang/String", "charAt", "(I)C"⟩ : MethodName) jdk_42_method_56_code 2 (some .char) ({ frames := 3, cells := 0, slots := 0, locals := 40 } : Room) #[(.ref sa), (.int (0 : Int32))] h n0 (fun v h' => v = some (.int (97 : Int32)) ∧ h = h') := by
  refine con_of hw (plainFor_of_name pn_java_lang_String) hn0 ?_
  intro p e s m below meth c T0 C X0
  refine Go.cast (congrArg T0.setTop (ef_own_s21_13 m sa)) ?_
  refine go_aloadN C X0 1 rfl d21_0 rfl rfl ?_
  refine go_virtual C X0 ES (C.w 116 rfl) (C.w 117 rfl) (notFace_of_selects (args := #[]) (mvT C.hZ (C.w 119 rfl))) (C.w 119 rfl) (C.w 118 rfl) (C.w 74 rfl) (C.w 120 rfl) (own_s22_14 l Z a0 C.ws sa sb cs fv h n0 X0.old ES G1 G2 AS hcs S1 hfv S2) (argsL := []) (rest := []) (lenOf pd_9 rfl) rfl (by decide) (by decide) (Nat.le_of_ble_eq_true rfl) (by decide) (by decide) rfl rfl (pc' := 4) rfl d21_1 ?_
  rintro T1 _ _ ⟨rfl, rfl⟩ X2
  show Go p e below _ (T1.setTop (mkF m 4 #[rv sa, iv (0 : Int32)] [(.int (1 : Int32))]))
  refine go_if_eq C X2 d21_4 (pc' := 7) (pc2 := 16) rfl (by decide) (by decide) (fun (c4 : (1 : Int32) = (0 : Int32)) => False.elim (by first | omega | exact absurd c4 (by decide))) (fun (c4 : ¬ (1 : Int32) = (0 : Int32)) => ?_)
  refine go_aloadN C X2 8 rfl d21_7 rfl rfl ?_
  refine go_getF C X2 (C.w 92 rfl) Via.refl G2 (pc' := 11) rfl d21_8 (fun T4 X5 => ?_)
  refine go_iloadN C X5 12 rfl d21_11 rfl ?_
  refine go_callS C X5 (C.w 121 rfl) (C.w 122 rfl) (C.w 79 rfl) (C.w 123 rfl) (own_lc_15 l Z a0 C.ws sb cs fv h n0 X5.old AS hcs S1 hfv S2) (argsL := [(.ref sb), (.int (0 : Int32))]) (rest := []) (lenOf pd_12 rfl) rfl (by decide) (by decide) (Nat.le_of_ble_eq_true rfl) (by decide) (by decide) rfl rfl (pc' := 15) rfl d21_12 ?_
  rintro T6 _ _ ⟨rfl, rfl⟩ X7
  show Go p e below _ (T6.setTop (mkF m 15 #[rv sa, iv (0 : Int32)] [(.int (97 : Int32))]))
  exact go_retN C X7 (by simp) (z' := 97) rfl d21_15 ⟨rfl, rfl⟩ (by decide) (by decide)
theorem pd_13 : parseMethodDescriptor "(I)C" = some ⟨[.int], some .char⟩ := by decide +kernel
theorem d18_42 : decode prog_44_method_11_code 42 = .ok (.invokevirtual 68, 3) := by decide +kernel
theorem d18_45 : decode prog_44_method_11_code 45 = .ok (.istore 5, 2) := by decide +kernel
theorem d18_47 : decode prog_44_method_11_code 47 = .ok (.iload 5, 2) := by decide +kernel
theorem d18_49 : decode prog_44_method_11_code 49 = .ok (.bipush 58, 2) := by decide +kernel
theorem d18_51 : decode prog_44_method_11_code 51 = .ok (.if_icmp .ne 10, 3) := by decide +kernel
theorem d18_61 : decode prog_44_method_11_code 61 = .ok (.iload_n 3, 1) := by decide +kernel
theorem d18_62 : decode prog_44_method_11_code 62 = .ok (.aload_n 0, 1) := by decide +kernel
theorem d18_63 : decode prog_44_method_11_code 63 = .ok (.iload 5, 2) := by decide +kernel
theorem d18_65 : decode prog_44_method_11_code 65 = .ok (.iconst 0, 1) := by decide +kernel
theorem d11_6 : decode prog_44_method_15_code 6 = .ok (.iload_n 0, 1) := by decide +kernel
theorem d11_7 : decode prog_44_method_15_code 7 = .ok (.bipush 122, 2) := by decide +kernel
theorem d11_9 : decode prog_44_method_15_code 9 = .ok (.if_icmp .le 15, 3) := by decide +kernel
theorem d11_24 : decode prog_44_method_15_code 24 = .ok (.iconst 1, 1) := by decide +kernel
theorem d11_25 : decode prog_44_method_15_code 25 = .ok (.goto 4, 3) := by decide +kernel
theorem ef_own_p11_19 (m : MethodId)   : entryFrame m #[(.int (97 : Int32))] 1 = mkF m 0 #[iv (97 : Int32)] [] := by
  first | (simp [entryFrame, mkF, argsToLocals, Value.category]; done) | rfl
set_option maxRecDepth 65536 in
set_option maxHeartbeats 40000000 in
theorem own_p11_19 (l : Launch) (Z : State) (a0 : Array Value) (hw : ∀ d ∈ tables_1, d.before a0 Z = true)   (h : Heap) (n0 : Nat) (hn0 : Old Z n0 h)  :
    Con l Z (⟨"com/example/plantilla/plantilla/UrlValue", "isAsciiLetter", "(C)Z"⟩ : MethodName) prog_44_method_15_code 1 (some .boolean) ({ frames := 0, cells := 0, slots := 0, locals := 0 } : Room) #[(.int (97 : Int32))] h n0 (fun v h' => v = some (.int (1 : Int32)) ∧ h = h') := by
  refine con_of hw (plainFor_of_name pn_com_example_plantilla_plantilla_UrlValue) hn0 ?_
  intro p e s m below meth c T0 C X0
  refine Go.cast (congrArg T0.setTop (ef_own_p11_19 m )) ?_
  refine go_iloadN C X0 1 rfl d11_0 rfl ?_
  refine go_bipush C X0 3 rfl d11_1 (z := 97) rfl ?_
  refine go_icmp_lt C X0 d11_3 (pc' := 6) (pc2 := 12) rfl (by decide) (by decide) (fun (c3 : 97 < 97) => False.elim (by first | omega | exact absurd c3 (by decide))) (fun (c3 : 97 ≤ 97) => ?_)
  refine go_iloadN C X0 7 rfl d11_6 rfl ?_
  refine go_bipush C X0 9 rfl d11_7 (z := 122) rfl ?_
  refine go_icmp_le C X0 d11_9 (pc' := 12) (pc2 := 24) rfl (by decide) (by decide) (fun (c9 : 97 ≤ 122) => ?_) (fun (c9 : 122 < 97) => False.elim (by first | omega | exact absurd c9 (by decide)))
  refine go_iconst C X0 25 rfl d11_24 (z := 1) rfl ?_
  refine go_goto C X0 d11_25 (pc' := 29) (by decide) (by decide) ?_
  exact go_retN C X0 (by simp) (z' := 1) rfl d11_29 ⟨rfl, rfl⟩ (by decide) (by decide)
theorem d13_6 : decode prog_35_method_5_code 6 = .ok (.iload_n 0, 1) := by decide +kernel
theorem d13_7 : decode prog_35_method_5_code 7 = .ok (.bipush 122, 2) := by decide +kernel
theorem d13_9 : decode prog_35_method_5_code 9 = .ok (.if_icmp .gt 13, 3) := by decide +kernel
theorem d13_12 : decode prog_35_method_5_code 12 = .ok (.iload_n 0, 1) := by decide +kernel
theorem d13_13 : decode prog_35_method_5_code 13 = .ok (.bipush 97, 2) := by decide +kernel
theorem d13_15 : decode prog_35_method_5_code 15 = .ok (.isub, 1) := by decide +kernel
theorem d13_16 : decode prog_35_method_5_code 16 = .ok (.iconst 1, 1) := by decide +kernel
theorem d13_17 : decode prog_35_method_5_code 17 = .ok (.iadd, 1) := by decide +kernel
theorem d13_18 : decode prog_35_method_5_code 18 = .ok (.istore_n 1, 1) := by decide +kernel
theorem d13_19 : decode prog_35_method_5_code 19 = .ok (.goto 115, 3) := by decide +kernel
theorem ef_own_p13_21 (m : MethodId)   : entryFrame m #[(.int (97 : Int32))] 2 = mkF m 0 #[iv (97 : Int32), un] [] := by
  first | (simp [entryFrame, mkF, argsToLocals, Value.category]; done) | rfl
set_option maxRecDepth 65536 in
set_option maxHeartbeats 40000000 in
theorem own_p13_21 (l : Launch) (Z : State) (a0 : Array Value) (hw : ∀ d ∈ tables_1, d.before a0 Z = true)   (h : Heap) (n0 : Nat) (hn0 : Old Z n0 h)  :
    Con l Z (⟨"com/example/plantilla/plantilla/PackedName", "codeOf", "(C)I"⟩ : MethodName) prog_35_method_5_code 2 (some .int) ({ frames := 0, cells := 0, slots := 0, locals := 0 } : Room) #[(.int (97 : Int32))] h n0 (fun v h' => v = some (.int (1 : Int32)) ∧ h = h') := by
  refine con_of hw (plainFor_of_name pn_com_example_plantilla_plantilla_PackedName) hn0 ?_
  intro p e s m below meth c T0 C X0
  refine Go.cast (congrArg T0.setTop (ef_own_p13_21 m )) ?_
  refine go_iloadN C X0 1 rfl d13_0 rfl ?_
  refine go_bipush C X0 3 rfl d13_1 (z := 97) rfl ?_
  refine go_icmp_lt C X0 d13_3 (pc' := 6) (pc2 := 22) rfl (by decide) (by decide) (fun (c3 : 97 < 97) => False.elim (by first | omega | exact absurd c3 (by decide))) (fun (c3 : 97 ≤ 97) => ?_)
  refine go_iloadN C X0 7 rfl d13_6 rfl ?_
  refine go_bipush C X0 9 rfl d13_7 (z := 122) rfl ?_
  refine go_icmp_gt C X0 d13_9 (pc' := 12) (pc2 := 22) rfl (by decide) (by decide) (fun (c9 : 122 < 97) => False.elim (by first | omega | exact absurd c9 (by decide))) (fun (c9 : 97 ≤ 122) => ?_)
  refine go_iloadN C X0 13 rfl d13_12 rfl ?_
  refine go_bipush C X0 15 rfl d13_13 (z := 97) rfl ?_
  refine go_isubL C X0 16 rfl d13_15 (z := (0)) rfl ?_
  refine go_iconst C X0 17 rfl d13_16 (z := 1) rfl ?_
  refine go_iaddL C X0 18 rfl d13_17 (z := (1)) rfl ?_
  refine go_istoreN C X0 19 rfl d13_18 #[iv (97 : Int32), iv (1 : Int32)] rfl ?_
  refine go_goto C X0 d13_19 (pc' := 134) (by decide) (by decide) ?_
  refine go_iloadN C X0 135 rfl d13_134 rfl ?_
  exact go_retI C X0 d13_135 ⟨rfl, rfl⟩ (by decide) (by decide)
theorem d12_35 : decode prog_35_method_2_code 35 = .ok (.iload 5, 2) := by decide +kernel
theorem d12_37 : decode prog_35_method_2_code 37 = .ok (.ifCond .eq 9, 3) := by decide +kernel
theorem d12_46 : decode prog_35_method_2_code 46 = .ok (.lload_n 0, 1) := by decide +kernel
theorem d12_47 : decode prog_35_method_2_code 47 = .ok (.bipush 6, 2) := by decide +kernel
theorem d12_49 : decode prog_35_method_2_code 49 = .ok (.lshl, 1) := by decide +kernel
theorem d12_50 : decode prog_35_method_2_code 50 = .ok (.lload_n 3, 1) := by decide +kernel
theorem d12_51 : decode prog_35_method_2_code 51 = .ok (.lor, 1) := by decide +kernel
theorem ef_own_p12_20 (m : MethodId)   : entryFrame m #[(.long (0 : Int64)), (.int (97 : Int32))] 6 = mkF m 0 #[jv (0 : Int64), sc, iv (97 : Int32), un, un, un] [] := by
  first | (simp [entryFrame, mkF, argsToLocals, Value.category]; done) | rfl
set_option maxRecDepth 65536 in
set_option maxHeartbeats 40000000 in
theorem own_p12_20 (l : Launch) (Z : State) (a0 : Array Value) (hw : ∀ d ∈ tables_1, d.before a0 Z = true)   (h : Heap) (n0 : Nat) (hn0 : Old Z n0 h)  :
    Con l Z (⟨"com/example/plantilla/plantilla/PackedName", "appended", "(JC)J"⟩ : MethodName) prog_35_method_2_code 6 (some .long) ({ frames := 1, cells := 0, slots := 0, locals := 13 } : Room) #[(.long (0 : Int64)), (.int (97 : Int32))] h n0 (fun v h' => v = some (.long (1 : Int64)) ∧ h = h') := by
  refine con_of hw (plainFor_of_name pn_com_example_plantilla_plantilla_PackedName) hn0 ?_
  intro p e s m below meth c T0 C X0
  refine Go.cast (congrArg T0.setTop (ef_own_p12_20 m )) ?_
  refine go_iloadN C X0 1 rfl d12_0 rfl ?_
  refine go_callS C X0 (C.w 67 rfl) (C.w 68 rfl) (C.w 65 rfl) (C.w 69 rfl) (own_p13_21 l Z a0 C.ws  h n0 X0.old ) (argsL := [(.int (97 : Int32))]) (rest := []) (lenOf pd_4 rfl) rfl (by decide) (by decide) (Nat.le_of_ble_eq_true rfl) (by decide) (by decide) rfl rfl (pc' := 4) rfl d12_1 ?_
  rintro T1 _ _ ⟨rfl, rfl⟩ X2
  show Go p e below _ (T1.setTop (mkF m 4 #[jv (0 : Int64), sc, iv (97 : Int32), un, un, un] [(.int (1 : Int32))]))
  refine go_i2l C X2 5 rfl d12_4 ?_
  show Go p e below _ (T1.setTop (mkF m 5 #[jv (0 : Int64), sc, iv (97 : Int32), un, un, un] [(.long (1 : Int64))]))
  refine go_lstoreN C X2 6 rfl d12_5 #[jv (0 : Int64), sc, iv (97 : Int32), jv (1 : Int64), sc, un] rfl ?_
  refine go_lloadN C X2 7 rfl d12_6 rfl ?_
  refine go_ldc2Long C X2 (C.w 70 rfl) (pc' := 10) rfl d12_7 ?_
  refine go_lif_lt C X2 (pc1 := 11) rfl d12_10 d12_11 (pc' := 14) (pc2 := 18) rfl (by decide) (by decide) (fun (c11 : 0 < 18014398509481984) => ?_) (fun (c11 : 18014398509481984 ≤ 0) => False.elim (by first | omega | exact absurd c11 (by decide)))
  refine go_iconst C X2 19 rfl d12_18 (z := 0) rfl ?_
  refine go_istore C X2 21 rfl d12_19 #[jv (0 : Int64), sc, iv (97 : Int32), jv (1 : Int64), sc, iv (0 : Int32)] rfl ?_
  refine go_lloadN C X2 22 rfl d12_21 rfl ?_
  refine go_ldc2Long C X2 (C.w 71 rfl) (pc' := 25) rfl d12_22 ?_
  refine go_lif_eq C X2 (pc1 := 26) rfl d12_25 d12_26 (pc' := 29) (pc2 := 40) rfl (by decide) (by decide) (fun (c26 : (0 : Int64) = (-1 : Int64)) => False.elim (by first | omega | exact absurd c26 (by decide))) (fun (c26 : ¬ (0 : Int64) = (-1 : Int64)) => ?_)
  refine go_lloadN C X2 30 rfl d12_29 rfl ?_
  refine go_lconst C X2 31 rfl d12_30 (z := 0) rfl ?_
  refine go_lif_eq C X2 (pc1 := 32) rfl d12_31 d12_32 (pc' := 35) (pc2 := 40) rfl (by decide) (by decide) (fun (c32 : (1 : Int64) = (0 : Int64)) => False.elim (by first | omega | exact absurd c32 (by decide))) (fun (c32 : ¬ (1 : Int64) = (0 : Int64)) => ?_)
  refine go_iload C X2 37 rfl d12_35 rfl ?_
  refine go_if_eq C X2 d12_37 (pc' := 40) (pc2 := 46) rfl (by decide) (by decide) (fun (c37 : (0 : Int32) = (0 : Int32)) => ?_) (fun (c37 : ¬ (0 : Int32) = (0 : Int32)) => False.elim (by first | omega | exact absurd c37 (by decide)))
  refine go_lloadN C X2 47 rfl d12_46 rfl ?_
  refine go_bipush C X2 49 rfl d12_47 (z := 6) rfl ?_
  refine go_lshl C X2 50 rfl d12_49 ?_
  show Go p e below _ (T1.setTop (mkF m 50 #[jv (0 : Int64), sc, iv (97 : Int32), jv (1 : Int64), sc, iv (0 : Int32)] [(.long (0 : Int64))]))
  refine go_lloadN C X2 51 rfl d12_50 rfl ?_
  refine go_lorL C X2 52 rfl d12_51 (z := (1)) rfl ?_
  exact go_retJ C X2 d12_52 ⟨rfl, rfl⟩ (by decide) (by decide)
theorem ef_own_u7_18 (m : MethodId) (a : Addr)  : entryFrame m #[(.ref a), (.int (97 : Int32)), (.int (0 : Int32))] 5 = mkF m 0 #[rv a, iv (97 : Int32), iv (0 : Int32), un, un] [] := by
  first | (simp [entryFrame, mkF, argsToLocals, Value.category]; done) | rfl
set_option maxRecDepth 65536 in
set_option maxHeartbeats 40000000 in
theorem own_u7_18 (l : Launch) (Z : State) (a0 : Array Value) (hw : ∀ d ∈ tables_1, d.before a0 Z = true) (a : Addr)  (h : Heap) (n0 : Nat) (hn0 : Old Z n0 h) (E0 : Exa Z h a "com/example/plantilla/plantilla/UrlValue") (FF0 : Fld Z h a "com/example/plantilla/plantilla/UrlValue" "start" "J" (.long (0 : Int64))) (FF1 : Fld Z h a "com/example/plantilla/plantilla/UrlValue" "begun" "Z" (.int (0 : Int32))) (FF2 : Fld Z h a "com/example/plantilla/plantilla/UrlValue" "schemeLike" "Z" (.int (1 : Int32))) (FF3 : Fld Z h a "com/example/plantilla/plantilla/UrlValue" "delimited" "Z" (.int (0 : Int32))) (FF4 : Fld Z h a "com/example/plantilla/plantilla/UrlValue" "query" "Z" (.int (0 : Int32))) (FF5 : Fld Z h a "com/example/plantilla/plantilla/UrlValue" "reference" "Z" (.int (0 : Int32))) (FF6 : Fld Z h a "com/example/plantilla/plantilla/UrlValue" "holding" "Z" (.int (0 : Int32))) (FF7 : Fld Z h a "com/example/plantilla/plantilla/UrlValue" "referenceOpen" "Z" (.int (0 : Int32))) (ga : n0 ≤ a)  :
    Con l Z (⟨"com/example/plantilla/plantilla/UrlValue", "take", "(CZ)Z"⟩ : MethodName) prog_44_method_13_code 5 (some .boolean) ({ frames := 2, cells := 0, slots := 0, locals := 31 } : Room) #[(.ref a), (.int (97 : Int32)), (.int (0 : Int32))] h n0 (fun v h' => v = some (.int (1 : Int32)) ∧ Keep h h' [a] ∧ Exa Z h' a "com/example/plantilla/plantilla/UrlValue" ∧ Fld Z h' a "com/example/plantilla/plantilla/UrlValue" "start" "J" (.long (1 : Int64)) ∧ Fld Z h' a "com/example/plantilla/plantilla/UrlValue" "begun" "Z" (.int (1 : Int32)) ∧ Fld Z h' a "com/example/plantilla/plantilla/UrlValue" "schemeLike" "Z" (.int (1 : Int32)) ∧ Fld Z h' a "com/example/plantilla/plantilla/UrlValue" "delimited" "Z" (.int (0 : Int32)) ∧ Fld Z h' a "com/example/plantilla/plantilla/UrlValue" "query" "Z" (.int (0 : Int32)) ∧ Fld Z h' a "com/example/plantilla/plantilla/UrlValue" "reference" "Z" (.int (0 : Int32)) ∧ Fld Z h' a "com/example/plantilla/plantilla/UrlValue" "holding" "Z" (.int (0 : Int32)) ∧ Fld Z h' a "com/example/plantilla/plantilla/UrlValue" "referenceOpen" "Z" (.int (0 : Int32))) := by
  refine con_of hw (plainFor_of_name pn_com_example_plantilla_plantilla_UrlValue) hn0 ?_
  intro p e s m below meth c T0 C X0
  refine Go.cast (congrArg T0.setTop (ef_own_u7_18 m a)) ?_
  refine go_aloadN C X0 1 rfl d7_0 rfl rfl ?_
  refine go_getF C X0 (C.w 36 rfl) Via.refl FF7 (pc' := 4) rfl d7_1 (fun T1 X2 => ?_)
  refine go_if_eq C X2 d7_4 (pc' := 7) (pc2 := 18) rfl (by decide) (by decide) (fun (c4 : (0 : Int32) = (0 : Int32)) => ?_) (fun (c4 : ¬ (0 : Int32) = (0 : Int32)) => False.elim (by first | omega | exact absurd c4 (by decide)))
  refine go_iconst C X2 19 rfl d7_18 (z := 0) rfl ?_
  refine go_istoreN C X2 20 rfl d7_19 #[rv a, iv (97 : Int32), iv (0 : Int32), iv (0 : Int32), un] rfl ?_
  refine go_aloadN C X2 21 rfl d7_20 rfl rfl ?_
  refine go_iloadN C X2 22 rfl d7_21 rfl ?_
  refine go_if_eq C X2 d7_22 (pc' := 25) (pc2 := 62) rfl (by decide) (by decide) (fun (c22 : (0 : Int32) = (0 : Int32)) => ?_) (fun (c22 : ¬ (0 : Int32) = (0 : Int32)) => False.elim (by first | omega | exact absurd c22 (by decide)))
  refine go_iconst C X2 63 rfl d7_62 (z := 0) rfl ?_
  refine go_putFN C X2 (C.w 36 rfl) Via.refl FF7 E0 (Or.inl (C.w 37 rfl)) (C.w 9 rfl) ga (ty := .boolean) (by decide) (v' := (.int (0 : Int32))) rfl rfl (pc' := 66) rfl d7_63 (fun T3 h5 W6 X4 => ?_)
  have F7 := FF7.same W6
  have E8 := E0.wr W6
  have F9 := FF0.other W6 (Or.inr (slot_ne (Or.inl (C.w 23 rfl)) (Or.inl (C.w 37 rfl)) (by decide) (t := .long) (t' := .boolean) (by decide) (by decide)))
  have F10 := FF1.other W6 (Or.inr (slot_ne (Or.inl (C.w 25 rfl)) (Or.inl (C.w 37 rfl)) (by decide) (t := .boolean) (t' := .boolean) (by decide) (by decide)))
  have F11 := FF2.other W6 (Or.inr (slot_ne (Or.inl (C.w 27 rfl)) (Or.inl (C.w 37 rfl)) (by decide) (t := .boolean) (t' := .boolean) (by decide) (by decide)))
  have F12 := FF3.other W6 (Or.inr (slot_ne (Or.inl (C.w 29 rfl)) (Or.inl (C.w 37 rfl)) (by decide) (t := .boolean) (t' := .boolean) (by decide) (by decide)))
  have F13 := FF4.other W6 (Or.inr (slot_ne (Or.inl (C.w 31 rfl)) (Or.inl (C.w 37 rfl)) (by decide) (t := .boolean) (t' := .boolean) (by decide) (by decide)))
  have F14 := FF5.other W6 (Or.inr (slot_ne (Or.inl (C.w 33 rfl)) (Or.inl (C.w 37 rfl)) (by decide) (t := .boolean) (t' := .boolean) (by decide) (by decide)))
  have F15 := FF6.other W6 (Or.inr (slot_ne (Or.inl (C.w 35 rfl)) (Or.inl (C.w 37 rfl)) (by decide) (t := .boolean) (t' := .boolean) (by decide) (by decide)))
  have K16 := (Keep.refl h [a]).wr W6 (Or.inl (List.mem_of_getElem? (i := 0) rfl))
  refine go_iloadN C X4 67 rfl d7_66 rfl ?_
  refine go_bipush C X4 69 rfl d7_67 (z := 9) rfl ?_
  refine go_icmp_eq C X4 d7_69 (pc' := 72) (pc2 := 97) rfl (by decide) (by decide) (fun (c69 : (97 : Int32) = (9 : Int32)) => False.elim (by first | omega | exact absurd c69 (by decide))) (fun (c69 : ¬ (97 : Int32) = (9 : Int32)) => ?_)
  refine go_iloadN C X4 73 rfl d7_72 rfl ?_
  refine go_bipush C X4 75 rfl d7_73 (z := 10) rfl ?_
  refine go_icmp_eq C X4 d7_75 (pc' := 78) (pc2 := 97) rfl (by decide) (by decide) (fun (c75 : (97 : Int32) = (10 : Int32)) => False.elim (by first | omega | exact absurd c75 (by decide))) (fun (c75 : ¬ (97 : Int32) = (10 : Int32)) => ?_)
  refine go_iloadN C X4 79 rfl d7_78 rfl ?_
  refine go_bipush C X4 81 rfl d7_79 (z := 13) rfl ?_
  refine go_icmp_eq C X4 d7_81 (pc' := 84) (pc2 := 97) rfl (by decide) (by decide) (fun (c81 : (97 : Int32) = (13 : Int32)) => False.elim (by first | omega | exact absurd c81 (by decide))) (fun (c81 : ¬ (97 : Int32) = (13 : Int32)) => ?_)
  refine go_aloadN C X4 85 rfl d7_84 rfl rfl ?_
  refine go_getF C X4 (C.w 24 rfl) Via.refl F10 (pc' := 88) rfl d7_85 (fun T17 X18 => ?_)
  refine go_if_ne C X18 d7_88 (pc' := 91) (pc2 := 99) rfl (by decide) (by decide) (fun (c88 : ¬ (0 : Int32) = (0 : Int32)) => False.elim (by first | omega | exact absurd c88 (by decide))) (fun (c88 : (0 : Int32) = (0 : Int32)) => ?_)
  refine go_iloadN C X18 92 rfl d7_91 rfl ?_
  refine go_bipush C X18 94 rfl d7_92 (z := 32) rfl ?_
  refine go_icmp_gt C X18 d7_94 (pc' := 97) (pc2 := 99) rfl (by decide) (by decide) (fun (c94 : 32 < 97) => ?_) (fun (c94 : 97 ≤ 32) => False.elim (by first | omega | exact absurd c94 (by decide)))
  refine go_aloadN C X18 100 rfl d7_99 rfl rfl ?_
  refine go_iconst C X18 101 rfl d7_100 (z := 1) rfl ?_
  refine go_putFN C X18 (C.w 24 rfl) Via.refl F10 E8 (Or.inl (C.w 25 rfl)) (C.w 9 rfl) ga (ty := .boolean) (by decide) (v' := (.int (1 : Int32))) rfl rfl (pc' := 104) rfl d7_101 (fun T19 h21 W22 X20 => ?_)
  have F23 := F10.same W22
  have E24 := E8.wr W22
  have F25 := F9.other W22 (Or.inr (slot_ne (Or.inl (C.w 23 rfl)) (Or.inl (C.w 25 rfl)) (by decide) (t := .long) (t' := .boolean) (by decide) (by decide)))
  have F26 := F11.other W22 (Or.inr (slot_ne (Or.inl (C.w 27 rfl)) (Or.inl (C.w 25 rfl)) (by decide) (t := .boolean) (t' := .boolean) (by decide) (by decide)))
  have F27 := F12.other W22 (Or.inr (slot_ne (Or.inl (C.w 29 rfl)) (Or.inl (C.w 25 rfl)) (by decide) (t := .boolean) (t' := .boolean) (by decide) (by decide)))
  have F28 := F13.other W22 (Or.inr (slot_ne (Or.inl (C.w 31 rfl)) (Or.inl (C.w 25 rfl)) (by decide) (t := .boolean) (t' := .boolean) (by decide) (by decide)))
  have F29 := F14.other W22 (Or.inr (slot_ne (Or.inl (C.w 33 rfl)) (Or.inl (C.w 25 rfl)) (by decide) (t := .boolean) (t' := .boolean) (by decide) (by decide)))
  have F30 := F15.other W22 (Or.inr (slot_ne (Or.inl (C.w 35 rfl)) (Or.inl (C.w 25 rfl)) (by decide) (t := .boolean) (t' := .boolean) (by decide) (by decide)))
  have F31 := F7.other W22 (Or.inr (slot_ne (Or.inl (C.w 37 rfl)) (Or.inl (C.w 25 rfl)) (by decide) (t := .boolean) (t' := .boolean) (by decide) (by decide)))
  have K32 := K16.wr W22 (Or.inl (List.mem_of_getElem? (i := 0) rfl))
  refine go_iconst C X20 105 rfl d7_104 (z := 0) rfl ?_
  refine go_istore C X20 107 rfl d7_105 #[rv a, iv (97 : Int32), iv (0 : Int32), iv (0 : Int32), iv (0 : Int32)] rfl ?_
  refine go_iloadN C X20 108 rfl d7_107 rfl ?_
  refine go_bipush C X20 110 rfl d7_108 (z := 63) rfl ?_
  refine go_icmp_eq C X20 d7_110 (pc' := 113) (pc2 := 123) rfl (by decide) (by decide) (fun (c110 : (97 : Int32) = (63 : Int32)) => False.elim (by first | omega | exact absurd c110 (by decide))) (fun (c110 : ¬ (97 : Int32) = (63 : Int32)) => ?_)
  refine go_iloadN C X20 114 rfl d7_113 rfl ?_
  refine go_bipush C X20 116 rfl d7_114 (z := 35) rfl ?_
  refine go_icmp_ne C X20 d7_116 (pc' := 119) (pc2 := 141) rfl (by decide) (by decide) (fun (c116 : ¬ (97 : Int32) = (35 : Int32)) => ?_) (fun (c116 : (97 : Int32) = (35 : Int32)) => False.elim (by first | omega | exact absurd c116 (by decide)))
  refine go_iloadN C X20 142 rfl d7_141 rfl ?_
  refine go_bipush C X20 144 rfl d7_142 (z := 58) rfl ?_
  refine go_icmp_eq C X20 d7_144 (pc' := 147) (pc2 := 153) rfl (by decide) (by decide) (fun (c144 : (97 : Int32) = (58 : Int32)) => False.elim (by first | omega | exact absurd c144 (by decide))) (fun (c144 : ¬ (97 : Int32) = (58 : Int32)) => ?_)
  refine go_iloadN C X20 148 rfl d7_147 rfl ?_
  refine go_bipush C X20 150 rfl d7_148 (z := 47) rfl ?_
  refine go_icmp_ne C X20 d7_150 (pc' := 153) (pc2 := 161) rfl (by decide) (by decide) (fun (c150 : ¬ (97 : Int32) = (47 : Int32)) => ?_) (fun (c150 : (97 : Int32) = (47 : Int32)) => False.elim (by first | omega | exact absurd c150 (by decide)))
  refine go_aloadN C X20 162 rfl d7_161 rfl rfl ?_
  refine go_getF C X20 (C.w 28 rfl) Via.refl F27 (pc' := 165) rfl d7_162 (fun T33 X34 => ?_)
  refine go_if_ne C X34 d7_165 (pc' := 168) (pc2 := 236) rfl (by decide) (by decide) (fun (c165 : ¬ (0 : Int32) = (0 : Int32)) => False.elim (by first | omega | exact absurd c165 (by decide))) (fun (c165 : (0 : Int32) = (0 : Int32)) => ?_)
  refine go_aloadN C X34 169 rfl d7_168 rfl rfl ?_
  refine go_dup C X34 170 rfl d7_169 rfl ?_
  refine go_getF C X34 (C.w 32 rfl) Via.refl F29 (pc' := 173) rfl d7_170 (fun T35 X36 => ?_)
  refine go_iloadN C X36 174 rfl d7_173 rfl ?_
  refine go_if_eq C X36 d7_174 (pc' := 177) (pc2 := 187) rfl (by decide) (by decide) (fun (c174 : (0 : Int32) = (0 : Int32)) => ?_) (fun (c174 : ¬ (0 : Int32) = (0 : Int32)) => False.elim (by first | omega | exact absurd c174 (by decide)))
  refine go_iconst C X36 188 rfl d7_187 (z := 0) rfl ?_
  refine go_iorL C X36 189 rfl d7_188 (z := (0)) rfl ?_
  refine go_putFN C X36 (C.w 32 rfl) Via.refl F29 E24 (Or.inl (C.w 33 rfl)) (C.w 9 rfl) ga (ty := .boolean) (by decide) (v' := (.int (0 : Int32))) rfl rfl (pc' := 192) rfl d7_189 (fun T37 h39 W40 X38 => ?_)
  have F41 := F29.same W40
  have E42 := E24.wr W40
  have F43 := F25.other W40 (Or.inr (slot_ne (Or.inl (C.w 23 rfl)) (Or.inl (C.w 33 rfl)) (by decide) (t := .long) (t' := .boolean) (by decide) (by decide)))
  have F44 := F23.other W40 (Or.inr (slot_ne (Or.inl (C.w 25 rfl)) (Or.inl (C.w 33 rfl)) (by decide) (t := .boolean) (t' := .boolean) (by decide) (by decide)))
  have F45 := F26.other W40 (Or.inr (slot_ne (Or.inl (C.w 27 rfl)) (Or.inl (C.w 33 rfl)) (by decide) (t := .boolean) (t' := .boolean) (by decide) (by decide)))
  have F46 := F27.other W40 (Or.inr (slot_ne (Or.inl (C.w 29 rfl)) (Or.inl (C.w 33 rfl)) (by decide) (t := .boolean) (t' := .boolean) (by decide) (by decide)))
  have F47 := F28.other W40 (Or.inr (slot_ne (Or.inl (C.w 31 rfl)) (Or.inl (C.w 33 rfl)) (by decide) (t := .boolean) (t' := .boolean) (by decide) (by decide)))
  have F48 := F30.other W40 (Or.inr (slot_ne (Or.inl (C.w 35 rfl)) (Or.inl (C.w 33 rfl)) (by decide) (t := .boolean) (t' := .boolean) (by decide) (by decide)))
  have F49 := F31.other W40 (Or.inr (slot_ne (Or.inl (C.w 37 rfl)) (Or.inl (C.w 33 rfl)) (by decide) (t := .boolean) (t' := .boolean) (by decide) (by decide)))
  have K50 := K32.wr W40 (Or.inl (List.mem_of_getElem? (i := 0) rfl))
  refine go_aloadN C X38 193 rfl d7_192 rfl rfl ?_
  refine go_dup C X38 194 rfl d7_193 rfl ?_
  refine go_getF C X38 (C.w 26 rfl) Via.refl F45 (pc' := 197) rfl d7_194 (fun T51 X52 => ?_)
  refine go_aloadN C X52 198 rfl d7_197 rfl rfl ?_
  refine go_getF C X52 (C.w 22 rfl) Via.refl F43 (pc' := 201) rfl d7_198 (fun T53 X54 => ?_)
  refine go_lconst C X54 202 rfl d7_201 (z := 0) rfl ?_
  refine go_lif_ne C X54 (pc1 := 203) rfl d7_202 d7_203 (pc' := 206) (pc2 := 213) rfl (by decide) (by decide) (fun (c203 : ¬ (0 : Int64) = (0 : Int64)) => False.elim (by first | omega | exact absurd c203 (by decide))) (fun (c203 : (0 : Int64) = (0 : Int64)) => ?_)
  refine go_iloadN C X54 207 rfl d7_206 rfl ?_
  refine go_callS C X54 (C.w 60 rfl) (C.w 61 rfl) (C.w 10 rfl) (C.w 62 rfl) (own_p11_19 l Z a0 C.ws  h39 n0 X54.old ) (argsL := [(.int (97 : Int32))]) (rest := [(.int (1 : Int32)), (.ref a)]) (lenOf pd_0 rfl) rfl (by decide) (by decide) (Nat.le_of_ble_eq_true rfl) (by decide) (by decide) rfl rfl (pc' := 210) rfl d7_207 ?_
  rintro T55 _ _ ⟨rfl, rfl⟩ X56
  show Go p e below _ (T55.setTop (mkF m 210 #[rv a, iv (97 : Int32), iv (0 : Int32), iv (0 : Int32), iv (0 : Int32)] [(.int (1 : Int32)), (.int (1 : Int32)), (.ref a)]))
  refine go_goto C X56 d7_210 (pc' := 217) (by decide) (by decide) ?_
  refine go_iandL C X56 218 rfl d7_217 (z := (1)) rfl ?_
  refine go_putFN C X56 (C.w 26 rfl) Via.refl F45 E42 (Or.inl (C.w 27 rfl)) (C.w 9 rfl) ga (ty := .boolean) (by decide) (v' := (.int (1 : Int32))) rfl rfl (pc' := 221) rfl d7_218 (fun T58 h60 W61 X59 => ?_)
  have F62 := F45.same W61
  have E63 := E42.wr W61
  have F64 := F43.other W61 (Or.inr (slot_ne (Or.inl (C.w 23 rfl)) (Or.inl (C.w 27 rfl)) (by decide) (t := .long) (t' := .boolean) (by decide) (by decide)))
  have F65 := F44.other W61 (Or.inr (slot_ne (Or.inl (C.w 25 rfl)) (Or.inl (C.w 27 rfl)) (by decide) (t := .boolean) (t' := .boolean) (by decide) (by decide)))
  have F66 := F46.other W61 (Or.inr (slot_ne (Or.inl (C.w 29 rfl)) (Or.inl (C.w 27 rfl)) (by decide) (t := .boolean) (t' := .boolean) (by decide) (by decide)))
  have F67 := F47.other W61 (Or.inr (slot_ne (Or.inl (C.w 31 rfl)) (Or.inl (C.w 27 rfl)) (by decide) (t := .boolean) (t' := .boolean) (by decide) (by decide)))
  have F68 := F41.other W61 (Or.inr (slot_ne (Or.inl (C.w 33 rfl)) (Or.inl (C.w 27 rfl)) (by decide) (t := .boolean) (t' := .boolean) (by decide) (by decide)))
  have F69 := F48.other W61 (Or.inr (slot_ne (Or.inl (C.w 35 rfl)) (Or.inl (C.w 27 rfl)) (by decide) (t := .boolean) (t' := .boolean) (by decide) (by decide)))
  have F70 := F49.other W61 (Or.inr (slot_ne (Or.inl (C.w 37 rfl)) (Or.inl (C.w 27 rfl)) (by decide) (t := .boolean) (t' := .boolean) (by decide) (by decide)))
  have K71 := K50.wr W61 (Or.inl (List.mem_of_getElem? (i := 0) rfl))
  refine go_aloadN C X59 222 rfl d7_221 rfl rfl ?_
  refine go_aloadN C X59 223 rfl d7_222 rfl rfl ?_
  refine go_getF C X59 (C.w 22 rfl) Via.refl F64 (pc' := 226) rfl d7_223 (fun T72 X73 => ?_)
  refine go_iloadN C X73 227 rfl d7_226 rfl ?_
  refine go_callS C X73 (C.w 63 rfl) (C.w 64 rfl) (C.w 65 rfl) (C.w 66 rfl) (own_p12_20 l Z a0 C.ws  h60 n0 X73.old ) (argsL := [(.long (0 : Int64)), (.int (97 : Int32))]) (rest := [(.ref a)]) (lenOf pd_5 rfl) rfl (by decide) (by decide) (Nat.le_of_ble_eq_true rfl) (by decide) (by decide) rfl rfl (pc' := 230) rfl d7_227 ?_
  rintro T74 _ _ ⟨rfl, rfl⟩ X75
  show Go p e below _ (T74.setTop (mkF m 230 #[rv a, iv (97 : Int32), iv (0 : Int32), iv (0 : Int32), iv (0 : Int32)] [(.long (1 : Int64)), (.ref a)]))
  refine go_putF C X75 (C.w 22 rfl) Via.refl F64 E63 (Or.inl (C.w 23 rfl)) (C.w 9 rfl) ga (ty := .long) (by decide) rfl rfl (pc' := 233) rfl d7_230 (fun T77 h79 W80 X78 => ?_)
  have F81 := F64.same W80
  have E82 := E63.wr W80
  have F83 := F65.other W80 (Or.inr (slot_ne (Or.inl (C.w 25 rfl)) (Or.inl (C.w 23 rfl)) (by decide) (t := .boolean) (t' := .long) (by decide) (by decide)))
  have F84 := F62.other W80 (Or.inr (slot_ne (Or.inl (C.w 27 rfl)) (Or.inl (C.w 23 rfl)) (by decide) (t := .boolean) (t' := .long) (by decide) (by decide)))
  have F85 := F66.other W80 (Or.inr (slot_ne (Or.inl (C.w 29 rfl)) (Or.inl (C.w 23 rfl)) (by decide) (t := .boolean) (t' := .long) (by decide) (by decide)))
  have F86 := F67.other W80 (Or.inr (slot_ne (Or.inl (C.w 31 rfl)) (Or.inl (C.w 23 rfl)) (by decide) (t := .boolean) (t' := .long) (by decide) (by decide)))
  have F87 := F68.other W80 (Or.inr (slot_ne (Or.inl (C.w 33 rfl)) (Or.inl (C.w 23 rfl)) (by decide) (t := .boolean) (t' := .long) (by decide) (by decide)))
  have F88 := F69.other W80 (Or.inr (slot_ne (Or.inl (C.w 35 rfl)) (Or.inl (C.w 23 rfl)) (by decide) (t := .boolean) (t' := .long) (by decide) (by decide)))
  have F89 := F70.other W80 (Or.inr (slot_ne (Or.inl (C.w 37 rfl)) (Or.inl (C.w 23 rfl)) (by decide) (t := .boolean) (t' := .long) (by decide) (by decide)))
  have K90 := K71.wr W80 (Or.inl (List.mem_of_getElem? (i := 0) rfl))
  refine go_iconst C X78 234 rfl d7_233 (z := 1) rfl ?_
  refine go_istore C X78 236 rfl d7_234 #[rv a, iv (97 : Int32), iv (0 : Int32), iv (0 : Int32), iv (1 : Int32)] rfl ?_
  refine go_iload C X78 238 rfl d7_236 rfl ?_
  exact go_retN C X78 (by simp) (z' := 1) rfl d7_238 ⟨rfl, K90, E82, F81, F83, F84, F85, F86, F87, F88, F89⟩ (by decide) (by decide)
theorem d18_66 : decode prog_44_method_11_code 66 = .ok (.invokevirtual 51, 3) := by decide +kernel
theorem d18_69 : decode prog_44_method_11_code 69 = .ok (.ior, 1) := by decide +kernel
theorem d18_70 : decode prog_44_method_11_code 70 = .ok (.istore_n 3, 1) := by decide +kernel
theorem d18_71 : decode prog_44_method_11_code 71 = .ok (.iinc 4 1, 3) := by decide +kernel
theorem d18_74 : decode prog_44_method_11_code 74 = .ok (.goto (-51), 3) := by decide +kernel
theorem ef_own_pc_25 (m : MethodId) (fv : Value) (hfv : fv.isRef = true) : entryFrame m #[(.int (1 : Int32)), (.int (12 : Int32)), fv] 3 = mkF m 0 #[iv (1 : Int32), iv (12 : Int32), .val fv] [] := by
  cases fv <;> first | (cases hfv; done) | skip
  all_goals first | (simp [entryFrame, mkF, argsToLocals, Value.category]; done) | rfl
set_option maxRecDepth 65536 in
set_option maxHeartbeats 40000000 in
theorem own_pc_25 (l : Launch) (Z : State) (a0 : Array Value) (hw : ∀ d ∈ tables_1, d.before a0 Z = true) (fv : Value)  (h : Heap) (n0 : Nat) (hn0 : Old Z n0 h) (hfv : fv.isRef = true)  :
    Con l Z (⟨"jdk/internal/util/Preconditions", "checkIndex", "(IILjava/util/function/BiFunction;)I"⟩ : MethodName) jdk_41_method_11_code 3 (some .int) ({ frames := 0, cells := 0, slots := 0, locals := 0 } : Room) #[(.int (1 : Int32)), (.int (12 : Int32)), fv] h n0 (fun v h' => v = some (.int (1 : Int32)) ∧ h = h') := by
  refine con_of hw (plainFor_of_name pn_jdk_internal_util_Preconditions) hn0 ?_
  intro p e s m below meth c T0 C X0
  refine Go.cast (congrArg T0.setTop (ef_own_pc_25 m fv hfv)) ?_
  refine go_iloadN C X0 1 rfl d25_0 rfl ?_
  refine go_if_lt C X0 d25_1 (pc' := 4) (pc2 := 9) rfl (by decide) (by decide) (fun (c1 : 1 < 0) => False.elim (by first | omega | exact absurd c1 (by decide))) (fun (c1 : 0 ≤ 1) => ?_)
  refine go_iloadN C X0 5 rfl d25_4 rfl ?_
  refine go_iloadN C X0 6 rfl d25_5 rfl ?_
  refine go_icmp_lt C X0 d25_6 (pc' := 9) (pc2 := 16) rfl (by decide) (by decide) (fun (c6 : 1 < 12) => ?_) (fun (c6 : 12 ≤ 1) => False.elim (by first | omega | exact absurd c6 (by decide)))
  refine go_iloadN C X0 17 rfl d25_16 rfl ?_
  exact go_retI C X0 d25_17 ⟨rfl, rfl⟩ (by decide) (by decide)
theorem ef_own_sc_24 (m : MethodId)   : entryFrame m #[(.int (1 : Int32)), (.int (12 : Int32))] 2 = mkF m 0 #[iv (1 : Int32), iv (12 : Int32)] [] := by
  first | (simp [entryFrame, mkF, argsToLocals, Value.category]; done) | rfl
set_option maxRecDepth 65536 in
set_option maxHeartbeats 40000000 in
theorem own_sc_24 (l : Launch) (Z : State) (a0 : Array Value) (hw : ∀ d ∈ tables_1, d.before a0 Z = true)  (cs : Int32) (fv : Value) (h : Heap) (n0 : Nat) (hn0 : Old Z n0 h) (hcs : ¬ cs = 0) (S1 : Sta Z Z.heap "java/lang/String" "COMPACT_STRINGS" "Z" (.int cs)) (hfv : fv.isRef = true) (S2 : Sta Z Z.heap "jdk/internal/util/Preconditions" "SIOOBE_FORMATTER" "Ljava/util/function/BiFunction;" fv) :
    Con l Z (⟨"java/lang/String", "checkIndex", "(II)V"⟩ : MethodName) jdk_42_method_155_code 2 none ({ frames := 1, cells := 0, slots := 0, locals := 14 } : Room) #[(.int (1 : Int32)), (.int (12 : Int32))] h n0 (fun v h' => v = none ∧ h = h') := by
  refine con_of hw (plainFor_of_name pn_java_lang_String) hn0 ?_
  intro p e s m below meth c T0 C X0
  refine Go.cast (congrArg T0.setTop (ef_own_sc_24 m )) ?_
  refine go_iloadN C X0 1 rfl d24_0 rfl ?_
  refine go_iloadN C X0 2 rfl d24_1 rfl ?_
  refine go_getS C X0 (C.w 127 rfl) (S2.ext X0.old.2) (pc' := 5) rfl d24_2 (fun T1 X2 => ?_)
  refine go_callS C X2 (C.w 129 rfl) (C.w 130 rfl) (C.w 128 rfl) (C.w 131 rfl) (own_pc_25 l Z a0 C.ws fv h n0 X2.old hfv) (argsL := [(.int (1 : Int32)), (.int (12 : Int32)), fv]) (rest := []) (lenOf pd_10 rfl) rfl (by decide) (by decide) (Nat.le_of_ble_eq_true rfl) (by decide) (by decide) rfl rfl (pc' := 8) rfl d24_5 ?_
  rintro T3 _ _ ⟨rfl, rfl⟩ X4
  show Go p e below _ (T3.setTop (mkF m 8 #[iv (1 : Int32), iv (12 : Int32)] [(.int (1 : Int32))]))
  refine go_pop C X4 9 rfl d24_8 rfl ?_
  exact go_ret0 C X4 d24_9 ⟨rfl, rfl⟩ (by decide) (by decide)
theorem ef_own_lc_23 (m : MethodId) (sb : Addr)  : entryFrame m #[(.ref sb), (.int (1 : Int32))] 2 = mkF m 0 #[rv sb, iv (1 : Int32)] [] := by
  first | (simp [entryFrame, mkF, argsToLocals, Value.category]; done) | rfl
set_option maxRecDepth 65536 in
set_option maxHeartbeats 40000000 in
theorem own_lc_23 (l : Launch) (Z : State) (a0 : Array Value) (hw : ∀ d ∈ tables_1, d.before a0 Z = true) (sb : Addr) (cs : Int32) (fv : Value) (h : Heap) (n0 : Nat) (hn0 : Old Z n0 h) (AS : La Z h sb .byte [(.int (97 : Int32)), (.int (97 : Int32)), (.int (97 : Int32)), (.int (97 : Int32)), (.int (97 : Int32)), (.int (97 : Int32)), (.int (97 : Int32)), (.int (97 : Int32)), (.int (97 : Int32)), (.int (97 : Int32)), (.int (97 : Int32)), (.int (97 : Int32))]) (hcs : ¬ cs = 0) (S1 : Sta Z Z.heap "java/lang/String" "COMPACT_STRINGS" "Z" (.int cs)) (hfv : fv.isRef = true) (S2 : Sta Z Z.heap "jdk/internal/util/Preconditions" "SIOOBE_FORMATTER" "Ljava/util/function/BiFunction;" fv) :
    Con l Z (⟨"java/lang/StringLatin1", "charAt", "([BI)C"⟩ : MethodName) jdk_43_method_2_code 2 (some .char) ({ frames := 2, cells := 0, slots := 0, locals := 27 } : Room) #[(.ref sb), (.int (1 : Int32))] h n0 (fun v h' => v = some (.int (97 : Int32)) ∧ h = h') := by
  refine con_of hw (plainFor_of_name pn_java_lang_StringLatin1) hn0 ?_
  intro p e s m below meth c T0 C X0
  refine Go.cast (congrArg T0.setTop (ef_own_lc_23 m sb)) ?_
  refine go_iloadN C X0 1 rfl d23_0 rfl ?_
  refine go_aloadN C X0 2 rfl d23_1 rfl rfl ?_
  refine go_alen C X0 AS (z := (12 : Int32)) rfl (pc' := 3) rfl d23_2 ?_
  refine go_callS C X0 (C.w 124 rfl) (C.w 125 rfl) (C.w 74 rfl) (C.w 126 rfl) (own_sc_24 l Z a0 C.ws cs fv h n0 X0.old hcs S1 hfv S2) (argsL := [(.int (1 : Int32)), (.int (12 : Int32))]) (rest := []) (lenOf pd_11 rfl) rfl (by decide) (by decide) (Nat.le_of_ble_eq_true rfl) (by decide) (by decide) rfl rfl (pc' := 6) rfl d23_3 ?_
  rintro T1 _ _ ⟨rfl, rfl⟩ X2
  show Go p e below _ (T1.setTop (mkF m 6 #[rv sb, iv (1 : Int32)] []))
  refine go_aloadN C X2 7 rfl d23_6 rfl rfl ?_
  refine go_iloadN C X2 8 rfl d23_7 rfl ?_
  refine go_baloadBytes C X2 AS (by decide) (v := (.int (97 : Int32))) rfl (pc' := 9) rfl d23_8 ?_
  refine go_sipush C X2 12 rfl d23_9 (z := 255) rfl ?_
  refine go_iandL C X2 13 rfl d23_12 (z := (97)) rfl ?_
  refine go_i2c C X2 14 rfl d23_13 ?_
  show Go p e below _ (T1.setTop (mkF m 14 #[rv sb, iv (1 : Int32)] [(.int (97 : Int32))]))
  exact go_retN C X2 (by simp) (z' := 97) rfl d23_14 ⟨rfl, rfl⟩ (by decide) (by decide)
theorem ef_own_s21_22 (m : MethodId) (sa : Addr)  : entryFrame m #[(.ref sa), (.int (1 : Int32))] 2 = mkF m 0 #[rv sa, iv (1 : Int32)] [] := by
  first | (simp [entryFrame, mkF, argsToLocals, Value.category]; done) | rfl
set_option maxRecDepth 65536 in
set_option maxHeartbeats 40000000 in
theorem own_s21_22 (l : Launch) (Z : State) (a0 : Array Value) (hw : ∀ d ∈ tables_1, d.before a0 Z = true) (sa : Addr) (sb : Addr) (cs : Int32) (fv : Value) (h : Heap) (n0 : Nat) (hn0 : Old Z n0 h) (ES : Exa Z h sa "java/lang/String") (G1 : Fld Z h sa "java/lang/String" "coder" "B" (.int 0)) (G2 : Fld Z h sa "java/lang/String" "value" "[B" (.ref sb)) (AS : La Z h sb .byte [(.int (97 : Int32)), (.int (97 : Int32)), (.int (97 : Int32)), (.int (97 : Int32)), (.int (97 : Int32)), (.int (97 : Int32)), (.int (97 : Int32)), (.int (97 : Int32)), (.int (97 : Int32)), (.int (97 : Int32)), (.int (97 : Int32)), (.int (97 : Int32))]) (hcs : ¬ cs = 0) (S1 : Sta Z Z.heap "java/lang/String" "COMPACT_STRINGS" "Z" (.int cs)) (hfv : fv.isRef = true) (S2 : Sta Z Z.heap "jdk/internal/util/Preconditions" "SIOOBE_FORMATTER" "Ljava/util/function/BiFunction;" fv) :
    Con l Z (⟨"java/lang/String", "charAt", "(I)C"⟩ : MethodName) jdk_42_method_56_code 2 (some .char) ({ frames := 3, cells := 0, slots := 0, locals := 40 } : Room) #[(.ref sa), (.int (1 : Int32))] h n0 (fun v h' => v = some (.int (97 : Int32)) ∧ h = h') := by
  refine con_of hw (plainFor_of_name pn_java_lang_String) hn0 ?_
  intro p e s m below meth c T0 C X0
  refine Go.cast (congrArg T0.setTop (ef_own_s21_22 m sa)) ?_
  refine go_aloadN C X0 1 rfl d21_0 rfl rfl ?_
  refine go_virtual C X0 ES (C.w 116 rfl) (C.w 117 rfl) (notFace_of_selects (args := #[]) (mvT C.hZ (C.w 119 rfl))) (C.w 119 rfl) (C.w 118 rfl) (C.w 74 rfl) (C.w 120 rfl) (own_s22_14 l Z a0 C.ws sa sb cs fv h n0 X0.old ES G1 G2 AS hcs S1 hfv S2) (argsL := []) (rest := []) (lenOf pd_9 rfl) rfl (by decide) (by decide) (Nat.le_of_ble_eq_true rfl) (by decide) (by decide) rfl rfl (pc' := 4) rfl d21_1 ?_
  rintro T1 _ _ ⟨rfl, rfl⟩ X2
  show Go p e below _ (T1.setTop (mkF m 4 #[rv sa, iv (1 : Int32)] [(.int (1 : Int32))]))
  refine go_if_eq C X2 d21_4 (pc' := 7) (pc2 := 16) rfl (by decide) (by decide) (fun (c4 : (1 : Int32) = (0 : Int32)) => False.elim (by first | omega | exact absurd c4 (by decide))) (fun (c4 : ¬ (1 : Int32) = (0 : Int32)) => ?_)
  refine go_aloadN C X2 8 rfl d21_7 rfl rfl ?_
  refine go_getF C X2 (C.w 92 rfl) Via.refl G2 (pc' := 11) rfl d21_8 (fun T4 X5 => ?_)
  refine go_iloadN C X5 12 rfl d21_11 rfl ?_
  refine go_callS C X5 (C.w 121 rfl) (C.w 122 rfl) (C.w 79 rfl) (C.w 123 rfl) (own_lc_23 l Z a0 C.ws sb cs fv h n0 X5.old AS hcs S1 hfv S2) (argsL := [(.ref sb), (.int (1 : Int32))]) (rest := []) (lenOf pd_12 rfl) rfl (by decide) (by decide) (Nat.le_of_ble_eq_true rfl) (by decide) (by decide) rfl rfl (pc' := 15) rfl d21_12 ?_
  rintro T6 _ _ ⟨rfl, rfl⟩ X7
  show Go p e below _ (T6.setTop (mkF m 15 #[rv sa, iv (1 : Int32)] [(.int (97 : Int32))]))
  exact go_retN C X7 (by simp) (z' := 97) rfl d21_15 ⟨rfl, rfl⟩ (by decide) (by decide)
theorem d7_213 : decode prog_44_method_13_code 213 = .ok (.iload_n 1, 1) := by decide +kernel
theorem d26_0 : decode prog_44_method_17_code 0 = .ok (.iload_n 0, 1) := by decide +kernel
theorem d26_1 : decode prog_44_method_17_code 1 = .ok (.invokestatic 79, 3) := by decide +kernel
theorem d26_4 : decode prog_44_method_17_code 4 = .ok (.ifCond .ne 28, 3) := by decide +kernel
theorem d26_32 : decode prog_44_method_17_code 32 = .ok (.iconst 1, 1) := by decide +kernel
theorem d26_33 : decode prog_44_method_17_code 33 = .ok (.goto 4, 3) := by decide +kernel
theorem d26_37 : decode prog_44_method_17_code 37 = .ok (.ireturn, 1) := by decide +kernel
theorem ef_own_p26_27 (m : MethodId)   : entryFrame m #[(.int (97 : Int32))] 1 = mkF m 0 #[iv (97 : Int32)] [] := by
  first | (simp [entryFrame, mkF, argsToLocals, Value.category]; done) | rfl
set_option maxRecDepth 65536 in
set_option maxHeartbeats 40000000 in
theorem own_p26_27 (l : Launch) (Z : State) (a0 : Array Value) (hw : ∀ d ∈ tables_1, d.before a0 Z = true)   (h : Heap) (n0 : Nat) (hn0 : Old Z n0 h)  :
    Con l Z (⟨"com/example/plantilla/plantilla/UrlValue", "isSchemeCharacter", "(C)Z"⟩ : MethodName) prog_44_method_17_code 1 (some .boolean) ({ frames := 1, cells := 0, slots := 0, locals := 12 } : Room) #[(.int (97 : Int32))] h n0 (fun v h' => v = some (.int (1 : Int32)) ∧ h = h') := by
  refine con_of hw (plainFor_of_name pn_com_example_plantilla_plantilla_UrlValue) hn0 ?_
  intro p e s m below meth c T0 C X0
  refine Go.cast (congrArg T0.setTop (ef_own_p26_27 m )) ?_
  refine go_iloadN C X0 1 rfl d26_0 rfl ?_
  refine go_callS C X0 (C.w 60 rfl) (C.w 61 rfl) (C.w 10 rfl) (C.w 62 rfl) (own_p11_19 l Z a0 C.ws  h n0 X0.old ) (argsL := [(.int (97 : Int32))]) (rest := []) (lenOf pd_0 rfl) rfl (by decide) (by decide) (Nat.le_of_ble_eq_true rfl) (by decide) (by decide) rfl rfl (pc' := 4) rfl d26_1 ?_
  rintro T1 _ _ ⟨rfl, rfl⟩ X2
  show Go p e below _ (T1.setTop (mkF m 4 #[iv (97 : Int32)] [(.int (1 : Int32))]))
  refine go_if_ne C X2 d26_4 (pc' := 7) (pc2 := 32) rfl (by decide) (by decide) (fun (c4 : ¬ (1 : Int32) = (0 : Int32)) => ?_) (fun (c4 : (1 : Int32) = (0 : Int32)) => False.elim (by first | omega | exact absurd c4 (by decide)))
  refine go_iconst C X2 33 rfl d26_32 (z := 1) rfl ?_
  refine go_goto C X2 d26_33 (pc' := 37) (by decide) (by decide) ?_
  exact go_retN C X2 (by simp) (z' := 1) rfl d26_37 ⟨rfl, rfl⟩ (by decide) (by decide)
theorem d7_214 : decode prog_44_method_13_code 214 = .ok (.invokestatic 86, 3) := by decide +kernel
theorem d12_14 : decode prog_35_method_2_code 14 = .ok (.iconst 1, 1) := by decide +kernel
theorem d12_15 : decode prog_35_method_2_code 15 = .ok (.goto 4, 3) := by decide +kernel
theorem ef_own_apM (m : MethodId) (sx : Int64)  : entryFrame m #[(.long sx), (.int (97 : Int32))] 6 = mkF m 0 #[jv sx, sc, iv (97 : Int32), un, un, un] [] := by
  first | (simp [entryFrame, mkF, argsToLocals, Value.category]; done) | rfl
set_option maxRecDepth 65536 in
set_option maxHeartbeats 40000000 in
theorem own_apM (l : Launch) (Z : State) (a0 : Array Value) (hw : ∀ d ∈ tables_1, d.before a0 Z = true) (sx : Int64)  (h : Heap) (n0 : Nat) (hn0 : Old Z n0 h)  :
    Con l Z (⟨"com/example/plantilla/plantilla/PackedName", "appended", "(JC)J"⟩ : MethodName) prog_35_method_2_code 6 (some .long) ({ frames := 1, cells := 0, slots := 0, locals := 13 } : Room) #[(.long sx), (.int (97 : Int32))] h n0 (fun v h' => v = some (.long (own_ap sx)) ∧ h = h') := by
  refine con_of hw (plainFor_of_name pn_com_example_plantilla_plantilla_PackedName) hn0 ?_
  intro p e s m below meth c T0 C X0
  refine Go.cast (congrArg T0.setTop (ef_own_apM m sx)) ?_
  refine go_iloadN C X0 1 rfl d12_0 rfl ?_
  refine go_callS C X0 (C.w 67 rfl) (C.w 68 rfl) (C.w 65 rfl) (C.w 69 rfl) (own_p13_21 l Z a0 C.ws  h n0 X0.old ) (argsL := [(.int (97 : Int32))]) (rest := []) (lenOf pd_4 rfl) rfl (by decide) (by decide) (Nat.le_of_ble_eq_true rfl) (by decide) (by decide) rfl rfl (pc' := 4) rfl d12_1 ?_
  rintro T1 _ _ ⟨rfl, rfl⟩ X2
  show Go p e below _ (T1.setTop (mkF m 4 #[jv sx, sc, iv (97 : Int32), un, un, un] [(.int (1 : Int32))]))
  refine go_i2l C X2 5 rfl d12_4 ?_
  show Go p e below _ (T1.setTop (mkF m 5 #[jv sx, sc, iv (97 : Int32), un, un, un] [(.long (1 : Int64))]))
  refine go_lstoreN C X2 6 rfl d12_5 #[jv sx, sc, iv (97 : Int32), jv (1 : Int64), sc, un] rfl ?_
  refine go_lloadN C X2 7 rfl d12_6 rfl ?_
  refine go_ldc2Long C X2 (C.w 70 rfl) (pc' := 10) rfl d12_7 ?_
  refine go_lif_lt C X2 (pc1 := 11) rfl d12_10 d12_11 (pc' := 14) (pc2 := 18) rfl (by decide) (by decide) (fun (c11 : sx.toInt < 18014398509481984) => ?_) (fun (c11 : 18014398509481984 ≤ sx.toInt) => ?_)
  · refine go_iconst C X2 19 rfl d12_18 (z := 0) rfl ?_
    refine go_istore C X2 21 rfl d12_19 #[jv sx, sc, iv (97 : Int32), jv (1 : Int64), sc, iv (0 : Int32)] rfl ?_
    refine go_lloadN C X2 22 rfl d12_21 rfl ?_
    refine go_ldc2Long C X2 (C.w 71 rfl) (pc' := 25) rfl d12_22 ?_
    refine go_lif_eq C X2 (pc1 := 26) rfl d12_25 d12_26 (pc' := 29) (pc2 := 40) rfl (by decide) (by decide) (fun (c26 : sx = (-1 : Int64)) => ?_) (fun (c26 : ¬ sx = (-1 : Int64)) => ?_)
    · refine go_ldc2Long C X2 (C.w 71 rfl) (pc' := 43) rfl d12_40 ?_
      refine go_goto C X2 d12_43 (pc' := 52) (by decide) (by decide) ?_
      exact go_retJ C X2 d12_52 ⟨by unfold own_ap; first | rw [if_pos c26] | rw [if_neg c26, if_pos (by omega)] | rw [if_neg c26, if_neg (by omega)], rfl⟩ (by decide) (by decide)
    · refine go_lloadN C X2 30 rfl d12_29 rfl ?_
      refine go_lconst C X2 31 rfl d12_30 (z := 0) rfl ?_
      refine go_lif_eq C X2 (pc1 := 32) rfl d12_31 d12_32 (pc' := 35) (pc2 := 40) rfl (by decide) (by decide) (fun (c32 : (1 : Int64) = (0 : Int64)) => False.elim (by first | omega | exact absurd c32 (by decide))) (fun (c32 : ¬ (1 : Int64) = (0 : Int64)) => ?_)
      refine go_iload C X2 37 rfl d12_35 rfl ?_
      refine go_if_eq C X2 d12_37 (pc' := 40) (pc2 := 46) rfl (by decide) (by decide) (fun (c37 : (0 : Int32) = (0 : Int32)) => ?_) (fun (c37 : ¬ (0 : Int32) = (0 : Int32)) => False.elim (by first | omega | exact absurd c37 (by decide)))
      refine go_lloadN C X2 47 rfl d12_46 rfl ?_
      refine go_bipush C X2 49 rfl d12_47 (z := 6) rfl ?_
      refine go_lshl C X2 50 rfl d12_49 ?_
      refine go_lloadN C X2 51 rfl d12_50 rfl ?_
      refine go_lor C X2 52 rfl d12_51 ?_
      exact go_retJ C X2 d12_52 ⟨by unfold own_ap; first | rw [if_pos c26] | rw [if_neg c26, if_pos (by omega)] | rw [if_neg c26, if_neg (by omega)], rfl⟩ (by decide) (by decide)
  · refine go_iconst C X2 15 rfl d12_14 (z := 1) rfl ?_
    refine go_goto C X2 d12_15 (pc' := 19) (by decide) (by decide) ?_
    refine go_istore C X2 21 rfl d12_19 #[jv sx, sc, iv (97 : Int32), jv (1 : Int64), sc, iv (1 : Int32)] rfl ?_
    refine go_lloadN C X2 22 rfl d12_21 rfl ?_
    refine go_ldc2Long C X2 (C.w 71 rfl) (pc' := 25) rfl d12_22 ?_
    refine go_lif_eq C X2 (pc1 := 26) rfl d12_25 d12_26 (pc' := 29) (pc2 := 40) rfl (by decide) (by decide) (fun (c26 : sx = (-1 : Int64)) => ?_) (fun (c26 : ¬ sx = (-1 : Int64)) => ?_)
    · refine go_ldc2Long C X2 (C.w 71 rfl) (pc' := 43) rfl d12_40 ?_
      refine go_goto C X2 d12_43 (pc' := 52) (by decide) (by decide) ?_
      exact go_retJ C X2 d12_52 ⟨by unfold own_ap; first | rw [if_pos c26] | rw [if_neg c26, if_pos (by omega)] | rw [if_neg c26, if_neg (by omega)], rfl⟩ (by decide) (by decide)
    · refine go_lloadN C X2 30 rfl d12_29 rfl ?_
      refine go_lconst C X2 31 rfl d12_30 (z := 0) rfl ?_
      refine go_lif_eq C X2 (pc1 := 32) rfl d12_31 d12_32 (pc' := 35) (pc2 := 40) rfl (by decide) (by decide) (fun (c32 : (1 : Int64) = (0 : Int64)) => False.elim (by first | omega | exact absurd c32 (by decide))) (fun (c32 : ¬ (1 : Int64) = (0 : Int64)) => ?_)
      refine go_iload C X2 37 rfl d12_35 rfl ?_
      refine go_if_eq C X2 d12_37 (pc' := 40) (pc2 := 46) rfl (by decide) (by decide) (fun (c37 : (1 : Int32) = (0 : Int32)) => False.elim (by first | omega | exact absurd c37 (by decide))) (fun (c37 : ¬ (1 : Int32) = (0 : Int32)) => ?_)
      refine go_ldc2Long C X2 (C.w 71 rfl) (pc' := 43) rfl d12_40 ?_
      refine go_goto C X2 d12_43 (pc' := 52) (by decide) (by decide) ?_
      exact go_retJ C X2 d12_52 ⟨by unfold own_ap; first | rw [if_pos c26] | rw [if_neg c26, if_pos (by omega)] | rw [if_neg c26, if_neg (by omega)], rfl⟩ (by decide) (by decide)
theorem ef_own_u7_26 (m : MethodId) (a : Addr)  : entryFrame m #[(.ref a), (.int (97 : Int32)), (.int (0 : Int32))] 5 = mkF m 0 #[rv a, iv (97 : Int32), iv (0 : Int32), un, un] [] := by
  first | (simp [entryFrame, mkF, argsToLocals, Value.category]; done) | rfl
set_option maxRecDepth 65536 in
set_option maxHeartbeats 40000000 in
theorem own_u7_26 (l : Launch) (Z : State) (a0 : Array Value) (hw : ∀ d ∈ tables_1, d.before a0 Z = true) (a : Addr) (sx : Int64)  (h : Heap) (n0 : Nat) (hn0 : Old Z n0 h) (E0 : Exa Z h a "com/example/plantilla/plantilla/UrlValue") (FF0 : Fld Z h a "com/example/plantilla/plantilla/UrlValue" "start" "J" (.long sx)) (FF1 : Fld Z h a "com/example/plantilla/plantilla/UrlValue" "begun" "Z" (.int (1 : Int32))) (FF2 : Fld Z h a "com/example/plantilla/plantilla/UrlValue" "schemeLike" "Z" (.int (1 : Int32))) (FF3 : Fld Z h a "com/example/plantilla/plantilla/UrlValue" "delimited" "Z" (.int (0 : Int32))) (FF4 : Fld Z h a "com/example/plantilla/plantilla/UrlValue" "query" "Z" (.int (0 : Int32))) (FF5 : Fld Z h a "com/example/plantilla/plantilla/UrlValue" "reference" "Z" (.int (0 : Int32))) (FF6 : Fld Z h a "com/example/plantilla/plantilla/UrlValue" "holding" "Z" (.int (0 : Int32))) (FF7 : Fld Z h a "com/example/plantilla/plantilla/UrlValue" "referenceOpen" "Z" (.int (0 : Int32))) (ga : n0 ≤ a) (hsx : ¬ sx = 0)  :
    Con l Z (⟨"com/example/plantilla/plantilla/UrlValue", "take", "(CZ)Z"⟩ : MethodName) prog_44_method_13_code 5 (some .boolean) ({ frames := 2, cells := 0, slots := 0, locals := 31 } : Room) #[(.ref a), (.int (97 : Int32)), (.int (0 : Int32))] h n0 (fun v h' => v = some (.int (1 : Int32)) ∧ Keep h h' [a] ∧ Exa Z h' a "com/example/plantilla/plantilla/UrlValue" ∧ Fld Z h' a "com/example/plantilla/plantilla/UrlValue" "start" "J" (.long (own_ap sx)) ∧ Fld Z h' a "com/example/plantilla/plantilla/UrlValue" "begun" "Z" (.int (1 : Int32)) ∧ Fld Z h' a "com/example/plantilla/plantilla/UrlValue" "schemeLike" "Z" (.int (1 : Int32)) ∧ Fld Z h' a "com/example/plantilla/plantilla/UrlValue" "delimited" "Z" (.int (0 : Int32)) ∧ Fld Z h' a "com/example/plantilla/plantilla/UrlValue" "query" "Z" (.int (0 : Int32)) ∧ Fld Z h' a "com/example/plantilla/plantilla/UrlValue" "reference" "Z" (.int (0 : Int32)) ∧ Fld Z h' a "com/example/plantilla/plantilla/UrlValue" "holding" "Z" (.int (0 : Int32)) ∧ Fld Z h' a "com/example/plantilla/plantilla/UrlValue" "referenceOpen" "Z" (.int (0 : Int32))) := by
  refine con_of hw (plainFor_of_name pn_com_example_plantilla_plantilla_UrlValue) hn0 ?_
  intro p e s m below meth c T0 C X0
  refine Go.cast (congrArg T0.setTop (ef_own_u7_26 m a)) ?_
  refine go_aloadN C X0 1 rfl d7_0 rfl rfl ?_
  refine go_getF C X0 (C.w 36 rfl) Via.refl FF7 (pc' := 4) rfl d7_1 (fun T1 X2 => ?_)
  refine go_if_eq C X2 d7_4 (pc' := 7) (pc2 := 18) rfl (by decide) (by decide) (fun (c4 : (0 : Int32) = (0 : Int32)) => ?_) (fun (c4 : ¬ (0 : Int32) = (0 : Int32)) => False.elim (by first | omega | exact absurd c4 (by decide)))
  refine go_iconst C X2 19 rfl d7_18 (z := 0) rfl ?_
  refine go_istoreN C X2 20 rfl d7_19 #[rv a, iv (97 : Int32), iv (0 : Int32), iv (0 : Int32), un] rfl ?_
  refine go_aloadN C X2 21 rfl d7_20 rfl rfl ?_
  refine go_iloadN C X2 22 rfl d7_21 rfl ?_
  refine go_if_eq C X2 d7_22 (pc' := 25) (pc2 := 62) rfl (by decide) (by decide) (fun (c22 : (0 : Int32) = (0 : Int32)) => ?_) (fun (c22 : ¬ (0 : Int32) = (0 : Int32)) => False.elim (by first | omega | exact absurd c22 (by decide)))
  refine go_iconst C X2 63 rfl d7_62 (z := 0) rfl ?_
  refine go_putFN C X2 (C.w 36 rfl) Via.refl FF7 E0 (Or.inl (C.w 37 rfl)) (C.w 9 rfl) ga (ty := .boolean) (by decide) (v' := (.int (0 : Int32))) rfl rfl (pc' := 66) rfl d7_63 (fun T3 h5 W6 X4 => ?_)
  have F7 := FF7.same W6
  have E8 := E0.wr W6
  have F9 := FF0.other W6 (Or.inr (slot_ne (Or.inl (C.w 23 rfl)) (Or.inl (C.w 37 rfl)) (by decide) (t := .long) (t' := .boolean) (by decide) (by decide)))
  have F10 := FF1.other W6 (Or.inr (slot_ne (Or.inl (C.w 25 rfl)) (Or.inl (C.w 37 rfl)) (by decide) (t := .boolean) (t' := .boolean) (by decide) (by decide)))
  have F11 := FF2.other W6 (Or.inr (slot_ne (Or.inl (C.w 27 rfl)) (Or.inl (C.w 37 rfl)) (by decide) (t := .boolean) (t' := .boolean) (by decide) (by decide)))
  have F12 := FF3.other W6 (Or.inr (slot_ne (Or.inl (C.w 29 rfl)) (Or.inl (C.w 37 rfl)) (by decide) (t := .boolean) (t' := .boolean) (by decide) (by decide)))
  have F13 := FF4.other W6 (Or.inr (slot_ne (Or.inl (C.w 31 rfl)) (Or.inl (C.w 37 rfl)) (by decide) (t := .boolean) (t' := .boolean) (by decide) (by decide)))
  have F14 := FF5.other W6 (Or.inr (slot_ne (Or.inl (C.w 33 rfl)) (Or.inl (C.w 37 rfl)) (by decide) (t := .boolean) (t' := .boolean) (by decide) (by decide)))
  have F15 := FF6.other W6 (Or.inr (slot_ne (Or.inl (C.w 35 rfl)) (Or.inl (C.w 37 rfl)) (by decide) (t := .boolean) (t' := .boolean) (by decide) (by decide)))
  have K16 := (Keep.refl h [a]).wr W6 (Or.inl (List.mem_of_getElem? (i := 0) rfl))
  refine go_iloadN C X4 67 rfl d7_66 rfl ?_
  refine go_bipush C X4 69 rfl d7_67 (z := 9) rfl ?_
  refine go_icmp_eq C X4 d7_69 (pc' := 72) (pc2 := 97) rfl (by decide) (by decide) (fun (c69 : (97 : Int32) = (9 : Int32)) => False.elim (by first | omega | exact absurd c69 (by decide))) (fun (c69 : ¬ (97 : Int32) = (9 : Int32)) => ?_)
  refine go_iloadN C X4 73 rfl d7_72 rfl ?_
  refine go_bipush C X4 75 rfl d7_73 (z := 10) rfl ?_
  refine go_icmp_eq C X4 d7_75 (pc' := 78) (pc2 := 97) rfl (by decide) (by decide) (fun (c75 : (97 : Int32) = (10 : Int32)) => False.elim (by first | omega | exact absurd c75 (by decide))) (fun (c75 : ¬ (97 : Int32) = (10 : Int32)) => ?_)
  refine go_iloadN C X4 79 rfl d7_78 rfl ?_
  refine go_bipush C X4 81 rfl d7_79 (z := 13) rfl ?_
  refine go_icmp_eq C X4 d7_81 (pc' := 84) (pc2 := 97) rfl (by decide) (by decide) (fun (c81 : (97 : Int32) = (13 : Int32)) => False.elim (by first | omega | exact absurd c81 (by decide))) (fun (c81 : ¬ (97 : Int32) = (13 : Int32)) => ?_)
  refine go_aloadN C X4 85 rfl d7_84 rfl rfl ?_
  refine go_getF C X4 (C.w 24 rfl) Via.refl F10 (pc' := 88) rfl d7_85 (fun T17 X18 => ?_)
  refine go_if_ne C X18 d7_88 (pc' := 91) (pc2 := 99) rfl (by decide) (by decide) (fun (c88 : ¬ (1 : Int32) = (0 : Int32)) => ?_) (fun (c88 : (1 : Int32) = (0 : Int32)) => False.elim (by first | omega | exact absurd c88 (by decide)))
  refine go_aloadN C X18 100 rfl d7_99 rfl rfl ?_
  refine go_iconst C X18 101 rfl d7_100 (z := 1) rfl ?_
  refine go_putFN C X18 (C.w 24 rfl) Via.refl F10 E8 (Or.inl (C.w 25 rfl)) (C.w 9 rfl) ga (ty := .boolean) (by decide) (v' := (.int (1 : Int32))) rfl rfl (pc' := 104) rfl d7_101 (fun T19 h21 W22 X20 => ?_)
  have F23 := F10.same W22
  have E24 := E8.wr W22
  have F25 := F9.other W22 (Or.inr (slot_ne (Or.inl (C.w 23 rfl)) (Or.inl (C.w 25 rfl)) (by decide) (t := .long) (t' := .boolean) (by decide) (by decide)))
  have F26 := F11.other W22 (Or.inr (slot_ne (Or.inl (C.w 27 rfl)) (Or.inl (C.w 25 rfl)) (by decide) (t := .boolean) (t' := .boolean) (by decide) (by decide)))
  have F27 := F12.other W22 (Or.inr (slot_ne (Or.inl (C.w 29 rfl)) (Or.inl (C.w 25 rfl)) (by decide) (t := .boolean) (t' := .boolean) (by decide) (by decide)))
  have F28 := F13.other W22 (Or.inr (slot_ne (Or.inl (C.w 31 rfl)) (Or.inl (C.w 25 rfl)) (by decide) (t := .boolean) (t' := .boolean) (by decide) (by decide)))
  have F29 := F14.other W22 (Or.inr (slot_ne (Or.inl (C.w 33 rfl)) (Or.inl (C.w 25 rfl)) (by decide) (t := .boolean) (t' := .boolean) (by decide) (by decide)))
  have F30 := F15.other W22 (Or.inr (slot_ne (Or.inl (C.w 35 rfl)) (Or.inl (C.w 25 rfl)) (by decide) (t := .boolean) (t' := .boolean) (by decide) (by decide)))
  have F31 := F7.other W22 (Or.inr (slot_ne (Or.inl (C.w 37 rfl)) (Or.inl (C.w 25 rfl)) (by decide) (t := .boolean) (t' := .boolean) (by decide) (by decide)))
  have K32 := K16.wr W22 (Or.inl (List.mem_of_getElem? (i := 0) rfl))
  refine go_iconst C X20 105 rfl d7_104 (z := 0) rfl ?_
  refine go_istore C X20 107 rfl d7_105 #[rv a, iv (97 : Int32), iv (0 : Int32), iv (0 : Int32), iv (0 : Int32)] rfl ?_
  refine go_iloadN C X20 108 rfl d7_107 rfl ?_
  refine go_bipush C X20 110 rfl d7_108 (z := 63) rfl ?_
  refine go_icmp_eq C X20 d7_110 (pc' := 113) (pc2 := 123) rfl (by decide) (by decide) (fun (c110 : (97 : Int32) = (63 : Int32)) => False.elim (by first | omega | exact absurd c110 (by decide))) (fun (c110 : ¬ (97 : Int32) = (63 : Int32)) => ?_)
  refine go_iloadN C X20 114 rfl d7_113 rfl ?_
  refine go_bipush C X20 116 rfl d7_114 (z := 35) rfl ?_
  refine go_icmp_ne C X20 d7_116 (pc' := 119) (pc2 := 141) rfl (by decide) (by decide) (fun (c116 : ¬ (97 : Int32) = (35 : Int32)) => ?_) (fun (c116 : (97 : Int32) = (35 : Int32)) => False.elim (by first | omega | exact absurd c116 (by decide)))
  refine go_iloadN C X20 142 rfl d7_141 rfl ?_
  refine go_bipush C X20 144 rfl d7_142 (z := 58) rfl ?_
  refine go_icmp_eq C X20 d7_144 (pc' := 147) (pc2 := 153) rfl (by decide) (by decide) (fun (c144 : (97 : Int32) = (58 : Int32)) => False.elim (by first | omega | exact absurd c144 (by decide))) (fun (c144 : ¬ (97 : Int32) = (58 : Int32)) => ?_)
  refine go_iloadN C X20 148 rfl d7_147 rfl ?_
  refine go_bipush C X20 150 rfl d7_148 (z := 47) rfl ?_
  refine go_icmp_ne C X20 d7_150 (pc' := 153) (pc2 := 161) rfl (by decide) (by decide) (fun (c150 : ¬ (97 : Int32) = (47 : Int32)) => ?_) (fun (c150 : (97 : Int32) = (47 : Int32)) => False.elim (by first | omega | exact absurd c150 (by decide)))
  refine go_aloadN C X20 162 rfl d7_161 rfl rfl ?_
  refine go_getF C X20 (C.w 28 rfl) Via.refl F27 (pc' := 165) rfl d7_162 (fun T33 X34 => ?_)
  refine go_if_ne C X34 d7_165 (pc' := 168) (pc2 := 236) rfl (by decide) (by decide) (fun (c165 : ¬ (0 : Int32) = (0 : Int32)) => False.elim (by first | omega | exact absurd c165 (by decide))) (fun (c165 : (0 : Int32) = (0 : Int32)) => ?_)
  refine go_aloadN C X34 169 rfl d7_168 rfl rfl ?_
  refine go_dup C X34 170 rfl d7_169 rfl ?_
  refine go_getF C X34 (C.w 32 rfl) Via.refl F29 (pc' := 173) rfl d7_170 (fun T35 X36 => ?_)
  refine go_iloadN C X36 174 rfl d7_173 rfl ?_
  refine go_if_eq C X36 d7_174 (pc' := 177) (pc2 := 187) rfl (by decide) (by decide) (fun (c174 : (0 : Int32) = (0 : Int32)) => ?_) (fun (c174 : ¬ (0 : Int32) = (0 : Int32)) => False.elim (by first | omega | exact absurd c174 (by decide)))
  refine go_iconst C X36 188 rfl d7_187 (z := 0) rfl ?_
  refine go_iorL C X36 189 rfl d7_188 (z := (0)) rfl ?_
  refine go_putFN C X36 (C.w 32 rfl) Via.refl F29 E24 (Or.inl (C.w 33 rfl)) (C.w 9 rfl) ga (ty := .boolean) (by decide) (v' := (.int (0 : Int32))) rfl rfl (pc' := 192) rfl d7_189 (fun T37 h39 W40 X38 => ?_)
  have F41 := F29.same W40
  have E42 := E24.wr W40
  have F43 := F25.other W40 (Or.inr (slot_ne (Or.inl (C.w 23 rfl)) (Or.inl (C.w 33 rfl)) (by decide) (t := .long) (t' := .boolean) (by decide) (by decide)))
  have F44 := F23.other W40 (Or.inr (slot_ne (Or.inl (C.w 25 rfl)) (Or.inl (C.w 33 rfl)) (by decide) (t := .boolean) (t' := .boolean) (by decide) (by decide)))
  have F45 := F26.other W40 (Or.inr (slot_ne (Or.inl (C.w 27 rfl)) (Or.inl (C.w 33 rfl)) (by decide) (t := .boolean) (t' := .boolean) (by decide) (by decide)))
  have F46 := F27.other W40 (Or.inr (slot_ne (Or.inl (C.w 29 rfl)) (Or.inl (C.w 33 rfl)) (by decide) (t := .boolean) (t' := .boolean) (by decide) (by decide)))
  have F47 := F28.other W40 (Or.inr (slot_ne (Or.inl (C.w 31 rfl)) (Or.inl (C.w 33 rfl)) (by decide) (t := .boolean) (t' := .boolean) (by decide) (by decide)))
  have F48 := F30.other W40 (Or.inr (slot_ne (Or.inl (C.w 35 rfl)) (Or.inl (C.w 33 rfl)) (by decide) (t := .boolean) (t' := .boolean) (by decide) (by decide)))
  have F49 := F31.other W40 (Or.inr (slot_ne (Or.inl (C.w 37 rfl)) (Or.inl (C.w 33 rfl)) (by decide) (t := .boolean) (t' := .boolean) (by decide) (by decide)))
  have K50 := K32.wr W40 (Or.inl (List.mem_of_getElem? (i := 0) rfl))
  refine go_aloadN C X38 193 rfl d7_192 rfl rfl ?_
  refine go_dup C X38 194 rfl d7_193 rfl ?_
  refine go_getF C X38 (C.w 26 rfl) Via.refl F45 (pc' := 197) rfl d7_194 (fun T51 X52 => ?_)
  refine go_aloadN C X52 198 rfl d7_197 rfl rfl ?_
  refine go_getF C X52 (C.w 22 rfl) Via.refl F43 (pc' := 201) rfl d7_198 (fun T53 X54 => ?_)
  refine go_lconst C X54 202 rfl d7_201 (z := 0) rfl ?_
  refine go_lif_ne C X54 (pc1 := 203) rfl d7_202 d7_203 (pc' := 206) (pc2 := 213) rfl (by decide) (by decide) (fun (c203 : ¬ sx = (0 : Int64)) => ?_) (fun (c203 : sx = (0 : Int64)) => False.elim (hsx c203))
  refine go_iloadN C X54 214 rfl d7_213 rfl ?_
  refine go_callS C X54 (C.w 135 rfl) (C.w 136 rfl) (C.w 10 rfl) (C.w 137 rfl) (own_p26_27 l Z a0 C.ws  h39 n0 X54.old ) (argsL := [(.int (97 : Int32))]) (rest := [(.int (1 : Int32)), (.ref a)]) (lenOf pd_0 rfl) rfl (by decide) (by decide) (Nat.le_of_ble_eq_true rfl) (by decide) (by decide) rfl rfl (pc' := 217) rfl d7_214 ?_
  rintro T55 _ _ ⟨rfl, rfl⟩ X56
  show Go p e below _ (T55.setTop (mkF m 217 #[rv a, iv (97 : Int32), iv (0 : Int32), iv (0 : Int32), iv (0 : Int32)] [(.int (1 : Int32)), (.int (1 : Int32)), (.ref a)]))
  refine go_iandL C X56 218 rfl d7_217 (z := (1)) rfl ?_
  refine go_putFN C X56 (C.w 26 rfl) Via.refl F45 E42 (Or.inl (C.w 27 rfl)) (C.w 9 rfl) ga (ty := .boolean) (by decide) (v' := (.int (1 : Int32))) rfl rfl (pc' := 221) rfl d7_218 (fun T58 h60 W61 X59 => ?_)
  have F62 := F45.same W61
  have E63 := E42.wr W61
  have F64 := F43.other W61 (Or.inr (slot_ne (Or.inl (C.w 23 rfl)) (Or.inl (C.w 27 rfl)) (by decide) (t := .long) (t' := .boolean) (by decide) (by decide)))
  have F65 := F44.other W61 (Or.inr (slot_ne (Or.inl (C.w 25 rfl)) (Or.inl (C.w 27 rfl)) (by decide) (t := .boolean) (t' := .boolean) (by decide) (by decide)))
  have F66 := F46.other W61 (Or.inr (slot_ne (Or.inl (C.w 29 rfl)) (Or.inl (C.w 27 rfl)) (by decide) (t := .boolean) (t' := .boolean) (by decide) (by decide)))
  have F67 := F47.other W61 (Or.inr (slot_ne (Or.inl (C.w 31 rfl)) (Or.inl (C.w 27 rfl)) (by decide) (t := .boolean) (t' := .boolean) (by decide) (by decide)))
  have F68 := F41.other W61 (Or.inr (slot_ne (Or.inl (C.w 33 rfl)) (Or.inl (C.w 27 rfl)) (by decide) (t := .boolean) (t' := .boolean) (by decide) (by decide)))
  have F69 := F48.other W61 (Or.inr (slot_ne (Or.inl (C.w 35 rfl)) (Or.inl (C.w 27 rfl)) (by decide) (t := .boolean) (t' := .boolean) (by decide) (by decide)))
  have F70 := F49.other W61 (Or.inr (slot_ne (Or.inl (C.w 37 rfl)) (Or.inl (C.w 27 rfl)) (by decide) (t := .boolean) (t' := .boolean) (by decide) (by decide)))
  have K71 := K50.wr W61 (Or.inl (List.mem_of_getElem? (i := 0) rfl))
  refine go_aloadN C X59 222 rfl d7_221 rfl rfl ?_
  refine go_aloadN C X59 223 rfl d7_222 rfl rfl ?_
  refine go_getF C X59 (C.w 22 rfl) Via.refl F64 (pc' := 226) rfl d7_223 (fun T72 X73 => ?_)
  refine go_iloadN C X73 227 rfl d7_226 rfl ?_
  refine go_callS C X73 (C.w 63 rfl) (C.w 64 rfl) (C.w 65 rfl) (C.w 66 rfl) (own_apM l Z a0 C.ws sx h60 n0 X73.old) (argsL := [(.long sx), (.int (97 : Int32))]) (rest := [(.ref a)]) (lenOf pd_5 rfl) rfl (by decide) (by decide) (Nat.le_of_ble_eq_true rfl) (by decide) (by decide) rfl rfl (pc' := 230) rfl d7_227 ?_
  rintro T74 _ _ ⟨rfl, rfl⟩ X75
  show Go p e below _ (T74.setTop (mkF m 230 #[rv a, iv (97 : Int32), iv (0 : Int32), iv (0 : Int32), iv (0 : Int32)] [(.long (own_ap sx)), (.ref a)]))
  refine go_putF C X75 (C.w 22 rfl) Via.refl F64 E63 (Or.inl (C.w 23 rfl)) (C.w 9 rfl) ga (ty := .long) (by decide) rfl rfl (pc' := 233) rfl d7_230 (fun T77 h79 W80 X78 => ?_)
  have F81 := F64.same W80
  have E82 := E63.wr W80
  have F83 := F65.other W80 (Or.inr (slot_ne (Or.inl (C.w 25 rfl)) (Or.inl (C.w 23 rfl)) (by decide) (t := .boolean) (t' := .long) (by decide) (by decide)))
  have F84 := F62.other W80 (Or.inr (slot_ne (Or.inl (C.w 27 rfl)) (Or.inl (C.w 23 rfl)) (by decide) (t := .boolean) (t' := .long) (by decide) (by decide)))
  have F85 := F66.other W80 (Or.inr (slot_ne (Or.inl (C.w 29 rfl)) (Or.inl (C.w 23 rfl)) (by decide) (t := .boolean) (t' := .long) (by decide) (by decide)))
  have F86 := F67.other W80 (Or.inr (slot_ne (Or.inl (C.w 31 rfl)) (Or.inl (C.w 23 rfl)) (by decide) (t := .boolean) (t' := .long) (by decide) (by decide)))
  have F87 := F68.other W80 (Or.inr (slot_ne (Or.inl (C.w 33 rfl)) (Or.inl (C.w 23 rfl)) (by decide) (t := .boolean) (t' := .long) (by decide) (by decide)))
  have F88 := F69.other W80 (Or.inr (slot_ne (Or.inl (C.w 35 rfl)) (Or.inl (C.w 23 rfl)) (by decide) (t := .boolean) (t' := .long) (by decide) (by decide)))
  have F89 := F70.other W80 (Or.inr (slot_ne (Or.inl (C.w 37 rfl)) (Or.inl (C.w 23 rfl)) (by decide) (t := .boolean) (t' := .long) (by decide) (by decide)))
  have K90 := K71.wr W80 (Or.inl (List.mem_of_getElem? (i := 0) rfl))
  refine go_iconst C X78 234 rfl d7_233 (z := 1) rfl ?_
  refine go_istore C X78 236 rfl d7_234 #[rv a, iv (97 : Int32), iv (0 : Int32), iv (0 : Int32), iv (1 : Int32)] rfl ?_
  refine go_iload C X78 238 rfl d7_236 rfl ?_
  exact go_retN C X78 (by simp) (z' := 1) rfl d7_238 ⟨rfl, K90, E82, F81, F83, F84, F85, F86, F87, F88, F89⟩ (by decide) (by decide)
theorem ef_own_pc_31 (m : MethodId) (fv : Value) (hfv : fv.isRef = true) : entryFrame m #[(.int (2 : Int32)), (.int (12 : Int32)), fv] 3 = mkF m 0 #[iv (2 : Int32), iv (12 : Int32), .val fv] [] := by
  cases fv <;> first | (cases hfv; done) | skip
  all_goals first | (simp [entryFrame, mkF, argsToLocals, Value.category]; done) | rfl
set_option maxRecDepth 65536 in
set_option maxHeartbeats 40000000 in
theorem own_pc_31 (l : Launch) (Z : State) (a0 : Array Value) (hw : ∀ d ∈ tables_1, d.before a0 Z = true) (fv : Value)  (h : Heap) (n0 : Nat) (hn0 : Old Z n0 h) (hfv : fv.isRef = true)  :
    Con l Z (⟨"jdk/internal/util/Preconditions", "checkIndex", "(IILjava/util/function/BiFunction;)I"⟩ : MethodName) jdk_41_method_11_code 3 (some .int) ({ frames := 0, cells := 0, slots := 0, locals := 0 } : Room) #[(.int (2 : Int32)), (.int (12 : Int32)), fv] h n0 (fun v h' => v = some (.int (2 : Int32)) ∧ h = h') := by
  refine con_of hw (plainFor_of_name pn_jdk_internal_util_Preconditions) hn0 ?_
  intro p e s m below meth c T0 C X0
  refine Go.cast (congrArg T0.setTop (ef_own_pc_31 m fv hfv)) ?_
  refine go_iloadN C X0 1 rfl d25_0 rfl ?_
  refine go_if_lt C X0 d25_1 (pc' := 4) (pc2 := 9) rfl (by decide) (by decide) (fun (c1 : 2 < 0) => False.elim (by first | omega | exact absurd c1 (by decide))) (fun (c1 : 0 ≤ 2) => ?_)
  refine go_iloadN C X0 5 rfl d25_4 rfl ?_
  refine go_iloadN C X0 6 rfl d25_5 rfl ?_
  refine go_icmp_lt C X0 d25_6 (pc' := 9) (pc2 := 16) rfl (by decide) (by decide) (fun (c6 : 2 < 12) => ?_) (fun (c6 : 12 ≤ 2) => False.elim (by first | omega | exact absurd c6 (by decide)))
  refine go_iloadN C X0 17 rfl d25_16 rfl ?_
  exact go_retI C X0 d25_17 ⟨rfl, rfl⟩ (by decide) (by decide)
theorem ef_own_sc_30 (m : MethodId)   : entryFrame m #[(.int (2 : Int32)), (.int (12 : Int32))] 2 = mkF m 0 #[iv (2 : Int32), iv (12 : Int32)] [] := by
  first | (simp [entryFrame, mkF, argsToLocals, Value.category]; done) | rfl
set_option maxRecDepth 65536 in
set_option maxHeartbeats 40000000 in
theorem own_sc_30 (l : Launch) (Z : State) (a0 : Array Value) (hw : ∀ d ∈ tables_1, d.before a0 Z = true)  (cs : Int32) (fv : Value) (h : Heap) (n0 : Nat) (hn0 : Old Z n0 h) (hcs : ¬ cs = 0) (S1 : Sta Z Z.heap "java/lang/String" "COMPACT_STRINGS" "Z" (.int cs)) (hfv : fv.isRef = true) (S2 : Sta Z Z.heap "jdk/internal/util/Preconditions" "SIOOBE_FORMATTER" "Ljava/util/function/BiFunction;" fv) :
    Con l Z (⟨"java/lang/String", "checkIndex", "(II)V"⟩ : MethodName) jdk_42_method_155_code 2 none ({ frames := 1, cells := 0, slots := 0, locals := 14 } : Room) #[(.int (2 : Int32)), (.int (12 : Int32))] h n0 (fun v h' => v = none ∧ h = h') := by
  refine con_of hw (plainFor_of_name pn_java_lang_String) hn0 ?_
  intro p e s m below meth c T0 C X0
  refine Go.cast (congrArg T0.setTop (ef_own_sc_30 m )) ?_
  refine go_iloadN C X0 1 rfl d24_0 rfl ?_
  refine go_iloadN C X0 2 rfl d24_1 rfl ?_
  refine go_getS C X0 (C.w 127 rfl) (S2.ext X0.old.2) (pc' := 5) rfl d24_2 (fun T1 X2 => ?_)
  refine go_callS C X2 (C.w 129 rfl) (C.w 130 rfl) (C.w 128 rfl) (C.w 131 rfl) (own_pc_31 l Z a0 C.ws fv h n0 X2.old hfv) (argsL := [(.int (2 : Int32)), (.int (12 : Int32)), fv]) (rest := []) (lenOf pd_10 rfl) rfl (by decide) (by decide) (Nat.le_of_ble_eq_true rfl) (by decide) (by decide) rfl rfl (pc' := 8) rfl d24_5 ?_
  rintro T3 _ _ ⟨rfl, rfl⟩ X4
  show Go p e below _ (T3.setTop (mkF m 8 #[iv (2 : Int32), iv (12 : Int32)] [(.int (2 : Int32))]))
  refine go_pop C X4 9 rfl d24_8 rfl ?_
  exact go_ret0 C X4 d24_9 ⟨rfl, rfl⟩ (by decide) (by decide)
theorem ef_own_lc_29 (m : MethodId) (sb : Addr)  : entryFrame m #[(.ref sb), (.int (2 : Int32))] 2 = mkF m 0 #[rv sb, iv (2 : Int32)] [] := by
  first | (simp [entryFrame, mkF, argsToLocals, Value.category]; done) | rfl
set_option maxRecDepth 65536 in
set_option maxHeartbeats 40000000 in
theorem own_lc_29 (l : Launch) (Z : State) (a0 : Array Value) (hw : ∀ d ∈ tables_1, d.before a0 Z = true) (sb : Addr) (cs : Int32) (fv : Value) (h : Heap) (n0 : Nat) (hn0 : Old Z n0 h) (AS : La Z h sb .byte [(.int (97 : Int32)), (.int (97 : Int32)), (.int (97 : Int32)), (.int (97 : Int32)), (.int (97 : Int32)), (.int (97 : Int32)), (.int (97 : Int32)), (.int (97 : Int32)), (.int (97 : Int32)), (.int (97 : Int32)), (.int (97 : Int32)), (.int (97 : Int32))]) (hcs : ¬ cs = 0) (S1 : Sta Z Z.heap "java/lang/String" "COMPACT_STRINGS" "Z" (.int cs)) (hfv : fv.isRef = true) (S2 : Sta Z Z.heap "jdk/internal/util/Preconditions" "SIOOBE_FORMATTER" "Ljava/util/function/BiFunction;" fv) :
    Con l Z (⟨"java/lang/StringLatin1", "charAt", "([BI)C"⟩ : MethodName) jdk_43_method_2_code 2 (some .char) ({ frames := 2, cells := 0, slots := 0, locals := 27 } : Room) #[(.ref sb), (.int (2 : Int32))] h n0 (fun v h' => v = some (.int (97 : Int32)) ∧ h = h') := by
  refine con_of hw (plainFor_of_name pn_java_lang_StringLatin1) hn0 ?_
  intro p e s m below meth c T0 C X0
  refine Go.cast (congrArg T0.setTop (ef_own_lc_29 m sb)) ?_
  refine go_iloadN C X0 1 rfl d23_0 rfl ?_
  refine go_aloadN C X0 2 rfl d23_1 rfl rfl ?_
  refine go_alen C X0 AS (z := (12 : Int32)) rfl (pc' := 3) rfl d23_2 ?_
  refine go_callS C X0 (C.w 124 rfl) (C.w 125 rfl) (C.w 74 rfl) (C.w 126 rfl) (own_sc_30 l Z a0 C.ws cs fv h n0 X0.old hcs S1 hfv S2) (argsL := [(.int (2 : Int32)), (.int (12 : Int32))]) (rest := []) (lenOf pd_11 rfl) rfl (by decide) (by decide) (Nat.le_of_ble_eq_true rfl) (by decide) (by decide) rfl rfl (pc' := 6) rfl d23_3 ?_
  rintro T1 _ _ ⟨rfl, rfl⟩ X2
  show Go p e below _ (T1.setTop (mkF m 6 #[rv sb, iv (2 : Int32)] []))
  refine go_aloadN C X2 7 rfl d23_6 rfl rfl ?_
  refine go_iloadN C X2 8 rfl d23_7 rfl ?_
  refine go_baloadBytes C X2 AS (by decide) (v := (.int (97 : Int32))) rfl (pc' := 9) rfl d23_8 ?_
  refine go_sipush C X2 12 rfl d23_9 (z := 255) rfl ?_
  refine go_iandL C X2 13 rfl d23_12 (z := (97)) rfl ?_
  refine go_i2c C X2 14 rfl d23_13 ?_
  show Go p e below _ (T1.setTop (mkF m 14 #[rv sb, iv (2 : Int32)] [(.int (97 : Int32))]))
  exact go_retN C X2 (by simp) (z' := 97) rfl d23_14 ⟨rfl, rfl⟩ (by decide) (by decide)
theorem ef_own_s21_28 (m : MethodId) (sa : Addr)  : entryFrame m #[(.ref sa), (.int (2 : Int32))] 2 = mkF m 0 #[rv sa, iv (2 : Int32)] [] := by
  first | (simp [entryFrame, mkF, argsToLocals, Value.category]; done) | rfl
set_option maxRecDepth 65536 in
set_option maxHeartbeats 40000000 in
theorem own_s21_28 (l : Launch) (Z : State) (a0 : Array Value) (hw : ∀ d ∈ tables_1, d.before a0 Z = true) (sa : Addr) (sb : Addr) (cs : Int32) (fv : Value) (h : Heap) (n0 : Nat) (hn0 : Old Z n0 h) (ES : Exa Z h sa "java/lang/String") (G1 : Fld Z h sa "java/lang/String" "coder" "B" (.int 0)) (G2 : Fld Z h sa "java/lang/String" "value" "[B" (.ref sb)) (AS : La Z h sb .byte [(.int (97 : Int32)), (.int (97 : Int32)), (.int (97 : Int32)), (.int (97 : Int32)), (.int (97 : Int32)), (.int (97 : Int32)), (.int (97 : Int32)), (.int (97 : Int32)), (.int (97 : Int32)), (.int (97 : Int32)), (.int (97 : Int32)), (.int (97 : Int32))]) (hcs : ¬ cs = 0) (S1 : Sta Z Z.heap "java/lang/String" "COMPACT_STRINGS" "Z" (.int cs)) (hfv : fv.isRef = true) (S2 : Sta Z Z.heap "jdk/internal/util/Preconditions" "SIOOBE_FORMATTER" "Ljava/util/function/BiFunction;" fv) :
    Con l Z (⟨"java/lang/String", "charAt", "(I)C"⟩ : MethodName) jdk_42_method_56_code 2 (some .char) ({ frames := 3, cells := 0, slots := 0, locals := 40 } : Room) #[(.ref sa), (.int (2 : Int32))] h n0 (fun v h' => v = some (.int (97 : Int32)) ∧ h = h') := by
  refine con_of hw (plainFor_of_name pn_java_lang_String) hn0 ?_
  intro p e s m below meth c T0 C X0
  refine Go.cast (congrArg T0.setTop (ef_own_s21_28 m sa)) ?_
  refine go_aloadN C X0 1 rfl d21_0 rfl rfl ?_
  refine go_virtual C X0 ES (C.w 116 rfl) (C.w 117 rfl) (notFace_of_selects (args := #[]) (mvT C.hZ (C.w 119 rfl))) (C.w 119 rfl) (C.w 118 rfl) (C.w 74 rfl) (C.w 120 rfl) (own_s22_14 l Z a0 C.ws sa sb cs fv h n0 X0.old ES G1 G2 AS hcs S1 hfv S2) (argsL := []) (rest := []) (lenOf pd_9 rfl) rfl (by decide) (by decide) (Nat.le_of_ble_eq_true rfl) (by decide) (by decide) rfl rfl (pc' := 4) rfl d21_1 ?_
  rintro T1 _ _ ⟨rfl, rfl⟩ X2
  show Go p e below _ (T1.setTop (mkF m 4 #[rv sa, iv (2 : Int32)] [(.int (1 : Int32))]))
  refine go_if_eq C X2 d21_4 (pc' := 7) (pc2 := 16) rfl (by decide) (by decide) (fun (c4 : (1 : Int32) = (0 : Int32)) => False.elim (by first | omega | exact absurd c4 (by decide))) (fun (c4 : ¬ (1 : Int32) = (0 : Int32)) => ?_)
  refine go_aloadN C X2 8 rfl d21_7 rfl rfl ?_
  refine go_getF C X2 (C.w 92 rfl) Via.refl G2 (pc' := 11) rfl d21_8 (fun T4 X5 => ?_)
  refine go_iloadN C X5 12 rfl d21_11 rfl ?_
  refine go_callS C X5 (C.w 121 rfl) (C.w 122 rfl) (C.w 79 rfl) (C.w 123 rfl) (own_lc_29 l Z a0 C.ws sb cs fv h n0 X5.old AS hcs S1 hfv S2) (argsL := [(.ref sb), (.int (2 : Int32))]) (rest := []) (lenOf pd_12 rfl) rfl (by decide) (by decide) (Nat.le_of_ble_eq_true rfl) (by decide) (by decide) rfl rfl (pc' := 15) rfl d21_12 ?_
  rintro T6 _ _ ⟨rfl, rfl⟩ X7
  show Go p e below _ (T6.setTop (mkF m 15 #[rv sa, iv (2 : Int32)] [(.int (97 : Int32))]))
  exact go_retN C X7 (by simp) (z' := 97) rfl d21_15 ⟨rfl, rfl⟩ (by decide) (by decide)
theorem ef_own_pc_35 (m : MethodId) (fv : Value) (hfv : fv.isRef = true) : entryFrame m #[(.int (3 : Int32)), (.int (12 : Int32)), fv] 3 = mkF m 0 #[iv (3 : Int32), iv (12 : Int32), .val fv] [] := by
  cases fv <;> first | (cases hfv; done) | skip
  all_goals first | (simp [entryFrame, mkF, argsToLocals, Value.category]; done) | rfl
set_option maxRecDepth 65536 in
set_option maxHeartbeats 40000000 in
theorem own_pc_35 (l : Launch) (Z : State) (a0 : Array Value) (hw : ∀ d ∈ tables_1, d.before a0 Z = true) (fv : Value)  (h : Heap) (n0 : Nat) (hn0 : Old Z n0 h) (hfv : fv.isRef = true)  :
    Con l Z (⟨"jdk/internal/util/Preconditions", "checkIndex", "(IILjava/util/function/BiFunction;)I"⟩ : MethodName) jdk_41_method_11_code 3 (some .int) ({ frames := 0, cells := 0, slots := 0, locals := 0 } : Room) #[(.int (3 : Int32)), (.int (12 : Int32)), fv] h n0 (fun v h' => v = some (.int (3 : Int32)) ∧ h = h') := by
  refine con_of hw (plainFor_of_name pn_jdk_internal_util_Preconditions) hn0 ?_
  intro p e s m below meth c T0 C X0
  refine Go.cast (congrArg T0.setTop (ef_own_pc_35 m fv hfv)) ?_
  refine go_iloadN C X0 1 rfl d25_0 rfl ?_
  refine go_if_lt C X0 d25_1 (pc' := 4) (pc2 := 9) rfl (by decide) (by decide) (fun (c1 : 3 < 0) => False.elim (by first | omega | exact absurd c1 (by decide))) (fun (c1 : 0 ≤ 3) => ?_)
  refine go_iloadN C X0 5 rfl d25_4 rfl ?_
  refine go_iloadN C X0 6 rfl d25_5 rfl ?_
  refine go_icmp_lt C X0 d25_6 (pc' := 9) (pc2 := 16) rfl (by decide) (by decide) (fun (c6 : 3 < 12) => ?_) (fun (c6 : 12 ≤ 3) => False.elim (by first | omega | exact absurd c6 (by decide)))
  refine go_iloadN C X0 17 rfl d25_16 rfl ?_
  exact go_retI C X0 d25_17 ⟨rfl, rfl⟩ (by decide) (by decide)
theorem ef_own_sc_34 (m : MethodId)   : entryFrame m #[(.int (3 : Int32)), (.int (12 : Int32))] 2 = mkF m 0 #[iv (3 : Int32), iv (12 : Int32)] [] := by
  first | (simp [entryFrame, mkF, argsToLocals, Value.category]; done) | rfl
set_option maxRecDepth 65536 in
set_option maxHeartbeats 40000000 in
theorem own_sc_34 (l : Launch) (Z : State) (a0 : Array Value) (hw : ∀ d ∈ tables_1, d.before a0 Z = true)  (cs : Int32) (fv : Value) (h : Heap) (n0 : Nat) (hn0 : Old Z n0 h) (hcs : ¬ cs = 0) (S1 : Sta Z Z.heap "java/lang/String" "COMPACT_STRINGS" "Z" (.int cs)) (hfv : fv.isRef = true) (S2 : Sta Z Z.heap "jdk/internal/util/Preconditions" "SIOOBE_FORMATTER" "Ljava/util/function/BiFunction;" fv) :
    Con l Z (⟨"java/lang/String", "checkIndex", "(II)V"⟩ : MethodName) jdk_42_method_155_code 2 none ({ frames := 1, cells := 0, slots := 0, locals := 14 } : Room) #[(.int (3 : Int32)), (.int (12 : Int32))] h n0 (fun v h' => v = none ∧ h = h') := by
  refine con_of hw (plainFor_of_name pn_java_lang_String) hn0 ?_
  intro p e s m below meth c T0 C X0
  refine Go.cast (congrArg T0.setTop (ef_own_sc_34 m )) ?_
  refine go_iloadN C X0 1 rfl d24_0 rfl ?_
  refine go_iloadN C X0 2 rfl d24_1 rfl ?_
  refine go_getS C X0 (C.w 127 rfl) (S2.ext X0.old.2) (pc' := 5) rfl d24_2 (fun T1 X2 => ?_)
  refine go_callS C X2 (C.w 129 rfl) (C.w 130 rfl) (C.w 128 rfl) (C.w 131 rfl) (own_pc_35 l Z a0 C.ws fv h n0 X2.old hfv) (argsL := [(.int (3 : Int32)), (.int (12 : Int32)), fv]) (rest := []) (lenOf pd_10 rfl) rfl (by decide) (by decide) (Nat.le_of_ble_eq_true rfl) (by decide) (by decide) rfl rfl (pc' := 8) rfl d24_5 ?_
  rintro T3 _ _ ⟨rfl, rfl⟩ X4
  show Go p e below _ (T3.setTop (mkF m 8 #[iv (3 : Int32), iv (12 : Int32)] [(.int (3 : Int32))]))
  refine go_pop C X4 9 rfl d24_8 rfl ?_
  exact go_ret0 C X4 d24_9 ⟨rfl, rfl⟩ (by decide) (by decide)
theorem ef_own_lc_33 (m : MethodId) (sb : Addr)  : entryFrame m #[(.ref sb), (.int (3 : Int32))] 2 = mkF m 0 #[rv sb, iv (3 : Int32)] [] := by
  first | (simp [entryFrame, mkF, argsToLocals, Value.category]; done) | rfl
set_option maxRecDepth 65536 in
set_option maxHeartbeats 40000000 in
theorem own_lc_33 (l : Launch) (Z : State) (a0 : Array Value) (hw : ∀ d ∈ tables_1, d.before a0 Z = true) (sb : Addr) (cs : Int32) (fv : Value) (h : Heap) (n0 : Nat) (hn0 : Old Z n0 h) (AS : La Z h sb .byte [(.int (97 : Int32)), (.int (97 : Int32)), (.int (97 : Int32)), (.int (97 : Int32)), (.int (97 : Int32)), (.int (97 : Int32)), (.int (97 : Int32)), (.int (97 : Int32)), (.int (97 : Int32)), (.int (97 : Int32)), (.int (97 : Int32)), (.int (97 : Int32))]) (hcs : ¬ cs = 0) (S1 : Sta Z Z.heap "java/lang/String" "COMPACT_STRINGS" "Z" (.int cs)) (hfv : fv.isRef = true) (S2 : Sta Z Z.heap "jdk/internal/util/Preconditions" "SIOOBE_FORMATTER" "Ljava/util/function/BiFunction;" fv) :
    Con l Z (⟨"java/lang/StringLatin1", "charAt", "([BI)C"⟩ : MethodName) jdk_43_method_2_code 2 (some .char) ({ frames := 2, cells := 0, slots := 0, locals := 27 } : Room) #[(.ref sb), (.int (3 : Int32))] h n0 (fun v h' => v = some (.int (97 : Int32)) ∧ h = h') := by
  refine con_of hw (plainFor_of_name pn_java_lang_StringLatin1) hn0 ?_
  intro p e s m below meth c T0 C X0
  refine Go.cast (congrArg T0.setTop (ef_own_lc_33 m sb)) ?_
  refine go_iloadN C X0 1 rfl d23_0 rfl ?_
  refine go_aloadN C X0 2 rfl d23_1 rfl rfl ?_
  refine go_alen C X0 AS (z := (12 : Int32)) rfl (pc' := 3) rfl d23_2 ?_
  refine go_callS C X0 (C.w 124 rfl) (C.w 125 rfl) (C.w 74 rfl) (C.w 126 rfl) (own_sc_34 l Z a0 C.ws cs fv h n0 X0.old hcs S1 hfv S2) (argsL := [(.int (3 : Int32)), (.int (12 : Int32))]) (rest := []) (lenOf pd_11 rfl) rfl (by decide) (by decide) (Nat.le_of_ble_eq_true rfl) (by decide) (by decide) rfl rfl (pc' := 6) rfl d23_3 ?_
  rintro T1 _ _ ⟨rfl, rfl⟩ X2
  show Go p e below _ (T1.setTop (mkF m 6 #[rv sb, iv (3 : Int32)] []))
  refine go_aloadN C X2 7 rfl d23_6 rfl rfl ?_
  refine go_iloadN C X2 8 rfl d23_7 rfl ?_
  refine go_baloadBytes C X2 AS (by decide) (v := (.int (97 : Int32))) rfl (pc' := 9) rfl d23_8 ?_
  refine go_sipush C X2 12 rfl d23_9 (z := 255) rfl ?_
  refine go_iandL C X2 13 rfl d23_12 (z := (97)) rfl ?_
  refine go_i2c C X2 14 rfl d23_13 ?_
  show Go p e below _ (T1.setTop (mkF m 14 #[rv sb, iv (3 : Int32)] [(.int (97 : Int32))]))
  exact go_retN C X2 (by simp) (z' := 97) rfl d23_14 ⟨rfl, rfl⟩ (by decide) (by decide)
theorem ef_own_s21_32 (m : MethodId) (sa : Addr)  : entryFrame m #[(.ref sa), (.int (3 : Int32))] 2 = mkF m 0 #[rv sa, iv (3 : Int32)] [] := by
  first | (simp [entryFrame, mkF, argsToLocals, Value.category]; done) | rfl
set_option maxRecDepth 65536 in
set_option maxHeartbeats 40000000 in
theorem own_s21_32 (l : Launch) (Z : State) (a0 : Array Value) (hw : ∀ d ∈ tables_1, d.before a0 Z = true) (sa : Addr) (sb : Addr) (cs : Int32) (fv : Value) (h : Heap) (n0 : Nat) (hn0 : Old Z n0 h) (ES : Exa Z h sa "java/lang/String") (G1 : Fld Z h sa "java/lang/String" "coder" "B" (.int 0)) (G2 : Fld Z h sa "java/lang/String" "value" "[B" (.ref sb)) (AS : La Z h sb .byte [(.int (97 : Int32)), (.int (97 : Int32)), (.int (97 : Int32)), (.int (97 : Int32)), (.int (97 : Int32)), (.int (97 : Int32)), (.int (97 : Int32)), (.int (97 : Int32)), (.int (97 : Int32)), (.int (97 : Int32)), (.int (97 : Int32)), (.int (97 : Int32))]) (hcs : ¬ cs = 0) (S1 : Sta Z Z.heap "java/lang/String" "COMPACT_STRINGS" "Z" (.int cs)) (hfv : fv.isRef = true) (S2 : Sta Z Z.heap "jdk/internal/util/Preconditions" "SIOOBE_FORMATTER" "Ljava/util/function/BiFunction;" fv) :
    Con l Z (⟨"java/lang/String", "charAt", "(I)C"⟩ : MethodName) jdk_42_method_56_code 2 (some .char) ({ frames := 3, cells := 0, slots := 0, locals := 40 } : Room) #[(.ref sa), (.int (3 : Int32))] h n0 (fun v h' => v = some (.int (97 : Int32)) ∧ h = h') := by
  refine con_of hw (plainFor_of_name pn_java_lang_String) hn0 ?_
  intro p e s m below meth c T0 C X0
  refine Go.cast (congrArg T0.setTop (ef_own_s21_32 m sa)) ?_
  refine go_aloadN C X0 1 rfl d21_0 rfl rfl ?_
  refine go_virtual C X0 ES (C.w 116 rfl) (C.w 117 rfl) (notFace_of_selects (args := #[]) (mvT C.hZ (C.w 119 rfl))) (C.w 119 rfl) (C.w 118 rfl) (C.w 74 rfl) (C.w 120 rfl) (own_s22_14 l Z a0 C.ws sa sb cs fv h n0 X0.old ES G1 G2 AS hcs S1 hfv S2) (argsL := []) (rest := []) (lenOf pd_9 rfl) rfl (by decide) (by decide) (Nat.le_of_ble_eq_true rfl) (by decide) (by decide) rfl rfl (pc' := 4) rfl d21_1 ?_
  rintro T1 _ _ ⟨rfl, rfl⟩ X2
  show Go p e below _ (T1.setTop (mkF m 4 #[rv sa, iv (3 : Int32)] [(.int (1 : Int32))]))
  refine go_if_eq C X2 d21_4 (pc' := 7) (pc2 := 16) rfl (by decide) (by decide) (fun (c4 : (1 : Int32) = (0 : Int32)) => False.elim (by first | omega | exact absurd c4 (by decide))) (fun (c4 : ¬ (1 : Int32) = (0 : Int32)) => ?_)
  refine go_aloadN C X2 8 rfl d21_7 rfl rfl ?_
  refine go_getF C X2 (C.w 92 rfl) Via.refl G2 (pc' := 11) rfl d21_8 (fun T4 X5 => ?_)
  refine go_iloadN C X5 12 rfl d21_11 rfl ?_
  refine go_callS C X5 (C.w 121 rfl) (C.w 122 rfl) (C.w 79 rfl) (C.w 123 rfl) (own_lc_33 l Z a0 C.ws sb cs fv h n0 X5.old AS hcs S1 hfv S2) (argsL := [(.ref sb), (.int (3 : Int32))]) (rest := []) (lenOf pd_12 rfl) rfl (by decide) (by decide) (Nat.le_of_ble_eq_true rfl) (by decide) (by decide) rfl rfl (pc' := 15) rfl d21_12 ?_
  rintro T6 _ _ ⟨rfl, rfl⟩ X7
  show Go p e below _ (T6.setTop (mkF m 15 #[rv sa, iv (3 : Int32)] [(.int (97 : Int32))]))
  exact go_retN C X7 (by simp) (z' := 97) rfl d21_15 ⟨rfl, rfl⟩ (by decide) (by decide)
theorem ef_own_pc_39 (m : MethodId) (fv : Value) (hfv : fv.isRef = true) : entryFrame m #[(.int (4 : Int32)), (.int (12 : Int32)), fv] 3 = mkF m 0 #[iv (4 : Int32), iv (12 : Int32), .val fv] [] := by
  cases fv <;> first | (cases hfv; done) | skip
  all_goals first | (simp [entryFrame, mkF, argsToLocals, Value.category]; done) | rfl
set_option maxRecDepth 65536 in
set_option maxHeartbeats 40000000 in
theorem own_pc_39 (l : Launch) (Z : State) (a0 : Array Value) (hw : ∀ d ∈ tables_1, d.before a0 Z = true) (fv : Value)  (h : Heap) (n0 : Nat) (hn0 : Old Z n0 h) (hfv : fv.isRef = true)  :
    Con l Z (⟨"jdk/internal/util/Preconditions", "checkIndex", "(IILjava/util/function/BiFunction;)I"⟩ : MethodName) jdk_41_method_11_code 3 (some .int) ({ frames := 0, cells := 0, slots := 0, locals := 0 } : Room) #[(.int (4 : Int32)), (.int (12 : Int32)), fv] h n0 (fun v h' => v = some (.int (4 : Int32)) ∧ h = h') := by
  refine con_of hw (plainFor_of_name pn_jdk_internal_util_Preconditions) hn0 ?_
  intro p e s m below meth c T0 C X0
  refine Go.cast (congrArg T0.setTop (ef_own_pc_39 m fv hfv)) ?_
  refine go_iloadN C X0 1 rfl d25_0 rfl ?_
  refine go_if_lt C X0 d25_1 (pc' := 4) (pc2 := 9) rfl (by decide) (by decide) (fun (c1 : 4 < 0) => False.elim (by first | omega | exact absurd c1 (by decide))) (fun (c1 : 0 ≤ 4) => ?_)
  refine go_iloadN C X0 5 rfl d25_4 rfl ?_
  refine go_iloadN C X0 6 rfl d25_5 rfl ?_
  refine go_icmp_lt C X0 d25_6 (pc' := 9) (pc2 := 16) rfl (by decide) (by decide) (fun (c6 : 4 < 12) => ?_) (fun (c6 : 12 ≤ 4) => False.elim (by first | omega | exact absurd c6 (by decide)))
  refine go_iloadN C X0 17 rfl d25_16 rfl ?_
  exact go_retI C X0 d25_17 ⟨rfl, rfl⟩ (by decide) (by decide)
theorem ef_own_sc_38 (m : MethodId)   : entryFrame m #[(.int (4 : Int32)), (.int (12 : Int32))] 2 = mkF m 0 #[iv (4 : Int32), iv (12 : Int32)] [] := by
  first | (simp [entryFrame, mkF, argsToLocals, Value.category]; done) | rfl
set_option maxRecDepth 65536 in
set_option maxHeartbeats 40000000 in
theorem own_sc_38 (l : Launch) (Z : State) (a0 : Array Value) (hw : ∀ d ∈ tables_1, d.before a0 Z = true)  (cs : Int32) (fv : Value) (h : Heap) (n0 : Nat) (hn0 : Old Z n0 h) (hcs : ¬ cs = 0) (S1 : Sta Z Z.heap "java/lang/String" "COMPACT_STRINGS" "Z" (.int cs)) (hfv : fv.isRef = true) (S2 : Sta Z Z.heap "jdk/internal/util/Preconditions" "SIOOBE_FORMATTER" "Ljava/util/function/BiFunction;" fv) :
    Con l Z (⟨"java/lang/String", "checkIndex", "(II)V"⟩ : MethodName) jdk_42_method_155_code 2 none ({ frames := 1, cells := 0, slots := 0, locals := 14 } : Room) #[(.int (4 : Int32)), (.int (12 : Int32))] h n0 (fun v h' => v = none ∧ h = h') := by
  refine con_of hw (plainFor_of_name pn_java_lang_String) hn0 ?_
  intro p e s m below meth c T0 C X0
  refine Go.cast (congrArg T0.setTop (ef_own_sc_38 m )) ?_
  refine go_iloadN C X0 1 rfl d24_0 rfl ?_
  refine go_iloadN C X0 2 rfl d24_1 rfl ?_
  refine go_getS C X0 (C.w 127 rfl) (S2.ext X0.old.2) (pc' := 5) rfl d24_2 (fun T1 X2 => ?_)
  refine go_callS C X2 (C.w 129 rfl) (C.w 130 rfl) (C.w 128 rfl) (C.w 131 rfl) (own_pc_39 l Z a0 C.ws fv h n0 X2.old hfv) (argsL := [(.int (4 : Int32)), (.int (12 : Int32)), fv]) (rest := []) (lenOf pd_10 rfl) rfl (by decide) (by decide) (Nat.le_of_ble_eq_true rfl) (by decide) (by decide) rfl rfl (pc' := 8) rfl d24_5 ?_
  rintro T3 _ _ ⟨rfl, rfl⟩ X4
  show Go p e below _ (T3.setTop (mkF m 8 #[iv (4 : Int32), iv (12 : Int32)] [(.int (4 : Int32))]))
  refine go_pop C X4 9 rfl d24_8 rfl ?_
  exact go_ret0 C X4 d24_9 ⟨rfl, rfl⟩ (by decide) (by decide)
theorem ef_own_lc_37 (m : MethodId) (sb : Addr)  : entryFrame m #[(.ref sb), (.int (4 : Int32))] 2 = mkF m 0 #[rv sb, iv (4 : Int32)] [] := by
  first | (simp [entryFrame, mkF, argsToLocals, Value.category]; done) | rfl
set_option maxRecDepth 65536 in
set_option maxHeartbeats 40000000 in
theorem own_lc_37 (l : Launch) (Z : State) (a0 : Array Value) (hw : ∀ d ∈ tables_1, d.before a0 Z = true) (sb : Addr) (cs : Int32) (fv : Value) (h : Heap) (n0 : Nat) (hn0 : Old Z n0 h) (AS : La Z h sb .byte [(.int (97 : Int32)), (.int (97 : Int32)), (.int (97 : Int32)), (.int (97 : Int32)), (.int (97 : Int32)), (.int (97 : Int32)), (.int (97 : Int32)), (.int (97 : Int32)), (.int (97 : Int32)), (.int (97 : Int32)), (.int (97 : Int32)), (.int (97 : Int32))]) (hcs : ¬ cs = 0) (S1 : Sta Z Z.heap "java/lang/String" "COMPACT_STRINGS" "Z" (.int cs)) (hfv : fv.isRef = true) (S2 : Sta Z Z.heap "jdk/internal/util/Preconditions" "SIOOBE_FORMATTER" "Ljava/util/function/BiFunction;" fv) :
    Con l Z (⟨"java/lang/StringLatin1", "charAt", "([BI)C"⟩ : MethodName) jdk_43_method_2_code 2 (some .char) ({ frames := 2, cells := 0, slots := 0, locals := 27 } : Room) #[(.ref sb), (.int (4 : Int32))] h n0 (fun v h' => v = some (.int (97 : Int32)) ∧ h = h') := by
  refine con_of hw (plainFor_of_name pn_java_lang_StringLatin1) hn0 ?_
  intro p e s m below meth c T0 C X0
  refine Go.cast (congrArg T0.setTop (ef_own_lc_37 m sb)) ?_
  refine go_iloadN C X0 1 rfl d23_0 rfl ?_
  refine go_aloadN C X0 2 rfl d23_1 rfl rfl ?_
  refine go_alen C X0 AS (z := (12 : Int32)) rfl (pc' := 3) rfl d23_2 ?_
  refine go_callS C X0 (C.w 124 rfl) (C.w 125 rfl) (C.w 74 rfl) (C.w 126 rfl) (own_sc_38 l Z a0 C.ws cs fv h n0 X0.old hcs S1 hfv S2) (argsL := [(.int (4 : Int32)), (.int (12 : Int32))]) (rest := []) (lenOf pd_11 rfl) rfl (by decide) (by decide) (Nat.le_of_ble_eq_true rfl) (by decide) (by decide) rfl rfl (pc' := 6) rfl d23_3 ?_
  rintro T1 _ _ ⟨rfl, rfl⟩ X2
  show Go p e below _ (T1.setTop (mkF m 6 #[rv sb, iv (4 : Int32)] []))
  refine go_aloadN C X2 7 rfl d23_6 rfl rfl ?_
  refine go_iloadN C X2 8 rfl d23_7 rfl ?_
  refine go_baloadBytes C X2 AS (by decide) (v := (.int (97 : Int32))) rfl (pc' := 9) rfl d23_8 ?_
  refine go_sipush C X2 12 rfl d23_9 (z := 255) rfl ?_
  refine go_iandL C X2 13 rfl d23_12 (z := (97)) rfl ?_
  refine go_i2c C X2 14 rfl d23_13 ?_
  show Go p e below _ (T1.setTop (mkF m 14 #[rv sb, iv (4 : Int32)] [(.int (97 : Int32))]))
  exact go_retN C X2 (by simp) (z' := 97) rfl d23_14 ⟨rfl, rfl⟩ (by decide) (by decide)
theorem ef_own_s21_36 (m : MethodId) (sa : Addr)  : entryFrame m #[(.ref sa), (.int (4 : Int32))] 2 = mkF m 0 #[rv sa, iv (4 : Int32)] [] := by
  first | (simp [entryFrame, mkF, argsToLocals, Value.category]; done) | rfl
set_option maxRecDepth 65536 in
set_option maxHeartbeats 40000000 in
theorem own_s21_36 (l : Launch) (Z : State) (a0 : Array Value) (hw : ∀ d ∈ tables_1, d.before a0 Z = true) (sa : Addr) (sb : Addr) (cs : Int32) (fv : Value) (h : Heap) (n0 : Nat) (hn0 : Old Z n0 h) (ES : Exa Z h sa "java/lang/String") (G1 : Fld Z h sa "java/lang/String" "coder" "B" (.int 0)) (G2 : Fld Z h sa "java/lang/String" "value" "[B" (.ref sb)) (AS : La Z h sb .byte [(.int (97 : Int32)), (.int (97 : Int32)), (.int (97 : Int32)), (.int (97 : Int32)), (.int (97 : Int32)), (.int (97 : Int32)), (.int (97 : Int32)), (.int (97 : Int32)), (.int (97 : Int32)), (.int (97 : Int32)), (.int (97 : Int32)), (.int (97 : Int32))]) (hcs : ¬ cs = 0) (S1 : Sta Z Z.heap "java/lang/String" "COMPACT_STRINGS" "Z" (.int cs)) (hfv : fv.isRef = true) (S2 : Sta Z Z.heap "jdk/internal/util/Preconditions" "SIOOBE_FORMATTER" "Ljava/util/function/BiFunction;" fv) :
    Con l Z (⟨"java/lang/String", "charAt", "(I)C"⟩ : MethodName) jdk_42_method_56_code 2 (some .char) ({ frames := 3, cells := 0, slots := 0, locals := 40 } : Room) #[(.ref sa), (.int (4 : Int32))] h n0 (fun v h' => v = some (.int (97 : Int32)) ∧ h = h') := by
  refine con_of hw (plainFor_of_name pn_java_lang_String) hn0 ?_
  intro p e s m below meth c T0 C X0
  refine Go.cast (congrArg T0.setTop (ef_own_s21_36 m sa)) ?_
  refine go_aloadN C X0 1 rfl d21_0 rfl rfl ?_
  refine go_virtual C X0 ES (C.w 116 rfl) (C.w 117 rfl) (notFace_of_selects (args := #[]) (mvT C.hZ (C.w 119 rfl))) (C.w 119 rfl) (C.w 118 rfl) (C.w 74 rfl) (C.w 120 rfl) (own_s22_14 l Z a0 C.ws sa sb cs fv h n0 X0.old ES G1 G2 AS hcs S1 hfv S2) (argsL := []) (rest := []) (lenOf pd_9 rfl) rfl (by decide) (by decide) (Nat.le_of_ble_eq_true rfl) (by decide) (by decide) rfl rfl (pc' := 4) rfl d21_1 ?_
  rintro T1 _ _ ⟨rfl, rfl⟩ X2
  show Go p e below _ (T1.setTop (mkF m 4 #[rv sa, iv (4 : Int32)] [(.int (1 : Int32))]))
  refine go_if_eq C X2 d21_4 (pc' := 7) (pc2 := 16) rfl (by decide) (by decide) (fun (c4 : (1 : Int32) = (0 : Int32)) => False.elim (by first | omega | exact absurd c4 (by decide))) (fun (c4 : ¬ (1 : Int32) = (0 : Int32)) => ?_)
  refine go_aloadN C X2 8 rfl d21_7 rfl rfl ?_
  refine go_getF C X2 (C.w 92 rfl) Via.refl G2 (pc' := 11) rfl d21_8 (fun T4 X5 => ?_)
  refine go_iloadN C X5 12 rfl d21_11 rfl ?_
  refine go_callS C X5 (C.w 121 rfl) (C.w 122 rfl) (C.w 79 rfl) (C.w 123 rfl) (own_lc_37 l Z a0 C.ws sb cs fv h n0 X5.old AS hcs S1 hfv S2) (argsL := [(.ref sb), (.int (4 : Int32))]) (rest := []) (lenOf pd_12 rfl) rfl (by decide) (by decide) (Nat.le_of_ble_eq_true rfl) (by decide) (by decide) rfl rfl (pc' := 15) rfl d21_12 ?_
  rintro T6 _ _ ⟨rfl, rfl⟩ X7
  show Go p e below _ (T6.setTop (mkF m 15 #[rv sa, iv (4 : Int32)] [(.int (97 : Int32))]))
  exact go_retN C X7 (by simp) (z' := 97) rfl d21_15 ⟨rfl, rfl⟩ (by decide) (by decide)
theorem ef_own_pc_43 (m : MethodId) (fv : Value) (hfv : fv.isRef = true) : entryFrame m #[(.int (5 : Int32)), (.int (12 : Int32)), fv] 3 = mkF m 0 #[iv (5 : Int32), iv (12 : Int32), .val fv] [] := by
  cases fv <;> first | (cases hfv; done) | skip
  all_goals first | (simp [entryFrame, mkF, argsToLocals, Value.category]; done) | rfl
set_option maxRecDepth 65536 in
set_option maxHeartbeats 40000000 in
theorem own_pc_43 (l : Launch) (Z : State) (a0 : Array Value) (hw : ∀ d ∈ tables_1, d.before a0 Z = true) (fv : Value)  (h : Heap) (n0 : Nat) (hn0 : Old Z n0 h) (hfv : fv.isRef = true)  :
    Con l Z (⟨"jdk/internal/util/Preconditions", "checkIndex", "(IILjava/util/function/BiFunction;)I"⟩ : MethodName) jdk_41_method_11_code 3 (some .int) ({ frames := 0, cells := 0, slots := 0, locals := 0 } : Room) #[(.int (5 : Int32)), (.int (12 : Int32)), fv] h n0 (fun v h' => v = some (.int (5 : Int32)) ∧ h = h') := by
  refine con_of hw (plainFor_of_name pn_jdk_internal_util_Preconditions) hn0 ?_
  intro p e s m below meth c T0 C X0
  refine Go.cast (congrArg T0.setTop (ef_own_pc_43 m fv hfv)) ?_
  refine go_iloadN C X0 1 rfl d25_0 rfl ?_
  refine go_if_lt C X0 d25_1 (pc' := 4) (pc2 := 9) rfl (by decide) (by decide) (fun (c1 : 5 < 0) => False.elim (by first | omega | exact absurd c1 (by decide))) (fun (c1 : 0 ≤ 5) => ?_)
  refine go_iloadN C X0 5 rfl d25_4 rfl ?_
  refine go_iloadN C X0 6 rfl d25_5 rfl ?_
  refine go_icmp_lt C X0 d25_6 (pc' := 9) (pc2 := 16) rfl (by decide) (by decide) (fun (c6 : 5 < 12) => ?_) (fun (c6 : 12 ≤ 5) => False.elim (by first | omega | exact absurd c6 (by decide)))
  refine go_iloadN C X0 17 rfl d25_16 rfl ?_
  exact go_retI C X0 d25_17 ⟨rfl, rfl⟩ (by decide) (by decide)
theorem ef_own_sc_42 (m : MethodId)   : entryFrame m #[(.int (5 : Int32)), (.int (12 : Int32))] 2 = mkF m 0 #[iv (5 : Int32), iv (12 : Int32)] [] := by
  first | (simp [entryFrame, mkF, argsToLocals, Value.category]; done) | rfl
set_option maxRecDepth 65536 in
set_option maxHeartbeats 40000000 in
theorem own_sc_42 (l : Launch) (Z : State) (a0 : Array Value) (hw : ∀ d ∈ tables_1, d.before a0 Z = true)  (cs : Int32) (fv : Value) (h : Heap) (n0 : Nat) (hn0 : Old Z n0 h) (hcs : ¬ cs = 0) (S1 : Sta Z Z.heap "java/lang/String" "COMPACT_STRINGS" "Z" (.int cs)) (hfv : fv.isRef = true) (S2 : Sta Z Z.heap "jdk/internal/util/Preconditions" "SIOOBE_FORMATTER" "Ljava/util/function/BiFunction;" fv) :
    Con l Z (⟨"java/lang/String", "checkIndex", "(II)V"⟩ : MethodName) jdk_42_method_155_code 2 none ({ frames := 1, cells := 0, slots := 0, locals := 14 } : Room) #[(.int (5 : Int32)), (.int (12 : Int32))] h n0 (fun v h' => v = none ∧ h = h') := by
  refine con_of hw (plainFor_of_name pn_java_lang_String) hn0 ?_
  intro p e s m below meth c T0 C X0
  refine Go.cast (congrArg T0.setTop (ef_own_sc_42 m )) ?_
  refine go_iloadN C X0 1 rfl d24_0 rfl ?_
  refine go_iloadN C X0 2 rfl d24_1 rfl ?_
  refine go_getS C X0 (C.w 127 rfl) (S2.ext X0.old.2) (pc' := 5) rfl d24_2 (fun T1 X2 => ?_)
  refine go_callS C X2 (C.w 129 rfl) (C.w 130 rfl) (C.w 128 rfl) (C.w 131 rfl) (own_pc_43 l Z a0 C.ws fv h n0 X2.old hfv) (argsL := [(.int (5 : Int32)), (.int (12 : Int32)), fv]) (rest := []) (lenOf pd_10 rfl) rfl (by decide) (by decide) (Nat.le_of_ble_eq_true rfl) (by decide) (by decide) rfl rfl (pc' := 8) rfl d24_5 ?_
  rintro T3 _ _ ⟨rfl, rfl⟩ X4
  show Go p e below _ (T3.setTop (mkF m 8 #[iv (5 : Int32), iv (12 : Int32)] [(.int (5 : Int32))]))
  refine go_pop C X4 9 rfl d24_8 rfl ?_
  exact go_ret0 C X4 d24_9 ⟨rfl, rfl⟩ (by decide) (by decide)
theorem ef_own_lc_41 (m : MethodId) (sb : Addr)  : entryFrame m #[(.ref sb), (.int (5 : Int32))] 2 = mkF m 0 #[rv sb, iv (5 : Int32)] [] := by
  first | (simp [entryFrame, mkF, argsToLocals, Value.category]; done) | rfl
set_option maxRecDepth 65536 in
set_option maxHeartbeats 40000000 in
theorem own_lc_41 (l : Launch) (Z : State) (a0 : Array Value) (hw : ∀ d ∈ tables_1, d.before a0 Z = true) (sb : Addr) (cs : Int32) (fv : Value) (h : Heap) (n0 : Nat) (hn0 : Old Z n0 h) (AS : La Z h sb .byte [(.int (97 : Int32)), (.int (97 : Int32)), (.int (97 : Int32)), (.int (97 : Int32)), (.int (97 : Int32)), (.int (97 : Int32)), (.int (97 : Int32)), (.int (97 : Int32)), (.int (97 : Int32)), (.int (97 : Int32)), (.int (97 : Int32)), (.int (97 : Int32))]) (hcs : ¬ cs = 0) (S1 : Sta Z Z.heap "java/lang/String" "COMPACT_STRINGS" "Z" (.int cs)) (hfv : fv.isRef = true) (S2 : Sta Z Z.heap "jdk/internal/util/Preconditions" "SIOOBE_FORMATTER" "Ljava/util/function/BiFunction;" fv) :
    Con l Z (⟨"java/lang/StringLatin1", "charAt", "([BI)C"⟩ : MethodName) jdk_43_method_2_code 2 (some .char) ({ frames := 2, cells := 0, slots := 0, locals := 27 } : Room) #[(.ref sb), (.int (5 : Int32))] h n0 (fun v h' => v = some (.int (97 : Int32)) ∧ h = h') := by
  refine con_of hw (plainFor_of_name pn_java_lang_StringLatin1) hn0 ?_
  intro p e s m below meth c T0 C X0
  refine Go.cast (congrArg T0.setTop (ef_own_lc_41 m sb)) ?_
  refine go_iloadN C X0 1 rfl d23_0 rfl ?_
  refine go_aloadN C X0 2 rfl d23_1 rfl rfl ?_
  refine go_alen C X0 AS (z := (12 : Int32)) rfl (pc' := 3) rfl d23_2 ?_
  refine go_callS C X0 (C.w 124 rfl) (C.w 125 rfl) (C.w 74 rfl) (C.w 126 rfl) (own_sc_42 l Z a0 C.ws cs fv h n0 X0.old hcs S1 hfv S2) (argsL := [(.int (5 : Int32)), (.int (12 : Int32))]) (rest := []) (lenOf pd_11 rfl) rfl (by decide) (by decide) (Nat.le_of_ble_eq_true rfl) (by decide) (by decide) rfl rfl (pc' := 6) rfl d23_3 ?_
  rintro T1 _ _ ⟨rfl, rfl⟩ X2
  show Go p e below _ (T1.setTop (mkF m 6 #[rv sb, iv (5 : Int32)] []))
  refine go_aloadN C X2 7 rfl d23_6 rfl rfl ?_
  refine go_iloadN C X2 8 rfl d23_7 rfl ?_
  refine go_baloadBytes C X2 AS (by decide) (v := (.int (97 : Int32))) rfl (pc' := 9) rfl d23_8 ?_
  refine go_sipush C X2 12 rfl d23_9 (z := 255) rfl ?_
  refine go_iandL C X2 13 rfl d23_12 (z := (97)) rfl ?_
  refine go_i2c C X2 14 rfl d23_13 ?_
  show Go p e below _ (T1.setTop (mkF m 14 #[rv sb, iv (5 : Int32)] [(.int (97 : Int32))]))
  exact go_retN C X2 (by simp) (z' := 97) rfl d23_14 ⟨rfl, rfl⟩ (by decide) (by decide)
theorem ef_own_s21_40 (m : MethodId) (sa : Addr)  : entryFrame m #[(.ref sa), (.int (5 : Int32))] 2 = mkF m 0 #[rv sa, iv (5 : Int32)] [] := by
  first | (simp [entryFrame, mkF, argsToLocals, Value.category]; done) | rfl
set_option maxRecDepth 65536 in
set_option maxHeartbeats 40000000 in
theorem own_s21_40 (l : Launch) (Z : State) (a0 : Array Value) (hw : ∀ d ∈ tables_1, d.before a0 Z = true) (sa : Addr) (sb : Addr) (cs : Int32) (fv : Value) (h : Heap) (n0 : Nat) (hn0 : Old Z n0 h) (ES : Exa Z h sa "java/lang/String") (G1 : Fld Z h sa "java/lang/String" "coder" "B" (.int 0)) (G2 : Fld Z h sa "java/lang/String" "value" "[B" (.ref sb)) (AS : La Z h sb .byte [(.int (97 : Int32)), (.int (97 : Int32)), (.int (97 : Int32)), (.int (97 : Int32)), (.int (97 : Int32)), (.int (97 : Int32)), (.int (97 : Int32)), (.int (97 : Int32)), (.int (97 : Int32)), (.int (97 : Int32)), (.int (97 : Int32)), (.int (97 : Int32))]) (hcs : ¬ cs = 0) (S1 : Sta Z Z.heap "java/lang/String" "COMPACT_STRINGS" "Z" (.int cs)) (hfv : fv.isRef = true) (S2 : Sta Z Z.heap "jdk/internal/util/Preconditions" "SIOOBE_FORMATTER" "Ljava/util/function/BiFunction;" fv) :
    Con l Z (⟨"java/lang/String", "charAt", "(I)C"⟩ : MethodName) jdk_42_method_56_code 2 (some .char) ({ frames := 3, cells := 0, slots := 0, locals := 40 } : Room) #[(.ref sa), (.int (5 : Int32))] h n0 (fun v h' => v = some (.int (97 : Int32)) ∧ h = h') := by
  refine con_of hw (plainFor_of_name pn_java_lang_String) hn0 ?_
  intro p e s m below meth c T0 C X0
  refine Go.cast (congrArg T0.setTop (ef_own_s21_40 m sa)) ?_
  refine go_aloadN C X0 1 rfl d21_0 rfl rfl ?_
  refine go_virtual C X0 ES (C.w 116 rfl) (C.w 117 rfl) (notFace_of_selects (args := #[]) (mvT C.hZ (C.w 119 rfl))) (C.w 119 rfl) (C.w 118 rfl) (C.w 74 rfl) (C.w 120 rfl) (own_s22_14 l Z a0 C.ws sa sb cs fv h n0 X0.old ES G1 G2 AS hcs S1 hfv S2) (argsL := []) (rest := []) (lenOf pd_9 rfl) rfl (by decide) (by decide) (Nat.le_of_ble_eq_true rfl) (by decide) (by decide) rfl rfl (pc' := 4) rfl d21_1 ?_
  rintro T1 _ _ ⟨rfl, rfl⟩ X2
  show Go p e below _ (T1.setTop (mkF m 4 #[rv sa, iv (5 : Int32)] [(.int (1 : Int32))]))
  refine go_if_eq C X2 d21_4 (pc' := 7) (pc2 := 16) rfl (by decide) (by decide) (fun (c4 : (1 : Int32) = (0 : Int32)) => False.elim (by first | omega | exact absurd c4 (by decide))) (fun (c4 : ¬ (1 : Int32) = (0 : Int32)) => ?_)
  refine go_aloadN C X2 8 rfl d21_7 rfl rfl ?_
  refine go_getF C X2 (C.w 92 rfl) Via.refl G2 (pc' := 11) rfl d21_8 (fun T4 X5 => ?_)
  refine go_iloadN C X5 12 rfl d21_11 rfl ?_
  refine go_callS C X5 (C.w 121 rfl) (C.w 122 rfl) (C.w 79 rfl) (C.w 123 rfl) (own_lc_41 l Z a0 C.ws sb cs fv h n0 X5.old AS hcs S1 hfv S2) (argsL := [(.ref sb), (.int (5 : Int32))]) (rest := []) (lenOf pd_12 rfl) rfl (by decide) (by decide) (Nat.le_of_ble_eq_true rfl) (by decide) (by decide) rfl rfl (pc' := 15) rfl d21_12 ?_
  rintro T6 _ _ ⟨rfl, rfl⟩ X7
  show Go p e below _ (T6.setTop (mkF m 15 #[rv sa, iv (5 : Int32)] [(.int (97 : Int32))]))
  exact go_retN C X7 (by simp) (z' := 97) rfl d21_15 ⟨rfl, rfl⟩ (by decide) (by decide)
theorem ef_own_pc_47 (m : MethodId) (fv : Value) (hfv : fv.isRef = true) : entryFrame m #[(.int (6 : Int32)), (.int (12 : Int32)), fv] 3 = mkF m 0 #[iv (6 : Int32), iv (12 : Int32), .val fv] [] := by
  cases fv <;> first | (cases hfv; done) | skip
  all_goals first | (simp [entryFrame, mkF, argsToLocals, Value.category]; done) | rfl
set_option maxRecDepth 65536 in
set_option maxHeartbeats 40000000 in
theorem own_pc_47 (l : Launch) (Z : State) (a0 : Array Value) (hw : ∀ d ∈ tables_1, d.before a0 Z = true) (fv : Value)  (h : Heap) (n0 : Nat) (hn0 : Old Z n0 h) (hfv : fv.isRef = true)  :
    Con l Z (⟨"jdk/internal/util/Preconditions", "checkIndex", "(IILjava/util/function/BiFunction;)I"⟩ : MethodName) jdk_41_method_11_code 3 (some .int) ({ frames := 0, cells := 0, slots := 0, locals := 0 } : Room) #[(.int (6 : Int32)), (.int (12 : Int32)), fv] h n0 (fun v h' => v = some (.int (6 : Int32)) ∧ h = h') := by
  refine con_of hw (plainFor_of_name pn_jdk_internal_util_Preconditions) hn0 ?_
  intro p e s m below meth c T0 C X0
  refine Go.cast (congrArg T0.setTop (ef_own_pc_47 m fv hfv)) ?_
  refine go_iloadN C X0 1 rfl d25_0 rfl ?_
  refine go_if_lt C X0 d25_1 (pc' := 4) (pc2 := 9) rfl (by decide) (by decide) (fun (c1 : 6 < 0) => False.elim (by first | omega | exact absurd c1 (by decide))) (fun (c1 : 0 ≤ 6) => ?_)
  refine go_iloadN C X0 5 rfl d25_4 rfl ?_
  refine go_iloadN C X0 6 rfl d25_5 rfl ?_
  refine go_icmp_lt C X0 d25_6 (pc' := 9) (pc2 := 16) rfl (by decide) (by decide) (fun (c6 : 6 < 12) => ?_) (fun (c6 : 12 ≤ 6) => False.elim (by first | omega | exact absurd c6 (by decide)))
  refine go_iloadN C X0 17 rfl d25_16 rfl ?_
  exact go_retI C X0 d25_17 ⟨rfl, rfl⟩ (by decide) (by decide)
theorem ef_own_sc_46 (m : MethodId)   : entryFrame m #[(.int (6 : Int32)), (.int (12 : Int32))] 2 = mkF m 0 #[iv (6 : Int32), iv (12 : Int32)] [] := by
  first | (simp [entryFrame, mkF, argsToLocals, Value.category]; done) | rfl
set_option maxRecDepth 65536 in
set_option maxHeartbeats 40000000 in
theorem own_sc_46 (l : Launch) (Z : State) (a0 : Array Value) (hw : ∀ d ∈ tables_1, d.before a0 Z = true)  (cs : Int32) (fv : Value) (h : Heap) (n0 : Nat) (hn0 : Old Z n0 h) (hcs : ¬ cs = 0) (S1 : Sta Z Z.heap "java/lang/String" "COMPACT_STRINGS" "Z" (.int cs)) (hfv : fv.isRef = true) (S2 : Sta Z Z.heap "jdk/internal/util/Preconditions" "SIOOBE_FORMATTER" "Ljava/util/function/BiFunction;" fv) :
    Con l Z (⟨"java/lang/String", "checkIndex", "(II)V"⟩ : MethodName) jdk_42_method_155_code 2 none ({ frames := 1, cells := 0, slots := 0, locals := 14 } : Room) #[(.int (6 : Int32)), (.int (12 : Int32))] h n0 (fun v h' => v = none ∧ h = h') := by
  refine con_of hw (plainFor_of_name pn_java_lang_String) hn0 ?_
  intro p e s m below meth c T0 C X0
  refine Go.cast (congrArg T0.setTop (ef_own_sc_46 m )) ?_
  refine go_iloadN C X0 1 rfl d24_0 rfl ?_
  refine go_iloadN C X0 2 rfl d24_1 rfl ?_
  refine go_getS C X0 (C.w 127 rfl) (S2.ext X0.old.2) (pc' := 5) rfl d24_2 (fun T1 X2 => ?_)
  refine go_callS C X2 (C.w 129 rfl) (C.w 130 rfl) (C.w 128 rfl) (C.w 131 rfl) (own_pc_47 l Z a0 C.ws fv h n0 X2.old hfv) (argsL := [(.int (6 : Int32)), (.int (12 : Int32)), fv]) (rest := []) (lenOf pd_10 rfl) rfl (by decide) (by decide) (Nat.le_of_ble_eq_true rfl) (by decide) (by decide) rfl rfl (pc' := 8) rfl d24_5 ?_
  rintro T3 _ _ ⟨rfl, rfl⟩ X4
  show Go p e below _ (T3.setTop (mkF m 8 #[iv (6 : Int32), iv (12 : Int32)] [(.int (6 : Int32))]))
  refine go_pop C X4 9 rfl d24_8 rfl ?_
  exact go_ret0 C X4 d24_9 ⟨rfl, rfl⟩ (by decide) (by decide)
theorem ef_own_lc_45 (m : MethodId) (sb : Addr)  : entryFrame m #[(.ref sb), (.int (6 : Int32))] 2 = mkF m 0 #[rv sb, iv (6 : Int32)] [] := by
  first | (simp [entryFrame, mkF, argsToLocals, Value.category]; done) | rfl
set_option maxRecDepth 65536 in
set_option maxHeartbeats 40000000 in
theorem own_lc_45 (l : Launch) (Z : State) (a0 : Array Value) (hw : ∀ d ∈ tables_1, d.before a0 Z = true) (sb : Addr) (cs : Int32) (fv : Value) (h : Heap) (n0 : Nat) (hn0 : Old Z n0 h) (AS : La Z h sb .byte [(.int (97 : Int32)), (.int (97 : Int32)), (.int (97 : Int32)), (.int (97 : Int32)), (.int (97 : Int32)), (.int (97 : Int32)), (.int (97 : Int32)), (.int (97 : Int32)), (.int (97 : Int32)), (.int (97 : Int32)), (.int (97 : Int32)), (.int (97 : Int32))]) (hcs : ¬ cs = 0) (S1 : Sta Z Z.heap "java/lang/String" "COMPACT_STRINGS" "Z" (.int cs)) (hfv : fv.isRef = true) (S2 : Sta Z Z.heap "jdk/internal/util/Preconditions" "SIOOBE_FORMATTER" "Ljava/util/function/BiFunction;" fv) :
    Con l Z (⟨"java/lang/StringLatin1", "charAt", "([BI)C"⟩ : MethodName) jdk_43_method_2_code 2 (some .char) ({ frames := 2, cells := 0, slots := 0, locals := 27 } : Room) #[(.ref sb), (.int (6 : Int32))] h n0 (fun v h' => v = some (.int (97 : Int32)) ∧ h = h') := by
  refine con_of hw (plainFor_of_name pn_java_lang_StringLatin1) hn0 ?_
  intro p e s m below meth c T0 C X0
  refine Go.cast (congrArg T0.setTop (ef_own_lc_45 m sb)) ?_
  refine go_iloadN C X0 1 rfl d23_0 rfl ?_
  refine go_aloadN C X0 2 rfl d23_1 rfl rfl ?_
  refine go_alen C X0 AS (z := (12 : Int32)) rfl (pc' := 3) rfl d23_2 ?_
  refine go_callS C X0 (C.w 124 rfl) (C.w 125 rfl) (C.w 74 rfl) (C.w 126 rfl) (own_sc_46 l Z a0 C.ws cs fv h n0 X0.old hcs S1 hfv S2) (argsL := [(.int (6 : Int32)), (.int (12 : Int32))]) (rest := []) (lenOf pd_11 rfl) rfl (by decide) (by decide) (Nat.le_of_ble_eq_true rfl) (by decide) (by decide) rfl rfl (pc' := 6) rfl d23_3 ?_
  rintro T1 _ _ ⟨rfl, rfl⟩ X2
  show Go p e below _ (T1.setTop (mkF m 6 #[rv sb, iv (6 : Int32)] []))
  refine go_aloadN C X2 7 rfl d23_6 rfl rfl ?_
  refine go_iloadN C X2 8 rfl d23_7 rfl ?_
  refine go_baloadBytes C X2 AS (by decide) (v := (.int (97 : Int32))) rfl (pc' := 9) rfl d23_8 ?_
  refine go_sipush C X2 12 rfl d23_9 (z := 255) rfl ?_
  refine go_iandL C X2 13 rfl d23_12 (z := (97)) rfl ?_
  refine go_i2c C X2 14 rfl d23_13 ?_
  show Go p e below _ (T1.setTop (mkF m 14 #[rv sb, iv (6 : Int32)] [(.int (97 : Int32))]))
  exact go_retN C X2 (by simp) (z' := 97) rfl d23_14 ⟨rfl, rfl⟩ (by decide) (by decide)
theorem ef_own_s21_44 (m : MethodId) (sa : Addr)  : entryFrame m #[(.ref sa), (.int (6 : Int32))] 2 = mkF m 0 #[rv sa, iv (6 : Int32)] [] := by
  first | (simp [entryFrame, mkF, argsToLocals, Value.category]; done) | rfl
set_option maxRecDepth 65536 in
set_option maxHeartbeats 40000000 in
theorem own_s21_44 (l : Launch) (Z : State) (a0 : Array Value) (hw : ∀ d ∈ tables_1, d.before a0 Z = true) (sa : Addr) (sb : Addr) (cs : Int32) (fv : Value) (h : Heap) (n0 : Nat) (hn0 : Old Z n0 h) (ES : Exa Z h sa "java/lang/String") (G1 : Fld Z h sa "java/lang/String" "coder" "B" (.int 0)) (G2 : Fld Z h sa "java/lang/String" "value" "[B" (.ref sb)) (AS : La Z h sb .byte [(.int (97 : Int32)), (.int (97 : Int32)), (.int (97 : Int32)), (.int (97 : Int32)), (.int (97 : Int32)), (.int (97 : Int32)), (.int (97 : Int32)), (.int (97 : Int32)), (.int (97 : Int32)), (.int (97 : Int32)), (.int (97 : Int32)), (.int (97 : Int32))]) (hcs : ¬ cs = 0) (S1 : Sta Z Z.heap "java/lang/String" "COMPACT_STRINGS" "Z" (.int cs)) (hfv : fv.isRef = true) (S2 : Sta Z Z.heap "jdk/internal/util/Preconditions" "SIOOBE_FORMATTER" "Ljava/util/function/BiFunction;" fv) :
    Con l Z (⟨"java/lang/String", "charAt", "(I)C"⟩ : MethodName) jdk_42_method_56_code 2 (some .char) ({ frames := 3, cells := 0, slots := 0, locals := 40 } : Room) #[(.ref sa), (.int (6 : Int32))] h n0 (fun v h' => v = some (.int (97 : Int32)) ∧ h = h') := by
  refine con_of hw (plainFor_of_name pn_java_lang_String) hn0 ?_
  intro p e s m below meth c T0 C X0
  refine Go.cast (congrArg T0.setTop (ef_own_s21_44 m sa)) ?_
  refine go_aloadN C X0 1 rfl d21_0 rfl rfl ?_
  refine go_virtual C X0 ES (C.w 116 rfl) (C.w 117 rfl) (notFace_of_selects (args := #[]) (mvT C.hZ (C.w 119 rfl))) (C.w 119 rfl) (C.w 118 rfl) (C.w 74 rfl) (C.w 120 rfl) (own_s22_14 l Z a0 C.ws sa sb cs fv h n0 X0.old ES G1 G2 AS hcs S1 hfv S2) (argsL := []) (rest := []) (lenOf pd_9 rfl) rfl (by decide) (by decide) (Nat.le_of_ble_eq_true rfl) (by decide) (by decide) rfl rfl (pc' := 4) rfl d21_1 ?_
  rintro T1 _ _ ⟨rfl, rfl⟩ X2
  show Go p e below _ (T1.setTop (mkF m 4 #[rv sa, iv (6 : Int32)] [(.int (1 : Int32))]))
  refine go_if_eq C X2 d21_4 (pc' := 7) (pc2 := 16) rfl (by decide) (by decide) (fun (c4 : (1 : Int32) = (0 : Int32)) => False.elim (by first | omega | exact absurd c4 (by decide))) (fun (c4 : ¬ (1 : Int32) = (0 : Int32)) => ?_)
  refine go_aloadN C X2 8 rfl d21_7 rfl rfl ?_
  refine go_getF C X2 (C.w 92 rfl) Via.refl G2 (pc' := 11) rfl d21_8 (fun T4 X5 => ?_)
  refine go_iloadN C X5 12 rfl d21_11 rfl ?_
  refine go_callS C X5 (C.w 121 rfl) (C.w 122 rfl) (C.w 79 rfl) (C.w 123 rfl) (own_lc_45 l Z a0 C.ws sb cs fv h n0 X5.old AS hcs S1 hfv S2) (argsL := [(.ref sb), (.int (6 : Int32))]) (rest := []) (lenOf pd_12 rfl) rfl (by decide) (by decide) (Nat.le_of_ble_eq_true rfl) (by decide) (by decide) rfl rfl (pc' := 15) rfl d21_12 ?_
  rintro T6 _ _ ⟨rfl, rfl⟩ X7
  show Go p e below _ (T6.setTop (mkF m 15 #[rv sa, iv (6 : Int32)] [(.int (97 : Int32))]))
  exact go_retN C X7 (by simp) (z' := 97) rfl d21_15 ⟨rfl, rfl⟩ (by decide) (by decide)
theorem ef_own_pc_51 (m : MethodId) (fv : Value) (hfv : fv.isRef = true) : entryFrame m #[(.int (7 : Int32)), (.int (12 : Int32)), fv] 3 = mkF m 0 #[iv (7 : Int32), iv (12 : Int32), .val fv] [] := by
  cases fv <;> first | (cases hfv; done) | skip
  all_goals first | (simp [entryFrame, mkF, argsToLocals, Value.category]; done) | rfl
set_option maxRecDepth 65536 in
set_option maxHeartbeats 40000000 in
theorem own_pc_51 (l : Launch) (Z : State) (a0 : Array Value) (hw : ∀ d ∈ tables_1, d.before a0 Z = true) (fv : Value)  (h : Heap) (n0 : Nat) (hn0 : Old Z n0 h) (hfv : fv.isRef = true)  :
    Con l Z (⟨"jdk/internal/util/Preconditions", "checkIndex", "(IILjava/util/function/BiFunction;)I"⟩ : MethodName) jdk_41_method_11_code 3 (some .int) ({ frames := 0, cells := 0, slots := 0, locals := 0 } : Room) #[(.int (7 : Int32)), (.int (12 : Int32)), fv] h n0 (fun v h' => v = some (.int (7 : Int32)) ∧ h = h') := by
  refine con_of hw (plainFor_of_name pn_jdk_internal_util_Preconditions) hn0 ?_
  intro p e s m below meth c T0 C X0
  refine Go.cast (congrArg T0.setTop (ef_own_pc_51 m fv hfv)) ?_
  refine go_iloadN C X0 1 rfl d25_0 rfl ?_
  refine go_if_lt C X0 d25_1 (pc' := 4) (pc2 := 9) rfl (by decide) (by decide) (fun (c1 : 7 < 0) => False.elim (by first | omega | exact absurd c1 (by decide))) (fun (c1 : 0 ≤ 7) => ?_)
  refine go_iloadN C X0 5 rfl d25_4 rfl ?_
  refine go_iloadN C X0 6 rfl d25_5 rfl ?_
  refine go_icmp_lt C X0 d25_6 (pc' := 9) (pc2 := 16) rfl (by decide) (by decide) (fun (c6 : 7 < 12) => ?_) (fun (c6 : 12 ≤ 7) => False.elim (by first | omega | exact absurd c6 (by decide)))
  refine go_iloadN C X0 17 rfl d25_16 rfl ?_
  exact go_retI C X0 d25_17 ⟨rfl, rfl⟩ (by decide) (by decide)
theorem ef_own_sc_50 (m : MethodId)   : entryFrame m #[(.int (7 : Int32)), (.int (12 : Int32))] 2 = mkF m 0 #[iv (7 : Int32), iv (12 : Int32)] [] := by
  first | (simp [entryFrame, mkF, argsToLocals, Value.category]; done) | rfl
set_option maxRecDepth 65536 in
set_option maxHeartbeats 40000000 in
theorem own_sc_50 (l : Launch) (Z : State) (a0 : Array Value) (hw : ∀ d ∈ tables_1, d.before a0 Z = true)  (cs : Int32) (fv : Value) (h : Heap) (n0 : Nat) (hn0 : Old Z n0 h) (hcs : ¬ cs = 0) (S1 : Sta Z Z.heap "java/lang/String" "COMPACT_STRINGS" "Z" (.int cs)) (hfv : fv.isRef = true) (S2 : Sta Z Z.heap "jdk/internal/util/Preconditions" "SIOOBE_FORMATTER" "Ljava/util/function/BiFunction;" fv) :
    Con l Z (⟨"java/lang/String", "checkIndex", "(II)V"⟩ : MethodName) jdk_42_method_155_code 2 none ({ frames := 1, cells := 0, slots := 0, locals := 14 } : Room) #[(.int (7 : Int32)), (.int (12 : Int32))] h n0 (fun v h' => v = none ∧ h = h') := by
  refine con_of hw (plainFor_of_name pn_java_lang_String) hn0 ?_
  intro p e s m below meth c T0 C X0
  refine Go.cast (congrArg T0.setTop (ef_own_sc_50 m )) ?_
  refine go_iloadN C X0 1 rfl d24_0 rfl ?_
  refine go_iloadN C X0 2 rfl d24_1 rfl ?_
  refine go_getS C X0 (C.w 127 rfl) (S2.ext X0.old.2) (pc' := 5) rfl d24_2 (fun T1 X2 => ?_)
  refine go_callS C X2 (C.w 129 rfl) (C.w 130 rfl) (C.w 128 rfl) (C.w 131 rfl) (own_pc_51 l Z a0 C.ws fv h n0 X2.old hfv) (argsL := [(.int (7 : Int32)), (.int (12 : Int32)), fv]) (rest := []) (lenOf pd_10 rfl) rfl (by decide) (by decide) (Nat.le_of_ble_eq_true rfl) (by decide) (by decide) rfl rfl (pc' := 8) rfl d24_5 ?_
  rintro T3 _ _ ⟨rfl, rfl⟩ X4
  show Go p e below _ (T3.setTop (mkF m 8 #[iv (7 : Int32), iv (12 : Int32)] [(.int (7 : Int32))]))
  refine go_pop C X4 9 rfl d24_8 rfl ?_
  exact go_ret0 C X4 d24_9 ⟨rfl, rfl⟩ (by decide) (by decide)
theorem ef_own_lc_49 (m : MethodId) (sb : Addr)  : entryFrame m #[(.ref sb), (.int (7 : Int32))] 2 = mkF m 0 #[rv sb, iv (7 : Int32)] [] := by
  first | (simp [entryFrame, mkF, argsToLocals, Value.category]; done) | rfl
set_option maxRecDepth 65536 in
set_option maxHeartbeats 40000000 in
theorem own_lc_49 (l : Launch) (Z : State) (a0 : Array Value) (hw : ∀ d ∈ tables_1, d.before a0 Z = true) (sb : Addr) (cs : Int32) (fv : Value) (h : Heap) (n0 : Nat) (hn0 : Old Z n0 h) (AS : La Z h sb .byte [(.int (97 : Int32)), (.int (97 : Int32)), (.int (97 : Int32)), (.int (97 : Int32)), (.int (97 : Int32)), (.int (97 : Int32)), (.int (97 : Int32)), (.int (97 : Int32)), (.int (97 : Int32)), (.int (97 : Int32)), (.int (97 : Int32)), (.int (97 : Int32))]) (hcs : ¬ cs = 0) (S1 : Sta Z Z.heap "java/lang/String" "COMPACT_STRINGS" "Z" (.int cs)) (hfv : fv.isRef = true) (S2 : Sta Z Z.heap "jdk/internal/util/Preconditions" "SIOOBE_FORMATTER" "Ljava/util/function/BiFunction;" fv) :
    Con l Z (⟨"java/lang/StringLatin1", "charAt", "([BI)C"⟩ : MethodName) jdk_43_method_2_code 2 (some .char) ({ frames := 2, cells := 0, slots := 0, locals := 27 } : Room) #[(.ref sb), (.int (7 : Int32))] h n0 (fun v h' => v = some (.int (97 : Int32)) ∧ h = h') := by
  refine con_of hw (plainFor_of_name pn_java_lang_StringLatin1) hn0 ?_
  intro p e s m below meth c T0 C X0
  refine Go.cast (congrArg T0.setTop (ef_own_lc_49 m sb)) ?_
  refine go_iloadN C X0 1 rfl d23_0 rfl ?_
  refine go_aloadN C X0 2 rfl d23_1 rfl rfl ?_
  refine go_alen C X0 AS (z := (12 : Int32)) rfl (pc' := 3) rfl d23_2 ?_
  refine go_callS C X0 (C.w 124 rfl) (C.w 125 rfl) (C.w 74 rfl) (C.w 126 rfl) (own_sc_50 l Z a0 C.ws cs fv h n0 X0.old hcs S1 hfv S2) (argsL := [(.int (7 : Int32)), (.int (12 : Int32))]) (rest := []) (lenOf pd_11 rfl) rfl (by decide) (by decide) (Nat.le_of_ble_eq_true rfl) (by decide) (by decide) rfl rfl (pc' := 6) rfl d23_3 ?_
  rintro T1 _ _ ⟨rfl, rfl⟩ X2
  show Go p e below _ (T1.setTop (mkF m 6 #[rv sb, iv (7 : Int32)] []))
  refine go_aloadN C X2 7 rfl d23_6 rfl rfl ?_
  refine go_iloadN C X2 8 rfl d23_7 rfl ?_
  refine go_baloadBytes C X2 AS (by decide) (v := (.int (97 : Int32))) rfl (pc' := 9) rfl d23_8 ?_
  refine go_sipush C X2 12 rfl d23_9 (z := 255) rfl ?_
  refine go_iandL C X2 13 rfl d23_12 (z := (97)) rfl ?_
  refine go_i2c C X2 14 rfl d23_13 ?_
  show Go p e below _ (T1.setTop (mkF m 14 #[rv sb, iv (7 : Int32)] [(.int (97 : Int32))]))
  exact go_retN C X2 (by simp) (z' := 97) rfl d23_14 ⟨rfl, rfl⟩ (by decide) (by decide)
theorem ef_own_s21_48 (m : MethodId) (sa : Addr)  : entryFrame m #[(.ref sa), (.int (7 : Int32))] 2 = mkF m 0 #[rv sa, iv (7 : Int32)] [] := by
  first | (simp [entryFrame, mkF, argsToLocals, Value.category]; done) | rfl
set_option maxRecDepth 65536 in
set_option maxHeartbeats 40000000 in
theorem own_s21_48 (l : Launch) (Z : State) (a0 : Array Value) (hw : ∀ d ∈ tables_1, d.before a0 Z = true) (sa : Addr) (sb : Addr) (cs : Int32) (fv : Value) (h : Heap) (n0 : Nat) (hn0 : Old Z n0 h) (ES : Exa Z h sa "java/lang/String") (G1 : Fld Z h sa "java/lang/String" "coder" "B" (.int 0)) (G2 : Fld Z h sa "java/lang/String" "value" "[B" (.ref sb)) (AS : La Z h sb .byte [(.int (97 : Int32)), (.int (97 : Int32)), (.int (97 : Int32)), (.int (97 : Int32)), (.int (97 : Int32)), (.int (97 : Int32)), (.int (97 : Int32)), (.int (97 : Int32)), (.int (97 : Int32)), (.int (97 : Int32)), (.int (97 : Int32)), (.int (97 : Int32))]) (hcs : ¬ cs = 0) (S1 : Sta Z Z.heap "java/lang/String" "COMPACT_STRINGS" "Z" (.int cs)) (hfv : fv.isRef = true) (S2 : Sta Z Z.heap "jdk/internal/util/Preconditions" "SIOOBE_FORMATTER" "Ljava/util/function/BiFunction;" fv) :
    Con l Z (⟨"java/lang/String", "charAt", "(I)C"⟩ : MethodName) jdk_42_method_56_code 2 (some .char) ({ frames := 3, cells := 0, slots := 0, locals := 40 } : Room) #[(.ref sa), (.int (7 : Int32))] h n0 (fun v h' => v = some (.int (97 : Int32)) ∧ h = h') := by
  refine con_of hw (plainFor_of_name pn_java_lang_String) hn0 ?_
  intro p e s m below meth c T0 C X0
  refine Go.cast (congrArg T0.setTop (ef_own_s21_48 m sa)) ?_
  refine go_aloadN C X0 1 rfl d21_0 rfl rfl ?_
  refine go_virtual C X0 ES (C.w 116 rfl) (C.w 117 rfl) (notFace_of_selects (args := #[]) (mvT C.hZ (C.w 119 rfl))) (C.w 119 rfl) (C.w 118 rfl) (C.w 74 rfl) (C.w 120 rfl) (own_s22_14 l Z a0 C.ws sa sb cs fv h n0 X0.old ES G1 G2 AS hcs S1 hfv S2) (argsL := []) (rest := []) (lenOf pd_9 rfl) rfl (by decide) (by decide) (Nat.le_of_ble_eq_true rfl) (by decide) (by decide) rfl rfl (pc' := 4) rfl d21_1 ?_
  rintro T1 _ _ ⟨rfl, rfl⟩ X2
  show Go p e below _ (T1.setTop (mkF m 4 #[rv sa, iv (7 : Int32)] [(.int (1 : Int32))]))
  refine go_if_eq C X2 d21_4 (pc' := 7) (pc2 := 16) rfl (by decide) (by decide) (fun (c4 : (1 : Int32) = (0 : Int32)) => False.elim (by first | omega | exact absurd c4 (by decide))) (fun (c4 : ¬ (1 : Int32) = (0 : Int32)) => ?_)
  refine go_aloadN C X2 8 rfl d21_7 rfl rfl ?_
  refine go_getF C X2 (C.w 92 rfl) Via.refl G2 (pc' := 11) rfl d21_8 (fun T4 X5 => ?_)
  refine go_iloadN C X5 12 rfl d21_11 rfl ?_
  refine go_callS C X5 (C.w 121 rfl) (C.w 122 rfl) (C.w 79 rfl) (C.w 123 rfl) (own_lc_49 l Z a0 C.ws sb cs fv h n0 X5.old AS hcs S1 hfv S2) (argsL := [(.ref sb), (.int (7 : Int32))]) (rest := []) (lenOf pd_12 rfl) rfl (by decide) (by decide) (Nat.le_of_ble_eq_true rfl) (by decide) (by decide) rfl rfl (pc' := 15) rfl d21_12 ?_
  rintro T6 _ _ ⟨rfl, rfl⟩ X7
  show Go p e below _ (T6.setTop (mkF m 15 #[rv sa, iv (7 : Int32)] [(.int (97 : Int32))]))
  exact go_retN C X7 (by simp) (z' := 97) rfl d21_15 ⟨rfl, rfl⟩ (by decide) (by decide)
theorem ef_own_pc_55 (m : MethodId) (fv : Value) (hfv : fv.isRef = true) : entryFrame m #[(.int (8 : Int32)), (.int (12 : Int32)), fv] 3 = mkF m 0 #[iv (8 : Int32), iv (12 : Int32), .val fv] [] := by
  cases fv <;> first | (cases hfv; done) | skip
  all_goals first | (simp [entryFrame, mkF, argsToLocals, Value.category]; done) | rfl
set_option maxRecDepth 65536 in
set_option maxHeartbeats 40000000 in
theorem own_pc_55 (l : Launch) (Z : State) (a0 : Array Value) (hw : ∀ d ∈ tables_1, d.before a0 Z = true) (fv : Value)  (h : Heap) (n0 : Nat) (hn0 : Old Z n0 h) (hfv : fv.isRef = true)  :
    Con l Z (⟨"jdk/internal/util/Preconditions", "checkIndex", "(IILjava/util/function/BiFunction;)I"⟩ : MethodName) jdk_41_method_11_code 3 (some .int) ({ frames := 0, cells := 0, slots := 0, locals := 0 } : Room) #[(.int (8 : Int32)), (.int (12 : Int32)), fv] h n0 (fun v h' => v = some (.int (8 : Int32)) ∧ h = h') := by
  refine con_of hw (plainFor_of_name pn_jdk_internal_util_Preconditions) hn0 ?_
  intro p e s m below meth c T0 C X0
  refine Go.cast (congrArg T0.setTop (ef_own_pc_55 m fv hfv)) ?_
  refine go_iloadN C X0 1 rfl d25_0 rfl ?_
  refine go_if_lt C X0 d25_1 (pc' := 4) (pc2 := 9) rfl (by decide) (by decide) (fun (c1 : 8 < 0) => False.elim (by first | omega | exact absurd c1 (by decide))) (fun (c1 : 0 ≤ 8) => ?_)
  refine go_iloadN C X0 5 rfl d25_4 rfl ?_
  refine go_iloadN C X0 6 rfl d25_5 rfl ?_
  refine go_icmp_lt C X0 d25_6 (pc' := 9) (pc2 := 16) rfl (by decide) (by decide) (fun (c6 : 8 < 12) => ?_) (fun (c6 : 12 ≤ 8) => False.elim (by first | omega | exact absurd c6 (by decide)))
  refine go_iloadN C X0 17 rfl d25_16 rfl ?_
  exact go_retI C X0 d25_17 ⟨rfl, rfl⟩ (by decide) (by decide)
theorem ef_own_sc_54 (m : MethodId)   : entryFrame m #[(.int (8 : Int32)), (.int (12 : Int32))] 2 = mkF m 0 #[iv (8 : Int32), iv (12 : Int32)] [] := by
  first | (simp [entryFrame, mkF, argsToLocals, Value.category]; done) | rfl
set_option maxRecDepth 65536 in
set_option maxHeartbeats 40000000 in
theorem own_sc_54 (l : Launch) (Z : State) (a0 : Array Value) (hw : ∀ d ∈ tables_1, d.before a0 Z = true)  (cs : Int32) (fv : Value) (h : Heap) (n0 : Nat) (hn0 : Old Z n0 h) (hcs : ¬ cs = 0) (S1 : Sta Z Z.heap "java/lang/String" "COMPACT_STRINGS" "Z" (.int cs)) (hfv : fv.isRef = true) (S2 : Sta Z Z.heap "jdk/internal/util/Preconditions" "SIOOBE_FORMATTER" "Ljava/util/function/BiFunction;" fv) :
    Con l Z (⟨"java/lang/String", "checkIndex", "(II)V"⟩ : MethodName) jdk_42_method_155_code 2 none ({ frames := 1, cells := 0, slots := 0, locals := 14 } : Room) #[(.int (8 : Int32)), (.int (12 : Int32))] h n0 (fun v h' => v = none ∧ h = h') := by
  refine con_of hw (plainFor_of_name pn_java_lang_String) hn0 ?_
  intro p e s m below meth c T0 C X0
  refine Go.cast (congrArg T0.setTop (ef_own_sc_54 m )) ?_
  refine go_iloadN C X0 1 rfl d24_0 rfl ?_
  refine go_iloadN C X0 2 rfl d24_1 rfl ?_
  refine go_getS C X0 (C.w 127 rfl) (S2.ext X0.old.2) (pc' := 5) rfl d24_2 (fun T1 X2 => ?_)
  refine go_callS C X2 (C.w 129 rfl) (C.w 130 rfl) (C.w 128 rfl) (C.w 131 rfl) (own_pc_55 l Z a0 C.ws fv h n0 X2.old hfv) (argsL := [(.int (8 : Int32)), (.int (12 : Int32)), fv]) (rest := []) (lenOf pd_10 rfl) rfl (by decide) (by decide) (Nat.le_of_ble_eq_true rfl) (by decide) (by decide) rfl rfl (pc' := 8) rfl d24_5 ?_
  rintro T3 _ _ ⟨rfl, rfl⟩ X4
  show Go p e below _ (T3.setTop (mkF m 8 #[iv (8 : Int32), iv (12 : Int32)] [(.int (8 : Int32))]))
  refine go_pop C X4 9 rfl d24_8 rfl ?_
  exact go_ret0 C X4 d24_9 ⟨rfl, rfl⟩ (by decide) (by decide)
theorem ef_own_lc_53 (m : MethodId) (sb : Addr)  : entryFrame m #[(.ref sb), (.int (8 : Int32))] 2 = mkF m 0 #[rv sb, iv (8 : Int32)] [] := by
  first | (simp [entryFrame, mkF, argsToLocals, Value.category]; done) | rfl
set_option maxRecDepth 65536 in
set_option maxHeartbeats 40000000 in
theorem own_lc_53 (l : Launch) (Z : State) (a0 : Array Value) (hw : ∀ d ∈ tables_1, d.before a0 Z = true) (sb : Addr) (cs : Int32) (fv : Value) (h : Heap) (n0 : Nat) (hn0 : Old Z n0 h) (AS : La Z h sb .byte [(.int (97 : Int32)), (.int (97 : Int32)), (.int (97 : Int32)), (.int (97 : Int32)), (.int (97 : Int32)), (.int (97 : Int32)), (.int (97 : Int32)), (.int (97 : Int32)), (.int (97 : Int32)), (.int (97 : Int32)), (.int (97 : Int32)), (.int (97 : Int32))]) (hcs : ¬ cs = 0) (S1 : Sta Z Z.heap "java/lang/String" "COMPACT_STRINGS" "Z" (.int cs)) (hfv : fv.isRef = true) (S2 : Sta Z Z.heap "jdk/internal/util/Preconditions" "SIOOBE_FORMATTER" "Ljava/util/function/BiFunction;" fv) :
    Con l Z (⟨"java/lang/StringLatin1", "charAt", "([BI)C"⟩ : MethodName) jdk_43_method_2_code 2 (some .char) ({ frames := 2, cells := 0, slots := 0, locals := 27 } : Room) #[(.ref sb), (.int (8 : Int32))] h n0 (fun v h' => v = some (.int (97 : Int32)) ∧ h = h') := by
  refine con_of hw (plainFor_of_name pn_java_lang_StringLatin1) hn0 ?_
  intro p e s m below meth c T0 C X0
  refine Go.cast (congrArg T0.setTop (ef_own_lc_53 m sb)) ?_
  refine go_iloadN C X0 1 rfl d23_0 rfl ?_
  refine go_aloadN C X0 2 rfl d23_1 rfl rfl ?_
  refine go_alen C X0 AS (z := (12 : Int32)) rfl (pc' := 3) rfl d23_2 ?_
  refine go_callS C X0 (C.w 124 rfl) (C.w 125 rfl) (C.w 74 rfl) (C.w 126 rfl) (own_sc_54 l Z a0 C.ws cs fv h n0 X0.old hcs S1 hfv S2) (argsL := [(.int (8 : Int32)), (.int (12 : Int32))]) (rest := []) (lenOf pd_11 rfl) rfl (by decide) (by decide) (Nat.le_of_ble_eq_true rfl) (by decide) (by decide) rfl rfl (pc' := 6) rfl d23_3 ?_
  rintro T1 _ _ ⟨rfl, rfl⟩ X2
  show Go p e below _ (T1.setTop (mkF m 6 #[rv sb, iv (8 : Int32)] []))
  refine go_aloadN C X2 7 rfl d23_6 rfl rfl ?_
  refine go_iloadN C X2 8 rfl d23_7 rfl ?_
  refine go_baloadBytes C X2 AS (by decide) (v := (.int (97 : Int32))) rfl (pc' := 9) rfl d23_8 ?_
  refine go_sipush C X2 12 rfl d23_9 (z := 255) rfl ?_
  refine go_iandL C X2 13 rfl d23_12 (z := (97)) rfl ?_
  refine go_i2c C X2 14 rfl d23_13 ?_
  show Go p e below _ (T1.setTop (mkF m 14 #[rv sb, iv (8 : Int32)] [(.int (97 : Int32))]))
  exact go_retN C X2 (by simp) (z' := 97) rfl d23_14 ⟨rfl, rfl⟩ (by decide) (by decide)
theorem ef_own_s21_52 (m : MethodId) (sa : Addr)  : entryFrame m #[(.ref sa), (.int (8 : Int32))] 2 = mkF m 0 #[rv sa, iv (8 : Int32)] [] := by
  first | (simp [entryFrame, mkF, argsToLocals, Value.category]; done) | rfl
set_option maxRecDepth 65536 in
set_option maxHeartbeats 40000000 in
theorem own_s21_52 (l : Launch) (Z : State) (a0 : Array Value) (hw : ∀ d ∈ tables_1, d.before a0 Z = true) (sa : Addr) (sb : Addr) (cs : Int32) (fv : Value) (h : Heap) (n0 : Nat) (hn0 : Old Z n0 h) (ES : Exa Z h sa "java/lang/String") (G1 : Fld Z h sa "java/lang/String" "coder" "B" (.int 0)) (G2 : Fld Z h sa "java/lang/String" "value" "[B" (.ref sb)) (AS : La Z h sb .byte [(.int (97 : Int32)), (.int (97 : Int32)), (.int (97 : Int32)), (.int (97 : Int32)), (.int (97 : Int32)), (.int (97 : Int32)), (.int (97 : Int32)), (.int (97 : Int32)), (.int (97 : Int32)), (.int (97 : Int32)), (.int (97 : Int32)), (.int (97 : Int32))]) (hcs : ¬ cs = 0) (S1 : Sta Z Z.heap "java/lang/String" "COMPACT_STRINGS" "Z" (.int cs)) (hfv : fv.isRef = true) (S2 : Sta Z Z.heap "jdk/internal/util/Preconditions" "SIOOBE_FORMATTER" "Ljava/util/function/BiFunction;" fv) :
    Con l Z (⟨"java/lang/String", "charAt", "(I)C"⟩ : MethodName) jdk_42_method_56_code 2 (some .char) ({ frames := 3, cells := 0, slots := 0, locals := 40 } : Room) #[(.ref sa), (.int (8 : Int32))] h n0 (fun v h' => v = some (.int (97 : Int32)) ∧ h = h') := by
  refine con_of hw (plainFor_of_name pn_java_lang_String) hn0 ?_
  intro p e s m below meth c T0 C X0
  refine Go.cast (congrArg T0.setTop (ef_own_s21_52 m sa)) ?_
  refine go_aloadN C X0 1 rfl d21_0 rfl rfl ?_
  refine go_virtual C X0 ES (C.w 116 rfl) (C.w 117 rfl) (notFace_of_selects (args := #[]) (mvT C.hZ (C.w 119 rfl))) (C.w 119 rfl) (C.w 118 rfl) (C.w 74 rfl) (C.w 120 rfl) (own_s22_14 l Z a0 C.ws sa sb cs fv h n0 X0.old ES G1 G2 AS hcs S1 hfv S2) (argsL := []) (rest := []) (lenOf pd_9 rfl) rfl (by decide) (by decide) (Nat.le_of_ble_eq_true rfl) (by decide) (by decide) rfl rfl (pc' := 4) rfl d21_1 ?_
  rintro T1 _ _ ⟨rfl, rfl⟩ X2
  show Go p e below _ (T1.setTop (mkF m 4 #[rv sa, iv (8 : Int32)] [(.int (1 : Int32))]))
  refine go_if_eq C X2 d21_4 (pc' := 7) (pc2 := 16) rfl (by decide) (by decide) (fun (c4 : (1 : Int32) = (0 : Int32)) => False.elim (by first | omega | exact absurd c4 (by decide))) (fun (c4 : ¬ (1 : Int32) = (0 : Int32)) => ?_)
  refine go_aloadN C X2 8 rfl d21_7 rfl rfl ?_
  refine go_getF C X2 (C.w 92 rfl) Via.refl G2 (pc' := 11) rfl d21_8 (fun T4 X5 => ?_)
  refine go_iloadN C X5 12 rfl d21_11 rfl ?_
  refine go_callS C X5 (C.w 121 rfl) (C.w 122 rfl) (C.w 79 rfl) (C.w 123 rfl) (own_lc_53 l Z a0 C.ws sb cs fv h n0 X5.old AS hcs S1 hfv S2) (argsL := [(.ref sb), (.int (8 : Int32))]) (rest := []) (lenOf pd_12 rfl) rfl (by decide) (by decide) (Nat.le_of_ble_eq_true rfl) (by decide) (by decide) rfl rfl (pc' := 15) rfl d21_12 ?_
  rintro T6 _ _ ⟨rfl, rfl⟩ X7
  show Go p e below _ (T6.setTop (mkF m 15 #[rv sa, iv (8 : Int32)] [(.int (97 : Int32))]))
  exact go_retN C X7 (by simp) (z' := 97) rfl d21_15 ⟨rfl, rfl⟩ (by decide) (by decide)
theorem ef_own_pc_59 (m : MethodId) (fv : Value) (hfv : fv.isRef = true) : entryFrame m #[(.int (9 : Int32)), (.int (12 : Int32)), fv] 3 = mkF m 0 #[iv (9 : Int32), iv (12 : Int32), .val fv] [] := by
  cases fv <;> first | (cases hfv; done) | skip
  all_goals first | (simp [entryFrame, mkF, argsToLocals, Value.category]; done) | rfl
set_option maxRecDepth 65536 in
set_option maxHeartbeats 40000000 in
theorem own_pc_59 (l : Launch) (Z : State) (a0 : Array Value) (hw : ∀ d ∈ tables_1, d.before a0 Z = true) (fv : Value)  (h : Heap) (n0 : Nat) (hn0 : Old Z n0 h) (hfv : fv.isRef = true)  :
    Con l Z (⟨"jdk/internal/util/Preconditions", "checkIndex", "(IILjava/util/function/BiFunction;)I"⟩ : MethodName) jdk_41_method_11_code 3 (some .int) ({ frames := 0, cells := 0, slots := 0, locals := 0 } : Room) #[(.int (9 : Int32)), (.int (12 : Int32)), fv] h n0 (fun v h' => v = some (.int (9 : Int32)) ∧ h = h') := by
  refine con_of hw (plainFor_of_name pn_jdk_internal_util_Preconditions) hn0 ?_
  intro p e s m below meth c T0 C X0
  refine Go.cast (congrArg T0.setTop (ef_own_pc_59 m fv hfv)) ?_
  refine go_iloadN C X0 1 rfl d25_0 rfl ?_
  refine go_if_lt C X0 d25_1 (pc' := 4) (pc2 := 9) rfl (by decide) (by decide) (fun (c1 : 9 < 0) => False.elim (by first | omega | exact absurd c1 (by decide))) (fun (c1 : 0 ≤ 9) => ?_)
  refine go_iloadN C X0 5 rfl d25_4 rfl ?_
  refine go_iloadN C X0 6 rfl d25_5 rfl ?_
  refine go_icmp_lt C X0 d25_6 (pc' := 9) (pc2 := 16) rfl (by decide) (by decide) (fun (c6 : 9 < 12) => ?_) (fun (c6 : 12 ≤ 9) => False.elim (by first | omega | exact absurd c6 (by decide)))
  refine go_iloadN C X0 17 rfl d25_16 rfl ?_
  exact go_retI C X0 d25_17 ⟨rfl, rfl⟩ (by decide) (by decide)
theorem ef_own_sc_58 (m : MethodId)   : entryFrame m #[(.int (9 : Int32)), (.int (12 : Int32))] 2 = mkF m 0 #[iv (9 : Int32), iv (12 : Int32)] [] := by
  first | (simp [entryFrame, mkF, argsToLocals, Value.category]; done) | rfl
set_option maxRecDepth 65536 in
set_option maxHeartbeats 40000000 in
theorem own_sc_58 (l : Launch) (Z : State) (a0 : Array Value) (hw : ∀ d ∈ tables_1, d.before a0 Z = true)  (cs : Int32) (fv : Value) (h : Heap) (n0 : Nat) (hn0 : Old Z n0 h) (hcs : ¬ cs = 0) (S1 : Sta Z Z.heap "java/lang/String" "COMPACT_STRINGS" "Z" (.int cs)) (hfv : fv.isRef = true) (S2 : Sta Z Z.heap "jdk/internal/util/Preconditions" "SIOOBE_FORMATTER" "Ljava/util/function/BiFunction;" fv) :
    Con l Z (⟨"java/lang/String", "checkIndex", "(II)V"⟩ : MethodName) jdk_42_method_155_code 2 none ({ frames := 1, cells := 0, slots := 0, locals := 14 } : Room) #[(.int (9 : Int32)), (.int (12 : Int32))] h n0 (fun v h' => v = none ∧ h = h') := by
  refine con_of hw (plainFor_of_name pn_java_lang_String) hn0 ?_
  intro p e s m below meth c T0 C X0
  refine Go.cast (congrArg T0.setTop (ef_own_sc_58 m )) ?_
  refine go_iloadN C X0 1 rfl d24_0 rfl ?_
  refine go_iloadN C X0 2 rfl d24_1 rfl ?_
  refine go_getS C X0 (C.w 127 rfl) (S2.ext X0.old.2) (pc' := 5) rfl d24_2 (fun T1 X2 => ?_)
  refine go_callS C X2 (C.w 129 rfl) (C.w 130 rfl) (C.w 128 rfl) (C.w 131 rfl) (own_pc_59 l Z a0 C.ws fv h n0 X2.old hfv) (argsL := [(.int (9 : Int32)), (.int (12 : Int32)), fv]) (rest := []) (lenOf pd_10 rfl) rfl (by decide) (by decide) (Nat.le_of_ble_eq_true rfl) (by decide) (by decide) rfl rfl (pc' := 8) rfl d24_5 ?_
  rintro T3 _ _ ⟨rfl, rfl⟩ X4
  show Go p e below _ (T3.setTop (mkF m 8 #[iv (9 : Int32), iv (12 : Int32)] [(.int (9 : Int32))]))
  refine go_pop C X4 9 rfl d24_8 rfl ?_
  exact go_ret0 C X4 d24_9 ⟨rfl, rfl⟩ (by decide) (by decide)
theorem ef_own_lc_57 (m : MethodId) (sb : Addr)  : entryFrame m #[(.ref sb), (.int (9 : Int32))] 2 = mkF m 0 #[rv sb, iv (9 : Int32)] [] := by
  first | (simp [entryFrame, mkF, argsToLocals, Value.category]; done) | rfl
set_option maxRecDepth 65536 in
set_option maxHeartbeats 40000000 in
theorem own_lc_57 (l : Launch) (Z : State) (a0 : Array Value) (hw : ∀ d ∈ tables_1, d.before a0 Z = true) (sb : Addr) (cs : Int32) (fv : Value) (h : Heap) (n0 : Nat) (hn0 : Old Z n0 h) (AS : La Z h sb .byte [(.int (97 : Int32)), (.int (97 : Int32)), (.int (97 : Int32)), (.int (97 : Int32)), (.int (97 : Int32)), (.int (97 : Int32)), (.int (97 : Int32)), (.int (97 : Int32)), (.int (97 : Int32)), (.int (97 : Int32)), (.int (97 : Int32)), (.int (97 : Int32))]) (hcs : ¬ cs = 0) (S1 : Sta Z Z.heap "java/lang/String" "COMPACT_STRINGS" "Z" (.int cs)) (hfv : fv.isRef = true) (S2 : Sta Z Z.heap "jdk/internal/util/Preconditions" "SIOOBE_FORMATTER" "Ljava/util/function/BiFunction;" fv) :
    Con l Z (⟨"java/lang/StringLatin1", "charAt", "([BI)C"⟩ : MethodName) jdk_43_method_2_code 2 (some .char) ({ frames := 2, cells := 0, slots := 0, locals := 27 } : Room) #[(.ref sb), (.int (9 : Int32))] h n0 (fun v h' => v = some (.int (97 : Int32)) ∧ h = h') := by
  refine con_of hw (plainFor_of_name pn_java_lang_StringLatin1) hn0 ?_
  intro p e s m below meth c T0 C X0
  refine Go.cast (congrArg T0.setTop (ef_own_lc_57 m sb)) ?_
  refine go_iloadN C X0 1 rfl d23_0 rfl ?_
  refine go_aloadN C X0 2 rfl d23_1 rfl rfl ?_
  refine go_alen C X0 AS (z := (12 : Int32)) rfl (pc' := 3) rfl d23_2 ?_
  refine go_callS C X0 (C.w 124 rfl) (C.w 125 rfl) (C.w 74 rfl) (C.w 126 rfl) (own_sc_58 l Z a0 C.ws cs fv h n0 X0.old hcs S1 hfv S2) (argsL := [(.int (9 : Int32)), (.int (12 : Int32))]) (rest := []) (lenOf pd_11 rfl) rfl (by decide) (by decide) (Nat.le_of_ble_eq_true rfl) (by decide) (by decide) rfl rfl (pc' := 6) rfl d23_3 ?_
  rintro T1 _ _ ⟨rfl, rfl⟩ X2
  show Go p e below _ (T1.setTop (mkF m 6 #[rv sb, iv (9 : Int32)] []))
  refine go_aloadN C X2 7 rfl d23_6 rfl rfl ?_
  refine go_iloadN C X2 8 rfl d23_7 rfl ?_
  refine go_baloadBytes C X2 AS (by decide) (v := (.int (97 : Int32))) rfl (pc' := 9) rfl d23_8 ?_
  refine go_sipush C X2 12 rfl d23_9 (z := 255) rfl ?_
  refine go_iandL C X2 13 rfl d23_12 (z := (97)) rfl ?_
  refine go_i2c C X2 14 rfl d23_13 ?_
  show Go p e below _ (T1.setTop (mkF m 14 #[rv sb, iv (9 : Int32)] [(.int (97 : Int32))]))
  exact go_retN C X2 (by simp) (z' := 97) rfl d23_14 ⟨rfl, rfl⟩ (by decide) (by decide)
theorem ef_own_s21_56 (m : MethodId) (sa : Addr)  : entryFrame m #[(.ref sa), (.int (9 : Int32))] 2 = mkF m 0 #[rv sa, iv (9 : Int32)] [] := by
  first | (simp [entryFrame, mkF, argsToLocals, Value.category]; done) | rfl
set_option maxRecDepth 65536 in
set_option maxHeartbeats 40000000 in
theorem own_s21_56 (l : Launch) (Z : State) (a0 : Array Value) (hw : ∀ d ∈ tables_1, d.before a0 Z = true) (sa : Addr) (sb : Addr) (cs : Int32) (fv : Value) (h : Heap) (n0 : Nat) (hn0 : Old Z n0 h) (ES : Exa Z h sa "java/lang/String") (G1 : Fld Z h sa "java/lang/String" "coder" "B" (.int 0)) (G2 : Fld Z h sa "java/lang/String" "value" "[B" (.ref sb)) (AS : La Z h sb .byte [(.int (97 : Int32)), (.int (97 : Int32)), (.int (97 : Int32)), (.int (97 : Int32)), (.int (97 : Int32)), (.int (97 : Int32)), (.int (97 : Int32)), (.int (97 : Int32)), (.int (97 : Int32)), (.int (97 : Int32)), (.int (97 : Int32)), (.int (97 : Int32))]) (hcs : ¬ cs = 0) (S1 : Sta Z Z.heap "java/lang/String" "COMPACT_STRINGS" "Z" (.int cs)) (hfv : fv.isRef = true) (S2 : Sta Z Z.heap "jdk/internal/util/Preconditions" "SIOOBE_FORMATTER" "Ljava/util/function/BiFunction;" fv) :
    Con l Z (⟨"java/lang/String", "charAt", "(I)C"⟩ : MethodName) jdk_42_method_56_code 2 (some .char) ({ frames := 3, cells := 0, slots := 0, locals := 40 } : Room) #[(.ref sa), (.int (9 : Int32))] h n0 (fun v h' => v = some (.int (97 : Int32)) ∧ h = h') := by
  refine con_of hw (plainFor_of_name pn_java_lang_String) hn0 ?_
  intro p e s m below meth c T0 C X0
  refine Go.cast (congrArg T0.setTop (ef_own_s21_56 m sa)) ?_
  refine go_aloadN C X0 1 rfl d21_0 rfl rfl ?_
  refine go_virtual C X0 ES (C.w 116 rfl) (C.w 117 rfl) (notFace_of_selects (args := #[]) (mvT C.hZ (C.w 119 rfl))) (C.w 119 rfl) (C.w 118 rfl) (C.w 74 rfl) (C.w 120 rfl) (own_s22_14 l Z a0 C.ws sa sb cs fv h n0 X0.old ES G1 G2 AS hcs S1 hfv S2) (argsL := []) (rest := []) (lenOf pd_9 rfl) rfl (by decide) (by decide) (Nat.le_of_ble_eq_true rfl) (by decide) (by decide) rfl rfl (pc' := 4) rfl d21_1 ?_
  rintro T1 _ _ ⟨rfl, rfl⟩ X2
  show Go p e below _ (T1.setTop (mkF m 4 #[rv sa, iv (9 : Int32)] [(.int (1 : Int32))]))
  refine go_if_eq C X2 d21_4 (pc' := 7) (pc2 := 16) rfl (by decide) (by decide) (fun (c4 : (1 : Int32) = (0 : Int32)) => False.elim (by first | omega | exact absurd c4 (by decide))) (fun (c4 : ¬ (1 : Int32) = (0 : Int32)) => ?_)
  refine go_aloadN C X2 8 rfl d21_7 rfl rfl ?_
  refine go_getF C X2 (C.w 92 rfl) Via.refl G2 (pc' := 11) rfl d21_8 (fun T4 X5 => ?_)
  refine go_iloadN C X5 12 rfl d21_11 rfl ?_
  refine go_callS C X5 (C.w 121 rfl) (C.w 122 rfl) (C.w 79 rfl) (C.w 123 rfl) (own_lc_57 l Z a0 C.ws sb cs fv h n0 X5.old AS hcs S1 hfv S2) (argsL := [(.ref sb), (.int (9 : Int32))]) (rest := []) (lenOf pd_12 rfl) rfl (by decide) (by decide) (Nat.le_of_ble_eq_true rfl) (by decide) (by decide) rfl rfl (pc' := 15) rfl d21_12 ?_
  rintro T6 _ _ ⟨rfl, rfl⟩ X7
  show Go p e below _ (T6.setTop (mkF m 15 #[rv sa, iv (9 : Int32)] [(.int (97 : Int32))]))
  exact go_retN C X7 (by simp) (z' := 97) rfl d21_15 ⟨rfl, rfl⟩ (by decide) (by decide)
theorem ef_own_pc_63 (m : MethodId) (fv : Value) (hfv : fv.isRef = true) : entryFrame m #[(.int (10 : Int32)), (.int (12 : Int32)), fv] 3 = mkF m 0 #[iv (10 : Int32), iv (12 : Int32), .val fv] [] := by
  cases fv <;> first | (cases hfv; done) | skip
  all_goals first | (simp [entryFrame, mkF, argsToLocals, Value.category]; done) | rfl
set_option maxRecDepth 65536 in
set_option maxHeartbeats 40000000 in
theorem own_pc_63 (l : Launch) (Z : State) (a0 : Array Value) (hw : ∀ d ∈ tables_1, d.before a0 Z = true) (fv : Value)  (h : Heap) (n0 : Nat) (hn0 : Old Z n0 h) (hfv : fv.isRef = true)  :
    Con l Z (⟨"jdk/internal/util/Preconditions", "checkIndex", "(IILjava/util/function/BiFunction;)I"⟩ : MethodName) jdk_41_method_11_code 3 (some .int) ({ frames := 0, cells := 0, slots := 0, locals := 0 } : Room) #[(.int (10 : Int32)), (.int (12 : Int32)), fv] h n0 (fun v h' => v = some (.int (10 : Int32)) ∧ h = h') := by
  refine con_of hw (plainFor_of_name pn_jdk_internal_util_Preconditions) hn0 ?_
  intro p e s m below meth c T0 C X0
  refine Go.cast (congrArg T0.setTop (ef_own_pc_63 m fv hfv)) ?_
  refine go_iloadN C X0 1 rfl d25_0 rfl ?_
  refine go_if_lt C X0 d25_1 (pc' := 4) (pc2 := 9) rfl (by decide) (by decide) (fun (c1 : 10 < 0) => False.elim (by first | omega | exact absurd c1 (by decide))) (fun (c1 : 0 ≤ 10) => ?_)
  refine go_iloadN C X0 5 rfl d25_4 rfl ?_
  refine go_iloadN C X0 6 rfl d25_5 rfl ?_
  refine go_icmp_lt C X0 d25_6 (pc' := 9) (pc2 := 16) rfl (by decide) (by decide) (fun (c6 : 10 < 12) => ?_) (fun (c6 : 12 ≤ 10) => False.elim (by first | omega | exact absurd c6 (by decide)))
  refine go_iloadN C X0 17 rfl d25_16 rfl ?_
  exact go_retI C X0 d25_17 ⟨rfl, rfl⟩ (by decide) (by decide)
theorem ef_own_sc_62 (m : MethodId)   : entryFrame m #[(.int (10 : Int32)), (.int (12 : Int32))] 2 = mkF m 0 #[iv (10 : Int32), iv (12 : Int32)] [] := by
  first | (simp [entryFrame, mkF, argsToLocals, Value.category]; done) | rfl
set_option maxRecDepth 65536 in
set_option maxHeartbeats 40000000 in
theorem own_sc_62 (l : Launch) (Z : State) (a0 : Array Value) (hw : ∀ d ∈ tables_1, d.before a0 Z = true)  (cs : Int32) (fv : Value) (h : Heap) (n0 : Nat) (hn0 : Old Z n0 h) (hcs : ¬ cs = 0) (S1 : Sta Z Z.heap "java/lang/String" "COMPACT_STRINGS" "Z" (.int cs)) (hfv : fv.isRef = true) (S2 : Sta Z Z.heap "jdk/internal/util/Preconditions" "SIOOBE_FORMATTER" "Ljava/util/function/BiFunction;" fv) :
    Con l Z (⟨"java/lang/String", "checkIndex", "(II)V"⟩ : MethodName) jdk_42_method_155_code 2 none ({ frames := 1, cells := 0, slots := 0, locals := 14 } : Room) #[(.int (10 : Int32)), (.int (12 : Int32))] h n0 (fun v h' => v = none ∧ h = h') := by
  refine con_of hw (plainFor_of_name pn_java_lang_String) hn0 ?_
  intro p e s m below meth c T0 C X0
  refine Go.cast (congrArg T0.setTop (ef_own_sc_62 m )) ?_
  refine go_iloadN C X0 1 rfl d24_0 rfl ?_
  refine go_iloadN C X0 2 rfl d24_1 rfl ?_
  refine go_getS C X0 (C.w 127 rfl) (S2.ext X0.old.2) (pc' := 5) rfl d24_2 (fun T1 X2 => ?_)
  refine go_callS C X2 (C.w 129 rfl) (C.w 130 rfl) (C.w 128 rfl) (C.w 131 rfl) (own_pc_63 l Z a0 C.ws fv h n0 X2.old hfv) (argsL := [(.int (10 : Int32)), (.int (12 : Int32)), fv]) (rest := []) (lenOf pd_10 rfl) rfl (by decide) (by decide) (Nat.le_of_ble_eq_true rfl) (by decide) (by decide) rfl rfl (pc' := 8) rfl d24_5 ?_
  rintro T3 _ _ ⟨rfl, rfl⟩ X4
  show Go p e below _ (T3.setTop (mkF m 8 #[iv (10 : Int32), iv (12 : Int32)] [(.int (10 : Int32))]))
  refine go_pop C X4 9 rfl d24_8 rfl ?_
  exact go_ret0 C X4 d24_9 ⟨rfl, rfl⟩ (by decide) (by decide)
theorem ef_own_lc_61 (m : MethodId) (sb : Addr)  : entryFrame m #[(.ref sb), (.int (10 : Int32))] 2 = mkF m 0 #[rv sb, iv (10 : Int32)] [] := by
  first | (simp [entryFrame, mkF, argsToLocals, Value.category]; done) | rfl
set_option maxRecDepth 65536 in
set_option maxHeartbeats 40000000 in
theorem own_lc_61 (l : Launch) (Z : State) (a0 : Array Value) (hw : ∀ d ∈ tables_1, d.before a0 Z = true) (sb : Addr) (cs : Int32) (fv : Value) (h : Heap) (n0 : Nat) (hn0 : Old Z n0 h) (AS : La Z h sb .byte [(.int (97 : Int32)), (.int (97 : Int32)), (.int (97 : Int32)), (.int (97 : Int32)), (.int (97 : Int32)), (.int (97 : Int32)), (.int (97 : Int32)), (.int (97 : Int32)), (.int (97 : Int32)), (.int (97 : Int32)), (.int (97 : Int32)), (.int (97 : Int32))]) (hcs : ¬ cs = 0) (S1 : Sta Z Z.heap "java/lang/String" "COMPACT_STRINGS" "Z" (.int cs)) (hfv : fv.isRef = true) (S2 : Sta Z Z.heap "jdk/internal/util/Preconditions" "SIOOBE_FORMATTER" "Ljava/util/function/BiFunction;" fv) :
    Con l Z (⟨"java/lang/StringLatin1", "charAt", "([BI)C"⟩ : MethodName) jdk_43_method_2_code 2 (some .char) ({ frames := 2, cells := 0, slots := 0, locals := 27 } : Room) #[(.ref sb), (.int (10 : Int32))] h n0 (fun v h' => v = some (.int (97 : Int32)) ∧ h = h') := by
  refine con_of hw (plainFor_of_name pn_java_lang_StringLatin1) hn0 ?_
  intro p e s m below meth c T0 C X0
  refine Go.cast (congrArg T0.setTop (ef_own_lc_61 m sb)) ?_
  refine go_iloadN C X0 1 rfl d23_0 rfl ?_
  refine go_aloadN C X0 2 rfl d23_1 rfl rfl ?_
  refine go_alen C X0 AS (z := (12 : Int32)) rfl (pc' := 3) rfl d23_2 ?_
  refine go_callS C X0 (C.w 124 rfl) (C.w 125 rfl) (C.w 74 rfl) (C.w 126 rfl) (own_sc_62 l Z a0 C.ws cs fv h n0 X0.old hcs S1 hfv S2) (argsL := [(.int (10 : Int32)), (.int (12 : Int32))]) (rest := []) (lenOf pd_11 rfl) rfl (by decide) (by decide) (Nat.le_of_ble_eq_true rfl) (by decide) (by decide) rfl rfl (pc' := 6) rfl d23_3 ?_
  rintro T1 _ _ ⟨rfl, rfl⟩ X2
  show Go p e below _ (T1.setTop (mkF m 6 #[rv sb, iv (10 : Int32)] []))
  refine go_aloadN C X2 7 rfl d23_6 rfl rfl ?_
  refine go_iloadN C X2 8 rfl d23_7 rfl ?_
  refine go_baloadBytes C X2 AS (by decide) (v := (.int (97 : Int32))) rfl (pc' := 9) rfl d23_8 ?_
  refine go_sipush C X2 12 rfl d23_9 (z := 255) rfl ?_
  refine go_iandL C X2 13 rfl d23_12 (z := (97)) rfl ?_
  refine go_i2c C X2 14 rfl d23_13 ?_
  show Go p e below _ (T1.setTop (mkF m 14 #[rv sb, iv (10 : Int32)] [(.int (97 : Int32))]))
  exact go_retN C X2 (by simp) (z' := 97) rfl d23_14 ⟨rfl, rfl⟩ (by decide) (by decide)
theorem ef_own_s21_60 (m : MethodId) (sa : Addr)  : entryFrame m #[(.ref sa), (.int (10 : Int32))] 2 = mkF m 0 #[rv sa, iv (10 : Int32)] [] := by
  first | (simp [entryFrame, mkF, argsToLocals, Value.category]; done) | rfl
set_option maxRecDepth 65536 in
set_option maxHeartbeats 40000000 in
theorem own_s21_60 (l : Launch) (Z : State) (a0 : Array Value) (hw : ∀ d ∈ tables_1, d.before a0 Z = true) (sa : Addr) (sb : Addr) (cs : Int32) (fv : Value) (h : Heap) (n0 : Nat) (hn0 : Old Z n0 h) (ES : Exa Z h sa "java/lang/String") (G1 : Fld Z h sa "java/lang/String" "coder" "B" (.int 0)) (G2 : Fld Z h sa "java/lang/String" "value" "[B" (.ref sb)) (AS : La Z h sb .byte [(.int (97 : Int32)), (.int (97 : Int32)), (.int (97 : Int32)), (.int (97 : Int32)), (.int (97 : Int32)), (.int (97 : Int32)), (.int (97 : Int32)), (.int (97 : Int32)), (.int (97 : Int32)), (.int (97 : Int32)), (.int (97 : Int32)), (.int (97 : Int32))]) (hcs : ¬ cs = 0) (S1 : Sta Z Z.heap "java/lang/String" "COMPACT_STRINGS" "Z" (.int cs)) (hfv : fv.isRef = true) (S2 : Sta Z Z.heap "jdk/internal/util/Preconditions" "SIOOBE_FORMATTER" "Ljava/util/function/BiFunction;" fv) :
    Con l Z (⟨"java/lang/String", "charAt", "(I)C"⟩ : MethodName) jdk_42_method_56_code 2 (some .char) ({ frames := 3, cells := 0, slots := 0, locals := 40 } : Room) #[(.ref sa), (.int (10 : Int32))] h n0 (fun v h' => v = some (.int (97 : Int32)) ∧ h = h') := by
  refine con_of hw (plainFor_of_name pn_java_lang_String) hn0 ?_
  intro p e s m below meth c T0 C X0
  refine Go.cast (congrArg T0.setTop (ef_own_s21_60 m sa)) ?_
  refine go_aloadN C X0 1 rfl d21_0 rfl rfl ?_
  refine go_virtual C X0 ES (C.w 116 rfl) (C.w 117 rfl) (notFace_of_selects (args := #[]) (mvT C.hZ (C.w 119 rfl))) (C.w 119 rfl) (C.w 118 rfl) (C.w 74 rfl) (C.w 120 rfl) (own_s22_14 l Z a0 C.ws sa sb cs fv h n0 X0.old ES G1 G2 AS hcs S1 hfv S2) (argsL := []) (rest := []) (lenOf pd_9 rfl) rfl (by decide) (by decide) (Nat.le_of_ble_eq_true rfl) (by decide) (by decide) rfl rfl (pc' := 4) rfl d21_1 ?_
  rintro T1 _ _ ⟨rfl, rfl⟩ X2
  show Go p e below _ (T1.setTop (mkF m 4 #[rv sa, iv (10 : Int32)] [(.int (1 : Int32))]))
  refine go_if_eq C X2 d21_4 (pc' := 7) (pc2 := 16) rfl (by decide) (by decide) (fun (c4 : (1 : Int32) = (0 : Int32)) => False.elim (by first | omega | exact absurd c4 (by decide))) (fun (c4 : ¬ (1 : Int32) = (0 : Int32)) => ?_)
  refine go_aloadN C X2 8 rfl d21_7 rfl rfl ?_
  refine go_getF C X2 (C.w 92 rfl) Via.refl G2 (pc' := 11) rfl d21_8 (fun T4 X5 => ?_)
  refine go_iloadN C X5 12 rfl d21_11 rfl ?_
  refine go_callS C X5 (C.w 121 rfl) (C.w 122 rfl) (C.w 79 rfl) (C.w 123 rfl) (own_lc_61 l Z a0 C.ws sb cs fv h n0 X5.old AS hcs S1 hfv S2) (argsL := [(.ref sb), (.int (10 : Int32))]) (rest := []) (lenOf pd_12 rfl) rfl (by decide) (by decide) (Nat.le_of_ble_eq_true rfl) (by decide) (by decide) rfl rfl (pc' := 15) rfl d21_12 ?_
  rintro T6 _ _ ⟨rfl, rfl⟩ X7
  show Go p e below _ (T6.setTop (mkF m 15 #[rv sa, iv (10 : Int32)] [(.int (97 : Int32))]))
  exact go_retN C X7 (by simp) (z' := 97) rfl d21_15 ⟨rfl, rfl⟩ (by decide) (by decide)
theorem ef_own_pc_67 (m : MethodId) (fv : Value) (hfv : fv.isRef = true) : entryFrame m #[(.int (11 : Int32)), (.int (12 : Int32)), fv] 3 = mkF m 0 #[iv (11 : Int32), iv (12 : Int32), .val fv] [] := by
  cases fv <;> first | (cases hfv; done) | skip
  all_goals first | (simp [entryFrame, mkF, argsToLocals, Value.category]; done) | rfl
set_option maxRecDepth 65536 in
set_option maxHeartbeats 40000000 in
theorem own_pc_67 (l : Launch) (Z : State) (a0 : Array Value) (hw : ∀ d ∈ tables_1, d.before a0 Z = true) (fv : Value)  (h : Heap) (n0 : Nat) (hn0 : Old Z n0 h) (hfv : fv.isRef = true)  :
    Con l Z (⟨"jdk/internal/util/Preconditions", "checkIndex", "(IILjava/util/function/BiFunction;)I"⟩ : MethodName) jdk_41_method_11_code 3 (some .int) ({ frames := 0, cells := 0, slots := 0, locals := 0 } : Room) #[(.int (11 : Int32)), (.int (12 : Int32)), fv] h n0 (fun v h' => v = some (.int (11 : Int32)) ∧ h = h') := by
  refine con_of hw (plainFor_of_name pn_jdk_internal_util_Preconditions) hn0 ?_
  intro p e s m below meth c T0 C X0
  refine Go.cast (congrArg T0.setTop (ef_own_pc_67 m fv hfv)) ?_
  refine go_iloadN C X0 1 rfl d25_0 rfl ?_
  refine go_if_lt C X0 d25_1 (pc' := 4) (pc2 := 9) rfl (by decide) (by decide) (fun (c1 : 11 < 0) => False.elim (by first | omega | exact absurd c1 (by decide))) (fun (c1 : 0 ≤ 11) => ?_)
  refine go_iloadN C X0 5 rfl d25_4 rfl ?_
  refine go_iloadN C X0 6 rfl d25_5 rfl ?_
  refine go_icmp_lt C X0 d25_6 (pc' := 9) (pc2 := 16) rfl (by decide) (by decide) (fun (c6 : 11 < 12) => ?_) (fun (c6 : 12 ≤ 11) => False.elim (by first | omega | exact absurd c6 (by decide)))
  refine go_iloadN C X0 17 rfl d25_16 rfl ?_
  exact go_retI C X0 d25_17 ⟨rfl, rfl⟩ (by decide) (by decide)
theorem ef_own_sc_66 (m : MethodId)   : entryFrame m #[(.int (11 : Int32)), (.int (12 : Int32))] 2 = mkF m 0 #[iv (11 : Int32), iv (12 : Int32)] [] := by
  first | (simp [entryFrame, mkF, argsToLocals, Value.category]; done) | rfl
set_option maxRecDepth 65536 in
set_option maxHeartbeats 40000000 in
theorem own_sc_66 (l : Launch) (Z : State) (a0 : Array Value) (hw : ∀ d ∈ tables_1, d.before a0 Z = true)  (cs : Int32) (fv : Value) (h : Heap) (n0 : Nat) (hn0 : Old Z n0 h) (hcs : ¬ cs = 0) (S1 : Sta Z Z.heap "java/lang/String" "COMPACT_STRINGS" "Z" (.int cs)) (hfv : fv.isRef = true) (S2 : Sta Z Z.heap "jdk/internal/util/Preconditions" "SIOOBE_FORMATTER" "Ljava/util/function/BiFunction;" fv) :
    Con l Z (⟨"java/lang/String", "checkIndex", "(II)V"⟩ : MethodName) jdk_42_method_155_code 2 none ({ frames := 1, cells := 0, slots := 0, locals := 14 } : Room) #[(.int (11 : Int32)), (.int (12 : Int32))] h n0 (fun v h' => v = none ∧ h = h') := by
  refine con_of hw (plainFor_of_name pn_java_lang_String) hn0 ?_
  intro p e s m below meth c T0 C X0
  refine Go.cast (congrArg T0.setTop (ef_own_sc_66 m )) ?_
  refine go_iloadN C X0 1 rfl d24_0 rfl ?_
  refine go_iloadN C X0 2 rfl d24_1 rfl ?_
  refine go_getS C X0 (C.w 127 rfl) (S2.ext X0.old.2) (pc' := 5) rfl d24_2 (fun T1 X2 => ?_)
  refine go_callS C X2 (C.w 129 rfl) (C.w 130 rfl) (C.w 128 rfl) (C.w 131 rfl) (own_pc_67 l Z a0 C.ws fv h n0 X2.old hfv) (argsL := [(.int (11 : Int32)), (.int (12 : Int32)), fv]) (rest := []) (lenOf pd_10 rfl) rfl (by decide) (by decide) (Nat.le_of_ble_eq_true rfl) (by decide) (by decide) rfl rfl (pc' := 8) rfl d24_5 ?_
  rintro T3 _ _ ⟨rfl, rfl⟩ X4
  show Go p e below _ (T3.setTop (mkF m 8 #[iv (11 : Int32), iv (12 : Int32)] [(.int (11 : Int32))]))
  refine go_pop C X4 9 rfl d24_8 rfl ?_
  exact go_ret0 C X4 d24_9 ⟨rfl, rfl⟩ (by decide) (by decide)
theorem ef_own_lc_65 (m : MethodId) (sb : Addr)  : entryFrame m #[(.ref sb), (.int (11 : Int32))] 2 = mkF m 0 #[rv sb, iv (11 : Int32)] [] := by
  first | (simp [entryFrame, mkF, argsToLocals, Value.category]; done) | rfl
set_option maxRecDepth 65536 in
set_option maxHeartbeats 40000000 in
theorem own_lc_65 (l : Launch) (Z : State) (a0 : Array Value) (hw : ∀ d ∈ tables_1, d.before a0 Z = true) (sb : Addr) (cs : Int32) (fv : Value) (h : Heap) (n0 : Nat) (hn0 : Old Z n0 h) (AS : La Z h sb .byte [(.int (97 : Int32)), (.int (97 : Int32)), (.int (97 : Int32)), (.int (97 : Int32)), (.int (97 : Int32)), (.int (97 : Int32)), (.int (97 : Int32)), (.int (97 : Int32)), (.int (97 : Int32)), (.int (97 : Int32)), (.int (97 : Int32)), (.int (97 : Int32))]) (hcs : ¬ cs = 0) (S1 : Sta Z Z.heap "java/lang/String" "COMPACT_STRINGS" "Z" (.int cs)) (hfv : fv.isRef = true) (S2 : Sta Z Z.heap "jdk/internal/util/Preconditions" "SIOOBE_FORMATTER" "Ljava/util/function/BiFunction;" fv) :
    Con l Z (⟨"java/lang/StringLatin1", "charAt", "([BI)C"⟩ : MethodName) jdk_43_method_2_code 2 (some .char) ({ frames := 2, cells := 0, slots := 0, locals := 27 } : Room) #[(.ref sb), (.int (11 : Int32))] h n0 (fun v h' => v = some (.int (97 : Int32)) ∧ h = h') := by
  refine con_of hw (plainFor_of_name pn_java_lang_StringLatin1) hn0 ?_
  intro p e s m below meth c T0 C X0
  refine Go.cast (congrArg T0.setTop (ef_own_lc_65 m sb)) ?_
  refine go_iloadN C X0 1 rfl d23_0 rfl ?_
  refine go_aloadN C X0 2 rfl d23_1 rfl rfl ?_
  refine go_alen C X0 AS (z := (12 : Int32)) rfl (pc' := 3) rfl d23_2 ?_
  refine go_callS C X0 (C.w 124 rfl) (C.w 125 rfl) (C.w 74 rfl) (C.w 126 rfl) (own_sc_66 l Z a0 C.ws cs fv h n0 X0.old hcs S1 hfv S2) (argsL := [(.int (11 : Int32)), (.int (12 : Int32))]) (rest := []) (lenOf pd_11 rfl) rfl (by decide) (by decide) (Nat.le_of_ble_eq_true rfl) (by decide) (by decide) rfl rfl (pc' := 6) rfl d23_3 ?_
  rintro T1 _ _ ⟨rfl, rfl⟩ X2
  show Go p e below _ (T1.setTop (mkF m 6 #[rv sb, iv (11 : Int32)] []))
  refine go_aloadN C X2 7 rfl d23_6 rfl rfl ?_
  refine go_iloadN C X2 8 rfl d23_7 rfl ?_
  refine go_baloadBytes C X2 AS (by decide) (v := (.int (97 : Int32))) rfl (pc' := 9) rfl d23_8 ?_
  refine go_sipush C X2 12 rfl d23_9 (z := 255) rfl ?_
  refine go_iandL C X2 13 rfl d23_12 (z := (97)) rfl ?_
  refine go_i2c C X2 14 rfl d23_13 ?_
  show Go p e below _ (T1.setTop (mkF m 14 #[rv sb, iv (11 : Int32)] [(.int (97 : Int32))]))
  exact go_retN C X2 (by simp) (z' := 97) rfl d23_14 ⟨rfl, rfl⟩ (by decide) (by decide)
theorem ef_own_s21_64 (m : MethodId) (sa : Addr)  : entryFrame m #[(.ref sa), (.int (11 : Int32))] 2 = mkF m 0 #[rv sa, iv (11 : Int32)] [] := by
  first | (simp [entryFrame, mkF, argsToLocals, Value.category]; done) | rfl
set_option maxRecDepth 65536 in
set_option maxHeartbeats 40000000 in
theorem own_s21_64 (l : Launch) (Z : State) (a0 : Array Value) (hw : ∀ d ∈ tables_1, d.before a0 Z = true) (sa : Addr) (sb : Addr) (cs : Int32) (fv : Value) (h : Heap) (n0 : Nat) (hn0 : Old Z n0 h) (ES : Exa Z h sa "java/lang/String") (G1 : Fld Z h sa "java/lang/String" "coder" "B" (.int 0)) (G2 : Fld Z h sa "java/lang/String" "value" "[B" (.ref sb)) (AS : La Z h sb .byte [(.int (97 : Int32)), (.int (97 : Int32)), (.int (97 : Int32)), (.int (97 : Int32)), (.int (97 : Int32)), (.int (97 : Int32)), (.int (97 : Int32)), (.int (97 : Int32)), (.int (97 : Int32)), (.int (97 : Int32)), (.int (97 : Int32)), (.int (97 : Int32))]) (hcs : ¬ cs = 0) (S1 : Sta Z Z.heap "java/lang/String" "COMPACT_STRINGS" "Z" (.int cs)) (hfv : fv.isRef = true) (S2 : Sta Z Z.heap "jdk/internal/util/Preconditions" "SIOOBE_FORMATTER" "Ljava/util/function/BiFunction;" fv) :
    Con l Z (⟨"java/lang/String", "charAt", "(I)C"⟩ : MethodName) jdk_42_method_56_code 2 (some .char) ({ frames := 3, cells := 0, slots := 0, locals := 40 } : Room) #[(.ref sa), (.int (11 : Int32))] h n0 (fun v h' => v = some (.int (97 : Int32)) ∧ h = h') := by
  refine con_of hw (plainFor_of_name pn_java_lang_String) hn0 ?_
  intro p e s m below meth c T0 C X0
  refine Go.cast (congrArg T0.setTop (ef_own_s21_64 m sa)) ?_
  refine go_aloadN C X0 1 rfl d21_0 rfl rfl ?_
  refine go_virtual C X0 ES (C.w 116 rfl) (C.w 117 rfl) (notFace_of_selects (args := #[]) (mvT C.hZ (C.w 119 rfl))) (C.w 119 rfl) (C.w 118 rfl) (C.w 74 rfl) (C.w 120 rfl) (own_s22_14 l Z a0 C.ws sa sb cs fv h n0 X0.old ES G1 G2 AS hcs S1 hfv S2) (argsL := []) (rest := []) (lenOf pd_9 rfl) rfl (by decide) (by decide) (Nat.le_of_ble_eq_true rfl) (by decide) (by decide) rfl rfl (pc' := 4) rfl d21_1 ?_
  rintro T1 _ _ ⟨rfl, rfl⟩ X2
  show Go p e below _ (T1.setTop (mkF m 4 #[rv sa, iv (11 : Int32)] [(.int (1 : Int32))]))
  refine go_if_eq C X2 d21_4 (pc' := 7) (pc2 := 16) rfl (by decide) (by decide) (fun (c4 : (1 : Int32) = (0 : Int32)) => False.elim (by first | omega | exact absurd c4 (by decide))) (fun (c4 : ¬ (1 : Int32) = (0 : Int32)) => ?_)
  refine go_aloadN C X2 8 rfl d21_7 rfl rfl ?_
  refine go_getF C X2 (C.w 92 rfl) Via.refl G2 (pc' := 11) rfl d21_8 (fun T4 X5 => ?_)
  refine go_iloadN C X5 12 rfl d21_11 rfl ?_
  refine go_callS C X5 (C.w 121 rfl) (C.w 122 rfl) (C.w 79 rfl) (C.w 123 rfl) (own_lc_65 l Z a0 C.ws sb cs fv h n0 X5.old AS hcs S1 hfv S2) (argsL := [(.ref sb), (.int (11 : Int32))]) (rest := []) (lenOf pd_12 rfl) rfl (by decide) (by decide) (Nat.le_of_ble_eq_true rfl) (by decide) (by decide) rfl rfl (pc' := 15) rfl d21_12 ?_
  rintro T6 _ _ ⟨rfl, rfl⟩ X7
  show Go p e below _ (T6.setTop (mkF m 15 #[rv sa, iv (11 : Int32)] [(.int (97 : Int32))]))
  exact go_retN C X7 (by simp) (z' := 97) rfl d21_15 ⟨rfl, rfl⟩ (by decide) (by decide)
theorem d18_77 : decode prog_44_method_11_code 77 = .ok (.aload_n 0, 1) := by decide +kernel
theorem d18_78 : decode prog_44_method_11_code 78 = .ok (.dup, 1) := by decide +kernel
theorem d18_79 : decode prog_44_method_11_code 79 = .ok (.getfield 29, 3) := by decide +kernel
theorem d18_82 : decode prog_44_method_11_code 82 = .ok (.iload_n 2, 1) := by decide +kernel
theorem d18_83 : decode prog_44_method_11_code 83 = .ok (.ior, 1) := by decide +kernel
theorem d18_84 : decode prog_44_method_11_code 84 = .ok (.putfield 29, 3) := by decide +kernel
theorem d18_87 : decode prog_44_method_11_code 87 = .ok (.aload_n 0, 1) := by decide +kernel
theorem d18_88 : decode prog_44_method_11_code 88 = .ok (.iload_n 3, 1) := by decide +kernel
theorem d18_89 : decode prog_44_method_11_code 89 = .ok (.ifCond .eq 28, 3) := by decide +kernel
theorem d18_92 : decode prog_44_method_11_code 92 = .ok (.aload_n 0, 1) := by decide +kernel
theorem d18_93 : decode prog_44_method_11_code 93 = .ok (.getfield 29, 3) := by decide +kernel
theorem d18_96 : decode prog_44_method_11_code 96 = .ok (.ifCond .ne 21, 3) := by decide +kernel
theorem d18_99 : decode prog_44_method_11_code 99 = .ok (.aload_n 0, 1) := by decide +kernel
theorem d18_100 : decode prog_44_method_11_code 100 = .ok (.getfield 26, 3) := by decide +kernel
theorem d18_103 : decode prog_44_method_11_code 103 = .ok (.ifCond .ne 10, 3) := by decide +kernel
theorem d18_113 : decode prog_44_method_11_code 113 = .ok (.iconst 1, 1) := by decide +kernel
theorem d18_114 : decode prog_44_method_11_code 114 = .ok (.goto 4, 3) := by decide +kernel
theorem d18_118 : decode prog_44_method_11_code 118 = .ok (.putfield 38, 3) := by decide +kernel
theorem d18_121 : decode prog_44_method_11_code 121 = .ok (.iload_n 2, 1) := by decide +kernel
theorem d18_122 : decode prog_44_method_11_code 122 = .ok (.ifCond .eq 8, 3) := by decide +kernel
theorem d18_130 : decode prog_44_method_11_code 130 = .ok (.aload_n 1, 1) := by decide +kernel
theorem d18_131 : decode prog_44_method_11_code 131 = .ok (.areturn, 1) := by decide +kernel
theorem ef_own_u18_10 (m : MethodId) (a : Addr) (sa : Addr)  : entryFrame m #[(.ref a), (.ref sa)] 6 = mkF m 0 #[rv a, rv sa, un, un, un, un] [] := by
  first | (simp [entryFrame, mkF, argsToLocals, Value.category]; done) | rfl
set_option maxRecDepth 65536 in
set_option maxHeartbeats 40000000 in
theorem own_u18_10 (l : Launch) (Z : State) (a0 : Array Value) (hw : ∀ d ∈ tables_1, d.before a0 Z = true) (a : Addr) (sa : Addr) (sb : Addr) (cs : Int32) (fv : Value) (h : Heap) (n0 : Nat) (hn0 : Old Z n0 h) (E0 : Exa Z h a "com/example/plantilla/plantilla/UrlValue") (FF0 : Fld Z h a "com/example/plantilla/plantilla/UrlValue" "start" "J" (.long (0 : Int64))) (FF1 : Fld Z h a "com/example/plantilla/plantilla/UrlValue" "begun" "Z" (.int (0 : Int32))) (FF2 : Fld Z h a "com/example/plantilla/plantilla/UrlValue" "schemeLike" "Z" (.int (1 : Int32))) (FF3 : Fld Z h a "com/example/plantilla/plantilla/UrlValue" "delimited" "Z" (.int (0 : Int32))) (FF4 : Fld Z h a "com/example/plantilla/plantilla/UrlValue" "query" "Z" (.int (0 : Int32))) (FF5 : Fld Z h a "com/example/plantilla/plantilla/UrlValue" "reference" "Z" (.int (0 : Int32))) (FF6 : Fld Z h a "com/example/plantilla/plantilla/UrlValue" "holding" "Z" (.int (0 : Int32))) (FF7 : Fld Z h a "com/example/plantilla/plantilla/UrlValue" "referenceOpen" "Z" (.int (0 : Int32))) (ga : n0 ≤ a) (ES : Exa Z h sa "java/lang/String") (G1 : Fld Z h sa "java/lang/String" "coder" "B" (.int 0)) (G2 : Fld Z h sa "java/lang/String" "value" "[B" (.ref sb)) (AS : La Z h sb .byte [(.int (97 : Int32)), (.int (97 : Int32)), (.int (97 : Int32)), (.int (97 : Int32)), (.int (97 : Int32)), (.int (97 : Int32)), (.int (97 : Int32)), (.int (97 : Int32)), (.int (97 : Int32)), (.int (97 : Int32)), (.int (97 : Int32)), (.int (97 : Int32))]) (nas : a ≠ sa) (nab : a ≠ sb) (hcs : ¬ cs = 0) (S1 : Sta Z Z.heap "java/lang/String" "COMPACT_STRINGS" "Z" (.int cs)) (hfv : fv.isRef = true) (S2 : Sta Z Z.heap "jdk/internal/util/Preconditions" "SIOOBE_FORMATTER" "Ljava/util/function/BiFunction;" fv)  :
    Con l Z (⟨"com/example/plantilla/plantilla/UrlValue", "written", "(Ljava/lang/String;)Ljava/lang/String;"⟩ : MethodName) prog_44_method_11_code 6 (some (.object "java/lang/String")) ({ frames := 4, cells := 0, slots := 0, locals := 53 } : Room) #[(.ref a), (.ref sa)] h n0 (fun v h' => v = some (.ref sa) ∧ Keep h h' [a] ∧ Exa Z h' a "com/example/plantilla/plantilla/UrlValue" ∧ Fld Z h' a "com/example/plantilla/plantilla/UrlValue" "start" "J" (.long (-1 : Int64)) ∧ Fld Z h' a "com/example/plantilla/plantilla/UrlValue" "begun" "Z" (.int (1 : Int32)) ∧ Fld Z h' a "com/example/plantilla/plantilla/UrlValue" "schemeLike" "Z" (.int (1 : Int32)) ∧ Fld Z h' a "com/example/plantilla/plantilla/UrlValue" "delimited" "Z" (.int (0 : Int32)) ∧ Fld Z h' a "com/example/plantilla/plantilla/UrlValue" "query" "Z" (.int (0 : Int32)) ∧ Fld Z h' a "com/example/plantilla/plantilla/UrlValue" "reference" "Z" (.int (0 : Int32)) ∧ Fld Z h' a "com/example/plantilla/plantilla/UrlValue" "holding" "Z" (.int (1 : Int32)) ∧ Fld Z h' a "com/example/plantilla/plantilla/UrlValue" "referenceOpen" "Z" (.int (0 : Int32))) := by
  refine con_of hw (plainFor_of_name pn_com_example_plantilla_plantilla_UrlValue) hn0 ?_
  intro p e s m below meth c T0 C X0
  refine Go.cast (congrArg T0.setTop (ef_own_u18_10 m a sa)) ?_
  refine go_aloadN C X0 1 rfl d18_0 rfl rfl ?_
  refine go_getF C X0 (C.w 28 rfl) Via.refl FF3 (pc' := 4) rfl d18_1 (fun T1 X2 => ?_)
  refine go_if_eq C X2 d18_4 (pc' := 7) (pc2 := 13) rfl (by decide) (by decide) (fun (c4 : (0 : Int32) = (0 : Int32)) => ?_) (fun (c4 : ¬ (0 : Int32) = (0 : Int32)) => False.elim (by first | omega | exact absurd c4 (by decide)))
  refine go_aloadN C X2 14 rfl d18_13 rfl rfl ?_
  refine go_getF C X2 (C.w 36 rfl) Via.refl FF7 (pc' := 17) rfl d18_14 (fun T3 X4 => ?_)
  refine go_istoreN C X4 18 rfl d18_17 #[rv a, rv sa, iv (0 : Int32), un, un, un] rfl ?_
  refine go_iconst C X4 19 rfl d18_18 (z := 0) rfl ?_
  refine go_istoreN C X4 20 rfl d18_19 #[rv a, rv sa, iv (0 : Int32), iv (0 : Int32), un, un] rfl ?_
  refine go_iconst C X4 21 rfl d18_20 (z := 0) rfl ?_
  refine go_istore C X4 23 rfl d18_21 #[rv a, rv sa, iv (0 : Int32), iv (0 : Int32), iv (0 : Int32), un] rfl ?_
  refine go_iload C X4 25 rfl d18_23 rfl ?_
  refine go_aloadN C X4 26 rfl d18_25 rfl rfl ?_
  refine go_virtual C X4 ES (C.w 101 rfl) (C.w 102 rfl) (notFace_of_selects (args := #[]) (mvT C.hZ (C.w 104 rfl))) (C.w 104 rfl) (C.w 103 rfl) (C.w 74 rfl) (C.w 105 rfl) (own_s19_11 l Z a0 C.ws sa sb cs fv h n0 X4.old ES G1 G2 AS hcs S1 hfv S2) (argsL := []) (rest := [(.int (0 : Int32))]) (lenOf pd_8 rfl) rfl (by decide) (by decide) (Nat.le_of_ble_eq_true rfl) (by decide) (by decide) rfl rfl (pc' := 29) rfl d18_26 ?_
  rintro T5 _ _ ⟨rfl, rfl⟩ X6
  show Go p e below _ (T5.setTop (mkF m 29 #[rv a, rv sa, iv (0 : Int32), iv (0 : Int32), iv (0 : Int32), un] [(.int (12 : Int32)), (.int (0 : Int32))]))
  refine go_icmp_ge C X6 d18_29 (pc' := 32) (pc2 := 77) rfl (by decide) (by decide) (fun (c29 : 12 ≤ 0) => False.elim (by first | omega | exact absurd c29 (by decide))) (fun (c29 : 0 < 12) => ?_)
  refine go_aloadN C X6 33 rfl d18_32 rfl rfl ?_
  refine go_getF C X6 (C.w 28 rfl) Via.refl FF3 (pc' := 36) rfl d18_33 (fun T8 X9 => ?_)
  refine go_if_ne C X9 d18_36 (pc' := 39) (pc2 := 77) rfl (by decide) (by decide) (fun (c36 : ¬ (0 : Int32) = (0 : Int32)) => False.elim (by first | omega | exact absurd c36 (by decide))) (fun (c36 : (0 : Int32) = (0 : Int32)) => ?_)
  refine go_aloadN C X9 40 rfl d18_39 rfl rfl ?_
  refine go_iload C X9 42 rfl d18_40 rfl ?_
  refine go_virtual C X9 ES (C.w 111 rfl) (C.w 112 rfl) (notFace_of_selects (args := #[]) (mvT C.hZ (C.w 114 rfl))) (C.w 114 rfl) (C.w 113 rfl) (C.w 74 rfl) (C.w 115 rfl) (own_s21_13 l Z a0 C.ws sa sb cs fv h n0 X9.old ES G1 G2 AS hcs S1 hfv S2) (argsL := [(.int (0 : Int32))]) (rest := []) (lenOf pd_13 rfl) rfl (by decide) (by decide) (Nat.le_of_ble_eq_true rfl) (by decide) (by decide) rfl rfl (pc' := 45) rfl d18_42 ?_
  rintro T10 _ _ ⟨rfl, rfl⟩ X11
  show Go p e below _ (T10.setTop (mkF m 45 #[rv a, rv sa, iv (0 : Int32), iv (0 : Int32), iv (0 : Int32), un] [(.int (97 : Int32))]))
  refine go_istore C X11 47 rfl d18_45 #[rv a, rv sa, iv (0 : Int32), iv (0 : Int32), iv (0 : Int32), iv (97 : Int32)] rfl ?_
  refine go_iload C X11 49 rfl d18_47 rfl ?_
  refine go_bipush C X11 51 rfl d18_49 (z := 58) rfl ?_
  refine go_icmp_ne C X11 d18_51 (pc' := 54) (pc2 := 61) rfl (by decide) (by decide) (fun (c51 : ¬ (97 : Int32) = (58 : Int32)) => ?_) (fun (c51 : (97 : Int32) = (58 : Int32)) => False.elim (by first | omega | exact absurd c51 (by decide)))
  refine go_iloadN C X11 62 rfl d18_61 rfl ?_
  refine go_aloadN C X11 63 rfl d18_62 rfl rfl ?_
  refine go_iload C X11 65 rfl d18_63 rfl ?_
  refine go_iconst C X11 66 rfl d18_65 (z := 0) rfl ?_
  refine go_private C X11 E0 (C.w 43 rfl) (C.w 44 rfl) (Jvm.Kit.selects_private (by decide) (C.w 9 rfl) (C.w 45 rfl) (C.w 44 rfl)) (C.w 45 rfl) (C.w 10 rfl) (C.w 46 rfl) (own_u7_18 l Z a0 C.ws a h n0 X11.old E0 FF0 FF1 FF2 FF3 FF4 FF5 FF6 FF7 ga ) (argsL := [(.int (97 : Int32)), (.int (0 : Int32))]) (rest := [(.int (0 : Int32))]) (lenOf pd_6 rfl) rfl (by decide) (by decide) (Nat.le_of_ble_eq_true rfl) (by decide) (by decide) rfl rfl (pc' := 69) rfl d18_66 ?_
  rintro T13 h15 _ ⟨rfl, Kq16, Eq16, Fq160, Fq161, Fq162, Fq163, Fq164, Fq165, Fq166, Fq167⟩ X14
  show Go p e below _ (T13.setTop (mkF m 69 #[rv a, rv sa, iv (0 : Int32), iv (0 : Int32), iv (0 : Int32), iv (97 : Int32)] [(.int (1 : Int32)), (.int (0 : Int32))]))
  have E17 := E0.keep Kq16
  have E18 := ES.keep Kq16
  have F19 := G1.keep Kq16 (ninS (Ne.symm nas) nin0)
  have F20 := G2.keep Kq16 (ninS (Ne.symm nas) nin0)
  have A21 := AS.keep Kq16 (ninS (Ne.symm nab) nin0)
  have K22 := (Keep.refl h [a]).trans Kq16 (allS (Or.inl (List.mem_of_getElem? (i := 0) rfl)) all0)
  refine go_iorL C X14 70 rfl d18_69 (z := (1)) rfl ?_
  refine go_istoreN C X14 71 rfl d18_70 #[rv a, rv sa, iv (0 : Int32), iv (1 : Int32), iv (0 : Int32), iv (97 : Int32)] rfl ?_
  refine go_iinc C X14 74 rfl d18_71 rfl (z := 1) rfl #[rv a, rv sa, iv (0 : Int32), iv (1 : Int32), iv (1 : Int32), iv (97 : Int32)] rfl ?_
  refine go_goto C X14 d18_74 (pc' := 23) (by decide) (by decide) ?_
  refine go_iload C X14 25 rfl d18_23 rfl ?_
  refine go_aloadN C X14 26 rfl d18_25 rfl rfl ?_
  refine go_virtual C X14 E18 (C.w 101 rfl) (C.w 102 rfl) (notFace_of_selects (args := #[]) (mvT C.hZ (C.w 104 rfl))) (C.w 104 rfl) (C.w 103 rfl) (C.w 74 rfl) (C.w 105 rfl) (own_s19_11 l Z a0 C.ws sa sb cs fv h15 n0 X14.old E18 F19 F20 A21 hcs S1 hfv S2) (argsL := []) (rest := [(.int (1 : Int32))]) (lenOf pd_8 rfl) rfl (by decide) (by decide) (Nat.le_of_ble_eq_true rfl) (by decide) (by decide) rfl rfl (pc' := 29) rfl d18_26 ?_
  rintro T23 _ _ ⟨rfl, rfl⟩ X24
  show Go p e below _ (T23.setTop (mkF m 29 #[rv a, rv sa, iv (0 : Int32), iv (1 : Int32), iv (1 : Int32), iv (97 : Int32)] [(.int (12 : Int32)), (.int (1 : Int32))]))
  refine go_icmp_ge C X24 d18_29 (pc' := 32) (pc2 := 77) rfl (by decide) (by decide) (fun (c29 : 12 ≤ 1) => False.elim (by first | omega | exact absurd c29 (by decide))) (fun (c29 : 1 < 12) => ?_)
  refine go_aloadN C X24 33 rfl d18_32 rfl rfl ?_
  refine go_getF C X24 (C.w 28 rfl) Via.refl Fq163 (pc' := 36) rfl d18_33 (fun T26 X27 => ?_)
  refine go_if_ne C X27 d18_36 (pc' := 39) (pc2 := 77) rfl (by decide) (by decide) (fun (c36 : ¬ (0 : Int32) = (0 : Int32)) => False.elim (by first | omega | exact absurd c36 (by decide))) (fun (c36 : (0 : Int32) = (0 : Int32)) => ?_)
  refine go_aloadN C X27 40 rfl d18_39 rfl rfl ?_
  refine go_iload C X27 42 rfl d18_40 rfl ?_
  refine go_virtual C X27 E18 (C.w 111 rfl) (C.w 112 rfl) (notFace_of_selects (args := #[]) (mvT C.hZ (C.w 114 rfl))) (C.w 114 rfl) (C.w 113 rfl) (C.w 74 rfl) (C.w 115 rfl) (own_s21_22 l Z a0 C.ws sa sb cs fv h15 n0 X27.old E18 F19 F20 A21 hcs S1 hfv S2) (argsL := [(.int (1 : Int32))]) (rest := []) (lenOf pd_13 rfl) rfl (by decide) (by decide) (Nat.le_of_ble_eq_true rfl) (by decide) (by decide) rfl rfl (pc' := 45) rfl d18_42 ?_
  rintro T28 _ _ ⟨rfl, rfl⟩ X29
  show Go p e below _ (T28.setTop (mkF m 45 #[rv a, rv sa, iv (0 : Int32), iv (1 : Int32), iv (1 : Int32), iv (97 : Int32)] [(.int (97 : Int32))]))
  refine go_istore C X29 47 rfl d18_45 #[rv a, rv sa, iv (0 : Int32), iv (1 : Int32), iv (1 : Int32), iv (97 : Int32)] rfl ?_
  refine go_iload C X29 49 rfl d18_47 rfl ?_
  refine go_bipush C X29 51 rfl d18_49 (z := 58) rfl ?_
  refine go_icmp_ne C X29 d18_51 (pc' := 54) (pc2 := 61) rfl (by decide) (by decide) (fun (c51 : ¬ (97 : Int32) = (58 : Int32)) => ?_) (fun (c51 : (97 : Int32) = (58 : Int32)) => False.elim (by first | omega | exact absurd c51 (by decide)))
  refine go_iloadN C X29 62 rfl d18_61 rfl ?_
  refine go_aloadN C X29 63 rfl d18_62 rfl rfl ?_
  refine go_iload C X29 65 rfl d18_63 rfl ?_
  refine go_iconst C X29 66 rfl d18_65 (z := 0) rfl ?_
  refine go_private C X29 Eq16 (C.w 43 rfl) (C.w 44 rfl) (Jvm.Kit.selects_private (by decide) (C.w 9 rfl) (C.w 45 rfl) (C.w 44 rfl)) (C.w 45 rfl) (C.w 10 rfl) (C.w 46 rfl) (own_u7_26 l Z a0 C.ws a (1 : Int64) h15 n0 X29.old Eq16 Fq160 Fq161 Fq162 Fq163 Fq164 Fq165 Fq166 Fq167 ga (by decide) ) (argsL := [(.int (97 : Int32)), (.int (0 : Int32))]) (rest := [(.int (1 : Int32))]) (lenOf pd_6 rfl) rfl (by decide) (by decide) (Nat.le_of_ble_eq_true rfl) (by decide) (by decide) rfl rfl (pc' := 69) rfl d18_66 ?_
  rintro T31 h33 _ ⟨rfl, Kq34, Eq34, Fq340, Fq341, Fq342, Fq343, Fq344, Fq345, Fq346, Fq347⟩ X32
  show Go p e below _ (T31.setTop (mkF m 69 #[rv a, rv sa, iv (0 : Int32), iv (1 : Int32), iv (1 : Int32), iv (97 : Int32)] [(.int (1 : Int32)), (.int (1 : Int32))]))
  replace Fq340 : Fld Z h33 a "com/example/plantilla/plantilla/UrlValue" "start" "J" (.long (65 : Int64)) := Fq340
  have E35 := Eq16.keep Kq34
  have E36 := E18.keep Kq34
  have F37 := F19.keep Kq34 (ninS (Ne.symm nas) nin0)
  have F38 := F20.keep Kq34 (ninS (Ne.symm nas) nin0)
  have A39 := A21.keep Kq34 (ninS (Ne.symm nab) nin0)
  have K40 := K22.trans Kq34 (allS (Or.inl (List.mem_of_getElem? (i := 0) rfl)) all0)
  refine go_iorL C X32 70 rfl d18_69 (z := (1)) rfl ?_
  refine go_istoreN C X32 71 rfl d18_70 #[rv a, rv sa, iv (0 : Int32), iv (1 : Int32), iv (1 : Int32), iv (97 : Int32)] rfl ?_
  refine go_iinc C X32 74 rfl d18_71 rfl (z := 1) rfl #[rv a, rv sa, iv (0 : Int32), iv (1 : Int32), iv (2 : Int32), iv (97 : Int32)] rfl ?_
  refine go_goto C X32 d18_74 (pc' := 23) (by decide) (by decide) ?_
  refine go_iload C X32 25 rfl d18_23 rfl ?_
  refine go_aloadN C X32 26 rfl d18_25 rfl rfl ?_
  refine go_virtual C X32 E36 (C.w 101 rfl) (C.w 102 rfl) (notFace_of_selects (args := #[]) (mvT C.hZ (C.w 104 rfl))) (C.w 104 rfl) (C.w 103 rfl) (C.w 74 rfl) (C.w 105 rfl) (own_s19_11 l Z a0 C.ws sa sb cs fv h33 n0 X32.old E36 F37 F38 A39 hcs S1 hfv S2) (argsL := []) (rest := [(.int (2 : Int32))]) (lenOf pd_8 rfl) rfl (by decide) (by decide) (Nat.le_of_ble_eq_true rfl) (by decide) (by decide) rfl rfl (pc' := 29) rfl d18_26 ?_
  rintro T41 _ _ ⟨rfl, rfl⟩ X42
  show Go p e below _ (T41.setTop (mkF m 29 #[rv a, rv sa, iv (0 : Int32), iv (1 : Int32), iv (2 : Int32), iv (97 : Int32)] [(.int (12 : Int32)), (.int (2 : Int32))]))
  refine go_icmp_ge C X42 d18_29 (pc' := 32) (pc2 := 77) rfl (by decide) (by decide) (fun (c29 : 12 ≤ 2) => False.elim (by first | omega | exact absurd c29 (by decide))) (fun (c29 : 2 < 12) => ?_)
  refine go_aloadN C X42 33 rfl d18_32 rfl rfl ?_
  refine go_getF C X42 (C.w 28 rfl) Via.refl Fq343 (pc' := 36) rfl d18_33 (fun T44 X45 => ?_)
  refine go_if_ne C X45 d18_36 (pc' := 39) (pc2 := 77) rfl (by decide) (by decide) (fun (c36 : ¬ (0 : Int32) = (0 : Int32)) => False.elim (by first | omega | exact absurd c36 (by decide))) (fun (c36 : (0 : Int32) = (0 : Int32)) => ?_)
  refine go_aloadN C X45 40 rfl d18_39 rfl rfl ?_
  refine go_iload C X45 42 rfl d18_40 rfl ?_
  refine go_virtual C X45 E36 (C.w 111 rfl) (C.w 112 rfl) (notFace_of_selects (args := #[]) (mvT C.hZ (C.w 114 rfl))) (C.w 114 rfl) (C.w 113 rfl) (C.w 74 rfl) (C.w 115 rfl) (own_s21_28 l Z a0 C.ws sa sb cs fv h33 n0 X45.old E36 F37 F38 A39 hcs S1 hfv S2) (argsL := [(.int (2 : Int32))]) (rest := []) (lenOf pd_13 rfl) rfl (by decide) (by decide) (Nat.le_of_ble_eq_true rfl) (by decide) (by decide) rfl rfl (pc' := 45) rfl d18_42 ?_
  rintro T46 _ _ ⟨rfl, rfl⟩ X47
  show Go p e below _ (T46.setTop (mkF m 45 #[rv a, rv sa, iv (0 : Int32), iv (1 : Int32), iv (2 : Int32), iv (97 : Int32)] [(.int (97 : Int32))]))
  refine go_istore C X47 47 rfl d18_45 #[rv a, rv sa, iv (0 : Int32), iv (1 : Int32), iv (2 : Int32), iv (97 : Int32)] rfl ?_
  refine go_iload C X47 49 rfl d18_47 rfl ?_
  refine go_bipush C X47 51 rfl d18_49 (z := 58) rfl ?_
  refine go_icmp_ne C X47 d18_51 (pc' := 54) (pc2 := 61) rfl (by decide) (by decide) (fun (c51 : ¬ (97 : Int32) = (58 : Int32)) => ?_) (fun (c51 : (97 : Int32) = (58 : Int32)) => False.elim (by first | omega | exact absurd c51 (by decide)))
  refine go_iloadN C X47 62 rfl d18_61 rfl ?_
  refine go_aloadN C X47 63 rfl d18_62 rfl rfl ?_
  refine go_iload C X47 65 rfl d18_63 rfl ?_
  refine go_iconst C X47 66 rfl d18_65 (z := 0) rfl ?_
  refine go_private C X47 Eq34 (C.w 43 rfl) (C.w 44 rfl) (Jvm.Kit.selects_private (by decide) (C.w 9 rfl) (C.w 45 rfl) (C.w 44 rfl)) (C.w 45 rfl) (C.w 10 rfl) (C.w 46 rfl) (own_u7_26 l Z a0 C.ws a (65 : Int64) h33 n0 X47.old Eq34 Fq340 Fq341 Fq342 Fq343 Fq344 Fq345 Fq346 Fq347 ga (by decide) ) (argsL := [(.int (97 : Int32)), (.int (0 : Int32))]) (rest := [(.int (1 : Int32))]) (lenOf pd_6 rfl) rfl (by decide) (by decide) (Nat.le_of_ble_eq_true rfl) (by decide) (by decide) rfl rfl (pc' := 69) rfl d18_66 ?_
  rintro T49 h51 _ ⟨rfl, Kq52, Eq52, Fq520, Fq521, Fq522, Fq523, Fq524, Fq525, Fq526, Fq527⟩ X50
  show Go p e below _ (T49.setTop (mkF m 69 #[rv a, rv sa, iv (0 : Int32), iv (1 : Int32), iv (2 : Int32), iv (97 : Int32)] [(.int (1 : Int32)), (.int (1 : Int32))]))
  replace Fq520 : Fld Z h51 a "com/example/plantilla/plantilla/UrlValue" "start" "J" (.long (4161 : Int64)) := Fq520
  have E53 := Eq34.keep Kq52
  have E54 := E36.keep Kq52
  have F55 := F37.keep Kq52 (ninS (Ne.symm nas) nin0)
  have F56 := F38.keep Kq52 (ninS (Ne.symm nas) nin0)
  have A57 := A39.keep Kq52 (ninS (Ne.symm nab) nin0)
  have K58 := K40.trans Kq52 (allS (Or.inl (List.mem_of_getElem? (i := 0) rfl)) all0)
  refine go_iorL C X50 70 rfl d18_69 (z := (1)) rfl ?_
  refine go_istoreN C X50 71 rfl d18_70 #[rv a, rv sa, iv (0 : Int32), iv (1 : Int32), iv (2 : Int32), iv (97 : Int32)] rfl ?_
  refine go_iinc C X50 74 rfl d18_71 rfl (z := 1) rfl #[rv a, rv sa, iv (0 : Int32), iv (1 : Int32), iv (3 : Int32), iv (97 : Int32)] rfl ?_
  refine go_goto C X50 d18_74 (pc' := 23) (by decide) (by decide) ?_
  refine go_iload C X50 25 rfl d18_23 rfl ?_
  refine go_aloadN C X50 26 rfl d18_25 rfl rfl ?_
  refine go_virtual C X50 E54 (C.w 101 rfl) (C.w 102 rfl) (notFace_of_selects (args := #[]) (mvT C.hZ (C.w 104 rfl))) (C.w 104 rfl) (C.w 103 rfl) (C.w 74 rfl) (C.w 105 rfl) (own_s19_11 l Z a0 C.ws sa sb cs fv h51 n0 X50.old E54 F55 F56 A57 hcs S1 hfv S2) (argsL := []) (rest := [(.int (3 : Int32))]) (lenOf pd_8 rfl) rfl (by decide) (by decide) (Nat.le_of_ble_eq_true rfl) (by decide) (by decide) rfl rfl (pc' := 29) rfl d18_26 ?_
  rintro T59 _ _ ⟨rfl, rfl⟩ X60
  show Go p e below _ (T59.setTop (mkF m 29 #[rv a, rv sa, iv (0 : Int32), iv (1 : Int32), iv (3 : Int32), iv (97 : Int32)] [(.int (12 : Int32)), (.int (3 : Int32))]))
  refine go_icmp_ge C X60 d18_29 (pc' := 32) (pc2 := 77) rfl (by decide) (by decide) (fun (c29 : 12 ≤ 3) => False.elim (by first | omega | exact absurd c29 (by decide))) (fun (c29 : 3 < 12) => ?_)
  refine go_aloadN C X60 33 rfl d18_32 rfl rfl ?_
  refine go_getF C X60 (C.w 28 rfl) Via.refl Fq523 (pc' := 36) rfl d18_33 (fun T62 X63 => ?_)
  refine go_if_ne C X63 d18_36 (pc' := 39) (pc2 := 77) rfl (by decide) (by decide) (fun (c36 : ¬ (0 : Int32) = (0 : Int32)) => False.elim (by first | omega | exact absurd c36 (by decide))) (fun (c36 : (0 : Int32) = (0 : Int32)) => ?_)
  refine go_aloadN C X63 40 rfl d18_39 rfl rfl ?_
  refine go_iload C X63 42 rfl d18_40 rfl ?_
  refine go_virtual C X63 E54 (C.w 111 rfl) (C.w 112 rfl) (notFace_of_selects (args := #[]) (mvT C.hZ (C.w 114 rfl))) (C.w 114 rfl) (C.w 113 rfl) (C.w 74 rfl) (C.w 115 rfl) (own_s21_32 l Z a0 C.ws sa sb cs fv h51 n0 X63.old E54 F55 F56 A57 hcs S1 hfv S2) (argsL := [(.int (3 : Int32))]) (rest := []) (lenOf pd_13 rfl) rfl (by decide) (by decide) (Nat.le_of_ble_eq_true rfl) (by decide) (by decide) rfl rfl (pc' := 45) rfl d18_42 ?_
  rintro T64 _ _ ⟨rfl, rfl⟩ X65
  show Go p e below _ (T64.setTop (mkF m 45 #[rv a, rv sa, iv (0 : Int32), iv (1 : Int32), iv (3 : Int32), iv (97 : Int32)] [(.int (97 : Int32))]))
  refine go_istore C X65 47 rfl d18_45 #[rv a, rv sa, iv (0 : Int32), iv (1 : Int32), iv (3 : Int32), iv (97 : Int32)] rfl ?_
  refine go_iload C X65 49 rfl d18_47 rfl ?_
  refine go_bipush C X65 51 rfl d18_49 (z := 58) rfl ?_
  refine go_icmp_ne C X65 d18_51 (pc' := 54) (pc2 := 61) rfl (by decide) (by decide) (fun (c51 : ¬ (97 : Int32) = (58 : Int32)) => ?_) (fun (c51 : (97 : Int32) = (58 : Int32)) => False.elim (by first | omega | exact absurd c51 (by decide)))
  refine go_iloadN C X65 62 rfl d18_61 rfl ?_
  refine go_aloadN C X65 63 rfl d18_62 rfl rfl ?_
  refine go_iload C X65 65 rfl d18_63 rfl ?_
  refine go_iconst C X65 66 rfl d18_65 (z := 0) rfl ?_
  refine go_private C X65 Eq52 (C.w 43 rfl) (C.w 44 rfl) (Jvm.Kit.selects_private (by decide) (C.w 9 rfl) (C.w 45 rfl) (C.w 44 rfl)) (C.w 45 rfl) (C.w 10 rfl) (C.w 46 rfl) (own_u7_26 l Z a0 C.ws a (4161 : Int64) h51 n0 X65.old Eq52 Fq520 Fq521 Fq522 Fq523 Fq524 Fq525 Fq526 Fq527 ga (by decide) ) (argsL := [(.int (97 : Int32)), (.int (0 : Int32))]) (rest := [(.int (1 : Int32))]) (lenOf pd_6 rfl) rfl (by decide) (by decide) (Nat.le_of_ble_eq_true rfl) (by decide) (by decide) rfl rfl (pc' := 69) rfl d18_66 ?_
  rintro T67 h69 _ ⟨rfl, Kq70, Eq70, Fq700, Fq701, Fq702, Fq703, Fq704, Fq705, Fq706, Fq707⟩ X68
  show Go p e below _ (T67.setTop (mkF m 69 #[rv a, rv sa, iv (0 : Int32), iv (1 : Int32), iv (3 : Int32), iv (97 : Int32)] [(.int (1 : Int32)), (.int (1 : Int32))]))
  replace Fq700 : Fld Z h69 a "com/example/plantilla/plantilla/UrlValue" "start" "J" (.long (266305 : Int64)) := Fq700
  have E71 := Eq52.keep Kq70
  have E72 := E54.keep Kq70
  have F73 := F55.keep Kq70 (ninS (Ne.symm nas) nin0)
  have F74 := F56.keep Kq70 (ninS (Ne.symm nas) nin0)
  have A75 := A57.keep Kq70 (ninS (Ne.symm nab) nin0)
  have K76 := K58.trans Kq70 (allS (Or.inl (List.mem_of_getElem? (i := 0) rfl)) all0)
  refine go_iorL C X68 70 rfl d18_69 (z := (1)) rfl ?_
  refine go_istoreN C X68 71 rfl d18_70 #[rv a, rv sa, iv (0 : Int32), iv (1 : Int32), iv (3 : Int32), iv (97 : Int32)] rfl ?_
  refine go_iinc C X68 74 rfl d18_71 rfl (z := 1) rfl #[rv a, rv sa, iv (0 : Int32), iv (1 : Int32), iv (4 : Int32), iv (97 : Int32)] rfl ?_
  refine go_goto C X68 d18_74 (pc' := 23) (by decide) (by decide) ?_
  refine go_iload C X68 25 rfl d18_23 rfl ?_
  refine go_aloadN C X68 26 rfl d18_25 rfl rfl ?_
  refine go_virtual C X68 E72 (C.w 101 rfl) (C.w 102 rfl) (notFace_of_selects (args := #[]) (mvT C.hZ (C.w 104 rfl))) (C.w 104 rfl) (C.w 103 rfl) (C.w 74 rfl) (C.w 105 rfl) (own_s19_11 l Z a0 C.ws sa sb cs fv h69 n0 X68.old E72 F73 F74 A75 hcs S1 hfv S2) (argsL := []) (rest := [(.int (4 : Int32))]) (lenOf pd_8 rfl) rfl (by decide) (by decide) (Nat.le_of_ble_eq_true rfl) (by decide) (by decide) rfl rfl (pc' := 29) rfl d18_26 ?_
  rintro T77 _ _ ⟨rfl, rfl⟩ X78
  show Go p e below _ (T77.setTop (mkF m 29 #[rv a, rv sa, iv (0 : Int32), iv (1 : Int32), iv (4 : Int32), iv (97 : Int32)] [(.int (12 : Int32)), (.int (4 : Int32))]))
  refine go_icmp_ge C X78 d18_29 (pc' := 32) (pc2 := 77) rfl (by decide) (by decide) (fun (c29 : 12 ≤ 4) => False.elim (by first | omega | exact absurd c29 (by decide))) (fun (c29 : 4 < 12) => ?_)
  refine go_aloadN C X78 33 rfl d18_32 rfl rfl ?_
  refine go_getF C X78 (C.w 28 rfl) Via.refl Fq703 (pc' := 36) rfl d18_33 (fun T80 X81 => ?_)
  refine go_if_ne C X81 d18_36 (pc' := 39) (pc2 := 77) rfl (by decide) (by decide) (fun (c36 : ¬ (0 : Int32) = (0 : Int32)) => False.elim (by first | omega | exact absurd c36 (by decide))) (fun (c36 : (0 : Int32) = (0 : Int32)) => ?_)
  refine go_aloadN C X81 40 rfl d18_39 rfl rfl ?_
  refine go_iload C X81 42 rfl d18_40 rfl ?_
  refine go_virtual C X81 E72 (C.w 111 rfl) (C.w 112 rfl) (notFace_of_selects (args := #[]) (mvT C.hZ (C.w 114 rfl))) (C.w 114 rfl) (C.w 113 rfl) (C.w 74 rfl) (C.w 115 rfl) (own_s21_36 l Z a0 C.ws sa sb cs fv h69 n0 X81.old E72 F73 F74 A75 hcs S1 hfv S2) (argsL := [(.int (4 : Int32))]) (rest := []) (lenOf pd_13 rfl) rfl (by decide) (by decide) (Nat.le_of_ble_eq_true rfl) (by decide) (by decide) rfl rfl (pc' := 45) rfl d18_42 ?_
  rintro T82 _ _ ⟨rfl, rfl⟩ X83
  show Go p e below _ (T82.setTop (mkF m 45 #[rv a, rv sa, iv (0 : Int32), iv (1 : Int32), iv (4 : Int32), iv (97 : Int32)] [(.int (97 : Int32))]))
  refine go_istore C X83 47 rfl d18_45 #[rv a, rv sa, iv (0 : Int32), iv (1 : Int32), iv (4 : Int32), iv (97 : Int32)] rfl ?_
  refine go_iload C X83 49 rfl d18_47 rfl ?_
  refine go_bipush C X83 51 rfl d18_49 (z := 58) rfl ?_
  refine go_icmp_ne C X83 d18_51 (pc' := 54) (pc2 := 61) rfl (by decide) (by decide) (fun (c51 : ¬ (97 : Int32) = (58 : Int32)) => ?_) (fun (c51 : (97 : Int32) = (58 : Int32)) => False.elim (by first | omega | exact absurd c51 (by decide)))
  refine go_iloadN C X83 62 rfl d18_61 rfl ?_
  refine go_aloadN C X83 63 rfl d18_62 rfl rfl ?_
  refine go_iload C X83 65 rfl d18_63 rfl ?_
  refine go_iconst C X83 66 rfl d18_65 (z := 0) rfl ?_
  refine go_private C X83 Eq70 (C.w 43 rfl) (C.w 44 rfl) (Jvm.Kit.selects_private (by decide) (C.w 9 rfl) (C.w 45 rfl) (C.w 44 rfl)) (C.w 45 rfl) (C.w 10 rfl) (C.w 46 rfl) (own_u7_26 l Z a0 C.ws a (266305 : Int64) h69 n0 X83.old Eq70 Fq700 Fq701 Fq702 Fq703 Fq704 Fq705 Fq706 Fq707 ga (by decide) ) (argsL := [(.int (97 : Int32)), (.int (0 : Int32))]) (rest := [(.int (1 : Int32))]) (lenOf pd_6 rfl) rfl (by decide) (by decide) (Nat.le_of_ble_eq_true rfl) (by decide) (by decide) rfl rfl (pc' := 69) rfl d18_66 ?_
  rintro T85 h87 _ ⟨rfl, Kq88, Eq88, Fq880, Fq881, Fq882, Fq883, Fq884, Fq885, Fq886, Fq887⟩ X86
  show Go p e below _ (T85.setTop (mkF m 69 #[rv a, rv sa, iv (0 : Int32), iv (1 : Int32), iv (4 : Int32), iv (97 : Int32)] [(.int (1 : Int32)), (.int (1 : Int32))]))
  replace Fq880 : Fld Z h87 a "com/example/plantilla/plantilla/UrlValue" "start" "J" (.long (17043521 : Int64)) := Fq880
  have E89 := Eq70.keep Kq88
  have E90 := E72.keep Kq88
  have F91 := F73.keep Kq88 (ninS (Ne.symm nas) nin0)
  have F92 := F74.keep Kq88 (ninS (Ne.symm nas) nin0)
  have A93 := A75.keep Kq88 (ninS (Ne.symm nab) nin0)
  have K94 := K76.trans Kq88 (allS (Or.inl (List.mem_of_getElem? (i := 0) rfl)) all0)
  refine go_iorL C X86 70 rfl d18_69 (z := (1)) rfl ?_
  refine go_istoreN C X86 71 rfl d18_70 #[rv a, rv sa, iv (0 : Int32), iv (1 : Int32), iv (4 : Int32), iv (97 : Int32)] rfl ?_
  refine go_iinc C X86 74 rfl d18_71 rfl (z := 1) rfl #[rv a, rv sa, iv (0 : Int32), iv (1 : Int32), iv (5 : Int32), iv (97 : Int32)] rfl ?_
  refine go_goto C X86 d18_74 (pc' := 23) (by decide) (by decide) ?_
  refine go_iload C X86 25 rfl d18_23 rfl ?_
  refine go_aloadN C X86 26 rfl d18_25 rfl rfl ?_
  refine go_virtual C X86 E90 (C.w 101 rfl) (C.w 102 rfl) (notFace_of_selects (args := #[]) (mvT C.hZ (C.w 104 rfl))) (C.w 104 rfl) (C.w 103 rfl) (C.w 74 rfl) (C.w 105 rfl) (own_s19_11 l Z a0 C.ws sa sb cs fv h87 n0 X86.old E90 F91 F92 A93 hcs S1 hfv S2) (argsL := []) (rest := [(.int (5 : Int32))]) (lenOf pd_8 rfl) rfl (by decide) (by decide) (Nat.le_of_ble_eq_true rfl) (by decide) (by decide) rfl rfl (pc' := 29) rfl d18_26 ?_
  rintro T95 _ _ ⟨rfl, rfl⟩ X96
  show Go p e below _ (T95.setTop (mkF m 29 #[rv a, rv sa, iv (0 : Int32), iv (1 : Int32), iv (5 : Int32), iv (97 : Int32)] [(.int (12 : Int32)), (.int (5 : Int32))]))
  refine go_icmp_ge C X96 d18_29 (pc' := 32) (pc2 := 77) rfl (by decide) (by decide) (fun (c29 : 12 ≤ 5) => False.elim (by first | omega | exact absurd c29 (by decide))) (fun (c29 : 5 < 12) => ?_)
  refine go_aloadN C X96 33 rfl d18_32 rfl rfl ?_
  refine go_getF C X96 (C.w 28 rfl) Via.refl Fq883 (pc' := 36) rfl d18_33 (fun T98 X99 => ?_)
  refine go_if_ne C X99 d18_36 (pc' := 39) (pc2 := 77) rfl (by decide) (by decide) (fun (c36 : ¬ (0 : Int32) = (0 : Int32)) => False.elim (by first | omega | exact absurd c36 (by decide))) (fun (c36 : (0 : Int32) = (0 : Int32)) => ?_)
  refine go_aloadN C X99 40 rfl d18_39 rfl rfl ?_
  refine go_iload C X99 42 rfl d18_40 rfl ?_
  refine go_virtual C X99 E90 (C.w 111 rfl) (C.w 112 rfl) (notFace_of_selects (args := #[]) (mvT C.hZ (C.w 114 rfl))) (C.w 114 rfl) (C.w 113 rfl) (C.w 74 rfl) (C.w 115 rfl) (own_s21_40 l Z a0 C.ws sa sb cs fv h87 n0 X99.old E90 F91 F92 A93 hcs S1 hfv S2) (argsL := [(.int (5 : Int32))]) (rest := []) (lenOf pd_13 rfl) rfl (by decide) (by decide) (Nat.le_of_ble_eq_true rfl) (by decide) (by decide) rfl rfl (pc' := 45) rfl d18_42 ?_
  rintro T100 _ _ ⟨rfl, rfl⟩ X101
  show Go p e below _ (T100.setTop (mkF m 45 #[rv a, rv sa, iv (0 : Int32), iv (1 : Int32), iv (5 : Int32), iv (97 : Int32)] [(.int (97 : Int32))]))
  refine go_istore C X101 47 rfl d18_45 #[rv a, rv sa, iv (0 : Int32), iv (1 : Int32), iv (5 : Int32), iv (97 : Int32)] rfl ?_
  refine go_iload C X101 49 rfl d18_47 rfl ?_
  refine go_bipush C X101 51 rfl d18_49 (z := 58) rfl ?_
  refine go_icmp_ne C X101 d18_51 (pc' := 54) (pc2 := 61) rfl (by decide) (by decide) (fun (c51 : ¬ (97 : Int32) = (58 : Int32)) => ?_) (fun (c51 : (97 : Int32) = (58 : Int32)) => False.elim (by first | omega | exact absurd c51 (by decide)))
  refine go_iloadN C X101 62 rfl d18_61 rfl ?_
  refine go_aloadN C X101 63 rfl d18_62 rfl rfl ?_
  refine go_iload C X101 65 rfl d18_63 rfl ?_
  refine go_iconst C X101 66 rfl d18_65 (z := 0) rfl ?_
  refine go_private C X101 Eq88 (C.w 43 rfl) (C.w 44 rfl) (Jvm.Kit.selects_private (by decide) (C.w 9 rfl) (C.w 45 rfl) (C.w 44 rfl)) (C.w 45 rfl) (C.w 10 rfl) (C.w 46 rfl) (own_u7_26 l Z a0 C.ws a (17043521 : Int64) h87 n0 X101.old Eq88 Fq880 Fq881 Fq882 Fq883 Fq884 Fq885 Fq886 Fq887 ga (by decide) ) (argsL := [(.int (97 : Int32)), (.int (0 : Int32))]) (rest := [(.int (1 : Int32))]) (lenOf pd_6 rfl) rfl (by decide) (by decide) (Nat.le_of_ble_eq_true rfl) (by decide) (by decide) rfl rfl (pc' := 69) rfl d18_66 ?_
  rintro T103 h105 _ ⟨rfl, Kq106, Eq106, Fq1060, Fq1061, Fq1062, Fq1063, Fq1064, Fq1065, Fq1066, Fq1067⟩ X104
  show Go p e below _ (T103.setTop (mkF m 69 #[rv a, rv sa, iv (0 : Int32), iv (1 : Int32), iv (5 : Int32), iv (97 : Int32)] [(.int (1 : Int32)), (.int (1 : Int32))]))
  replace Fq1060 : Fld Z h105 a "com/example/plantilla/plantilla/UrlValue" "start" "J" (.long (1090785345 : Int64)) := Fq1060
  have E107 := Eq88.keep Kq106
  have E108 := E90.keep Kq106
  have F109 := F91.keep Kq106 (ninS (Ne.symm nas) nin0)
  have F110 := F92.keep Kq106 (ninS (Ne.symm nas) nin0)
  have A111 := A93.keep Kq106 (ninS (Ne.symm nab) nin0)
  have K112 := K94.trans Kq106 (allS (Or.inl (List.mem_of_getElem? (i := 0) rfl)) all0)
  refine go_iorL C X104 70 rfl d18_69 (z := (1)) rfl ?_
  refine go_istoreN C X104 71 rfl d18_70 #[rv a, rv sa, iv (0 : Int32), iv (1 : Int32), iv (5 : Int32), iv (97 : Int32)] rfl ?_
  refine go_iinc C X104 74 rfl d18_71 rfl (z := 1) rfl #[rv a, rv sa, iv (0 : Int32), iv (1 : Int32), iv (6 : Int32), iv (97 : Int32)] rfl ?_
  refine go_goto C X104 d18_74 (pc' := 23) (by decide) (by decide) ?_
  refine go_iload C X104 25 rfl d18_23 rfl ?_
  refine go_aloadN C X104 26 rfl d18_25 rfl rfl ?_
  refine go_virtual C X104 E108 (C.w 101 rfl) (C.w 102 rfl) (notFace_of_selects (args := #[]) (mvT C.hZ (C.w 104 rfl))) (C.w 104 rfl) (C.w 103 rfl) (C.w 74 rfl) (C.w 105 rfl) (own_s19_11 l Z a0 C.ws sa sb cs fv h105 n0 X104.old E108 F109 F110 A111 hcs S1 hfv S2) (argsL := []) (rest := [(.int (6 : Int32))]) (lenOf pd_8 rfl) rfl (by decide) (by decide) (Nat.le_of_ble_eq_true rfl) (by decide) (by decide) rfl rfl (pc' := 29) rfl d18_26 ?_
  rintro T113 _ _ ⟨rfl, rfl⟩ X114
  show Go p e below _ (T113.setTop (mkF m 29 #[rv a, rv sa, iv (0 : Int32), iv (1 : Int32), iv (6 : Int32), iv (97 : Int32)] [(.int (12 : Int32)), (.int (6 : Int32))]))
  refine go_icmp_ge C X114 d18_29 (pc' := 32) (pc2 := 77) rfl (by decide) (by decide) (fun (c29 : 12 ≤ 6) => False.elim (by first | omega | exact absurd c29 (by decide))) (fun (c29 : 6 < 12) => ?_)
  refine go_aloadN C X114 33 rfl d18_32 rfl rfl ?_
  refine go_getF C X114 (C.w 28 rfl) Via.refl Fq1063 (pc' := 36) rfl d18_33 (fun T116 X117 => ?_)
  refine go_if_ne C X117 d18_36 (pc' := 39) (pc2 := 77) rfl (by decide) (by decide) (fun (c36 : ¬ (0 : Int32) = (0 : Int32)) => False.elim (by first | omega | exact absurd c36 (by decide))) (fun (c36 : (0 : Int32) = (0 : Int32)) => ?_)
  refine go_aloadN C X117 40 rfl d18_39 rfl rfl ?_
  refine go_iload C X117 42 rfl d18_40 rfl ?_
  refine go_virtual C X117 E108 (C.w 111 rfl) (C.w 112 rfl) (notFace_of_selects (args := #[]) (mvT C.hZ (C.w 114 rfl))) (C.w 114 rfl) (C.w 113 rfl) (C.w 74 rfl) (C.w 115 rfl) (own_s21_44 l Z a0 C.ws sa sb cs fv h105 n0 X117.old E108 F109 F110 A111 hcs S1 hfv S2) (argsL := [(.int (6 : Int32))]) (rest := []) (lenOf pd_13 rfl) rfl (by decide) (by decide) (Nat.le_of_ble_eq_true rfl) (by decide) (by decide) rfl rfl (pc' := 45) rfl d18_42 ?_
  rintro T118 _ _ ⟨rfl, rfl⟩ X119
  show Go p e below _ (T118.setTop (mkF m 45 #[rv a, rv sa, iv (0 : Int32), iv (1 : Int32), iv (6 : Int32), iv (97 : Int32)] [(.int (97 : Int32))]))
  refine go_istore C X119 47 rfl d18_45 #[rv a, rv sa, iv (0 : Int32), iv (1 : Int32), iv (6 : Int32), iv (97 : Int32)] rfl ?_
  refine go_iload C X119 49 rfl d18_47 rfl ?_
  refine go_bipush C X119 51 rfl d18_49 (z := 58) rfl ?_
  refine go_icmp_ne C X119 d18_51 (pc' := 54) (pc2 := 61) rfl (by decide) (by decide) (fun (c51 : ¬ (97 : Int32) = (58 : Int32)) => ?_) (fun (c51 : (97 : Int32) = (58 : Int32)) => False.elim (by first | omega | exact absurd c51 (by decide)))
  refine go_iloadN C X119 62 rfl d18_61 rfl ?_
  refine go_aloadN C X119 63 rfl d18_62 rfl rfl ?_
  refine go_iload C X119 65 rfl d18_63 rfl ?_
  refine go_iconst C X119 66 rfl d18_65 (z := 0) rfl ?_
  refine go_private C X119 Eq106 (C.w 43 rfl) (C.w 44 rfl) (Jvm.Kit.selects_private (by decide) (C.w 9 rfl) (C.w 45 rfl) (C.w 44 rfl)) (C.w 45 rfl) (C.w 10 rfl) (C.w 46 rfl) (own_u7_26 l Z a0 C.ws a (1090785345 : Int64) h105 n0 X119.old Eq106 Fq1060 Fq1061 Fq1062 Fq1063 Fq1064 Fq1065 Fq1066 Fq1067 ga (by decide) ) (argsL := [(.int (97 : Int32)), (.int (0 : Int32))]) (rest := [(.int (1 : Int32))]) (lenOf pd_6 rfl) rfl (by decide) (by decide) (Nat.le_of_ble_eq_true rfl) (by decide) (by decide) rfl rfl (pc' := 69) rfl d18_66 ?_
  rintro T121 h123 _ ⟨rfl, Kq124, Eq124, Fq1240, Fq1241, Fq1242, Fq1243, Fq1244, Fq1245, Fq1246, Fq1247⟩ X122
  show Go p e below _ (T121.setTop (mkF m 69 #[rv a, rv sa, iv (0 : Int32), iv (1 : Int32), iv (6 : Int32), iv (97 : Int32)] [(.int (1 : Int32)), (.int (1 : Int32))]))
  replace Fq1240 : Fld Z h123 a "com/example/plantilla/plantilla/UrlValue" "start" "J" (.long (69810262081 : Int64)) := Fq1240
  have E125 := Eq106.keep Kq124
  have E126 := E108.keep Kq124
  have F127 := F109.keep Kq124 (ninS (Ne.symm nas) nin0)
  have F128 := F110.keep Kq124 (ninS (Ne.symm nas) nin0)
  have A129 := A111.keep Kq124 (ninS (Ne.symm nab) nin0)
  have K130 := K112.trans Kq124 (allS (Or.inl (List.mem_of_getElem? (i := 0) rfl)) all0)
  refine go_iorL C X122 70 rfl d18_69 (z := (1)) rfl ?_
  refine go_istoreN C X122 71 rfl d18_70 #[rv a, rv sa, iv (0 : Int32), iv (1 : Int32), iv (6 : Int32), iv (97 : Int32)] rfl ?_
  refine go_iinc C X122 74 rfl d18_71 rfl (z := 1) rfl #[rv a, rv sa, iv (0 : Int32), iv (1 : Int32), iv (7 : Int32), iv (97 : Int32)] rfl ?_
  refine go_goto C X122 d18_74 (pc' := 23) (by decide) (by decide) ?_
  refine go_iload C X122 25 rfl d18_23 rfl ?_
  refine go_aloadN C X122 26 rfl d18_25 rfl rfl ?_
  refine go_virtual C X122 E126 (C.w 101 rfl) (C.w 102 rfl) (notFace_of_selects (args := #[]) (mvT C.hZ (C.w 104 rfl))) (C.w 104 rfl) (C.w 103 rfl) (C.w 74 rfl) (C.w 105 rfl) (own_s19_11 l Z a0 C.ws sa sb cs fv h123 n0 X122.old E126 F127 F128 A129 hcs S1 hfv S2) (argsL := []) (rest := [(.int (7 : Int32))]) (lenOf pd_8 rfl) rfl (by decide) (by decide) (Nat.le_of_ble_eq_true rfl) (by decide) (by decide) rfl rfl (pc' := 29) rfl d18_26 ?_
  rintro T131 _ _ ⟨rfl, rfl⟩ X132
  show Go p e below _ (T131.setTop (mkF m 29 #[rv a, rv sa, iv (0 : Int32), iv (1 : Int32), iv (7 : Int32), iv (97 : Int32)] [(.int (12 : Int32)), (.int (7 : Int32))]))
  refine go_icmp_ge C X132 d18_29 (pc' := 32) (pc2 := 77) rfl (by decide) (by decide) (fun (c29 : 12 ≤ 7) => False.elim (by first | omega | exact absurd c29 (by decide))) (fun (c29 : 7 < 12) => ?_)
  refine go_aloadN C X132 33 rfl d18_32 rfl rfl ?_
  refine go_getF C X132 (C.w 28 rfl) Via.refl Fq1243 (pc' := 36) rfl d18_33 (fun T134 X135 => ?_)
  refine go_if_ne C X135 d18_36 (pc' := 39) (pc2 := 77) rfl (by decide) (by decide) (fun (c36 : ¬ (0 : Int32) = (0 : Int32)) => False.elim (by first | omega | exact absurd c36 (by decide))) (fun (c36 : (0 : Int32) = (0 : Int32)) => ?_)
  refine go_aloadN C X135 40 rfl d18_39 rfl rfl ?_
  refine go_iload C X135 42 rfl d18_40 rfl ?_
  refine go_virtual C X135 E126 (C.w 111 rfl) (C.w 112 rfl) (notFace_of_selects (args := #[]) (mvT C.hZ (C.w 114 rfl))) (C.w 114 rfl) (C.w 113 rfl) (C.w 74 rfl) (C.w 115 rfl) (own_s21_48 l Z a0 C.ws sa sb cs fv h123 n0 X135.old E126 F127 F128 A129 hcs S1 hfv S2) (argsL := [(.int (7 : Int32))]) (rest := []) (lenOf pd_13 rfl) rfl (by decide) (by decide) (Nat.le_of_ble_eq_true rfl) (by decide) (by decide) rfl rfl (pc' := 45) rfl d18_42 ?_
  rintro T136 _ _ ⟨rfl, rfl⟩ X137
  show Go p e below _ (T136.setTop (mkF m 45 #[rv a, rv sa, iv (0 : Int32), iv (1 : Int32), iv (7 : Int32), iv (97 : Int32)] [(.int (97 : Int32))]))
  refine go_istore C X137 47 rfl d18_45 #[rv a, rv sa, iv (0 : Int32), iv (1 : Int32), iv (7 : Int32), iv (97 : Int32)] rfl ?_
  refine go_iload C X137 49 rfl d18_47 rfl ?_
  refine go_bipush C X137 51 rfl d18_49 (z := 58) rfl ?_
  refine go_icmp_ne C X137 d18_51 (pc' := 54) (pc2 := 61) rfl (by decide) (by decide) (fun (c51 : ¬ (97 : Int32) = (58 : Int32)) => ?_) (fun (c51 : (97 : Int32) = (58 : Int32)) => False.elim (by first | omega | exact absurd c51 (by decide)))
  refine go_iloadN C X137 62 rfl d18_61 rfl ?_
  refine go_aloadN C X137 63 rfl d18_62 rfl rfl ?_
  refine go_iload C X137 65 rfl d18_63 rfl ?_
  refine go_iconst C X137 66 rfl d18_65 (z := 0) rfl ?_
  refine go_private C X137 Eq124 (C.w 43 rfl) (C.w 44 rfl) (Jvm.Kit.selects_private (by decide) (C.w 9 rfl) (C.w 45 rfl) (C.w 44 rfl)) (C.w 45 rfl) (C.w 10 rfl) (C.w 46 rfl) (own_u7_26 l Z a0 C.ws a (69810262081 : Int64) h123 n0 X137.old Eq124 Fq1240 Fq1241 Fq1242 Fq1243 Fq1244 Fq1245 Fq1246 Fq1247 ga (by decide) ) (argsL := [(.int (97 : Int32)), (.int (0 : Int32))]) (rest := [(.int (1 : Int32))]) (lenOf pd_6 rfl) rfl (by decide) (by decide) (Nat.le_of_ble_eq_true rfl) (by decide) (by decide) rfl rfl (pc' := 69) rfl d18_66 ?_
  rintro T139 h141 _ ⟨rfl, Kq142, Eq142, Fq1420, Fq1421, Fq1422, Fq1423, Fq1424, Fq1425, Fq1426, Fq1427⟩ X140
  show Go p e below _ (T139.setTop (mkF m 69 #[rv a, rv sa, iv (0 : Int32), iv (1 : Int32), iv (7 : Int32), iv (97 : Int32)] [(.int (1 : Int32)), (.int (1 : Int32))]))
  replace Fq1420 : Fld Z h141 a "com/example/plantilla/plantilla/UrlValue" "start" "J" (.long (4467856773185 : Int64)) := Fq1420
  have E143 := Eq124.keep Kq142
  have E144 := E126.keep Kq142
  have F145 := F127.keep Kq142 (ninS (Ne.symm nas) nin0)
  have F146 := F128.keep Kq142 (ninS (Ne.symm nas) nin0)
  have A147 := A129.keep Kq142 (ninS (Ne.symm nab) nin0)
  have K148 := K130.trans Kq142 (allS (Or.inl (List.mem_of_getElem? (i := 0) rfl)) all0)
  refine go_iorL C X140 70 rfl d18_69 (z := (1)) rfl ?_
  refine go_istoreN C X140 71 rfl d18_70 #[rv a, rv sa, iv (0 : Int32), iv (1 : Int32), iv (7 : Int32), iv (97 : Int32)] rfl ?_
  refine go_iinc C X140 74 rfl d18_71 rfl (z := 1) rfl #[rv a, rv sa, iv (0 : Int32), iv (1 : Int32), iv (8 : Int32), iv (97 : Int32)] rfl ?_
  refine go_goto C X140 d18_74 (pc' := 23) (by decide) (by decide) ?_
  refine go_iload C X140 25 rfl d18_23 rfl ?_
  refine go_aloadN C X140 26 rfl d18_25 rfl rfl ?_
  refine go_virtual C X140 E144 (C.w 101 rfl) (C.w 102 rfl) (notFace_of_selects (args := #[]) (mvT C.hZ (C.w 104 rfl))) (C.w 104 rfl) (C.w 103 rfl) (C.w 74 rfl) (C.w 105 rfl) (own_s19_11 l Z a0 C.ws sa sb cs fv h141 n0 X140.old E144 F145 F146 A147 hcs S1 hfv S2) (argsL := []) (rest := [(.int (8 : Int32))]) (lenOf pd_8 rfl) rfl (by decide) (by decide) (Nat.le_of_ble_eq_true rfl) (by decide) (by decide) rfl rfl (pc' := 29) rfl d18_26 ?_
  rintro T149 _ _ ⟨rfl, rfl⟩ X150
  show Go p e below _ (T149.setTop (mkF m 29 #[rv a, rv sa, iv (0 : Int32), iv (1 : Int32), iv (8 : Int32), iv (97 : Int32)] [(.int (12 : Int32)), (.int (8 : Int32))]))
  refine go_icmp_ge C X150 d18_29 (pc' := 32) (pc2 := 77) rfl (by decide) (by decide) (fun (c29 : 12 ≤ 8) => False.elim (by first | omega | exact absurd c29 (by decide))) (fun (c29 : 8 < 12) => ?_)
  refine go_aloadN C X150 33 rfl d18_32 rfl rfl ?_
  refine go_getF C X150 (C.w 28 rfl) Via.refl Fq1423 (pc' := 36) rfl d18_33 (fun T152 X153 => ?_)
  refine go_if_ne C X153 d18_36 (pc' := 39) (pc2 := 77) rfl (by decide) (by decide) (fun (c36 : ¬ (0 : Int32) = (0 : Int32)) => False.elim (by first | omega | exact absurd c36 (by decide))) (fun (c36 : (0 : Int32) = (0 : Int32)) => ?_)
  refine go_aloadN C X153 40 rfl d18_39 rfl rfl ?_
  refine go_iload C X153 42 rfl d18_40 rfl ?_
  refine go_virtual C X153 E144 (C.w 111 rfl) (C.w 112 rfl) (notFace_of_selects (args := #[]) (mvT C.hZ (C.w 114 rfl))) (C.w 114 rfl) (C.w 113 rfl) (C.w 74 rfl) (C.w 115 rfl) (own_s21_52 l Z a0 C.ws sa sb cs fv h141 n0 X153.old E144 F145 F146 A147 hcs S1 hfv S2) (argsL := [(.int (8 : Int32))]) (rest := []) (lenOf pd_13 rfl) rfl (by decide) (by decide) (Nat.le_of_ble_eq_true rfl) (by decide) (by decide) rfl rfl (pc' := 45) rfl d18_42 ?_
  rintro T154 _ _ ⟨rfl, rfl⟩ X155
  show Go p e below _ (T154.setTop (mkF m 45 #[rv a, rv sa, iv (0 : Int32), iv (1 : Int32), iv (8 : Int32), iv (97 : Int32)] [(.int (97 : Int32))]))
  refine go_istore C X155 47 rfl d18_45 #[rv a, rv sa, iv (0 : Int32), iv (1 : Int32), iv (8 : Int32), iv (97 : Int32)] rfl ?_
  refine go_iload C X155 49 rfl d18_47 rfl ?_
  refine go_bipush C X155 51 rfl d18_49 (z := 58) rfl ?_
  refine go_icmp_ne C X155 d18_51 (pc' := 54) (pc2 := 61) rfl (by decide) (by decide) (fun (c51 : ¬ (97 : Int32) = (58 : Int32)) => ?_) (fun (c51 : (97 : Int32) = (58 : Int32)) => False.elim (by first | omega | exact absurd c51 (by decide)))
  refine go_iloadN C X155 62 rfl d18_61 rfl ?_
  refine go_aloadN C X155 63 rfl d18_62 rfl rfl ?_
  refine go_iload C X155 65 rfl d18_63 rfl ?_
  refine go_iconst C X155 66 rfl d18_65 (z := 0) rfl ?_
  refine go_private C X155 Eq142 (C.w 43 rfl) (C.w 44 rfl) (Jvm.Kit.selects_private (by decide) (C.w 9 rfl) (C.w 45 rfl) (C.w 44 rfl)) (C.w 45 rfl) (C.w 10 rfl) (C.w 46 rfl) (own_u7_26 l Z a0 C.ws a (4467856773185 : Int64) h141 n0 X155.old Eq142 Fq1420 Fq1421 Fq1422 Fq1423 Fq1424 Fq1425 Fq1426 Fq1427 ga (by decide) ) (argsL := [(.int (97 : Int32)), (.int (0 : Int32))]) (rest := [(.int (1 : Int32))]) (lenOf pd_6 rfl) rfl (by decide) (by decide) (Nat.le_of_ble_eq_true rfl) (by decide) (by decide) rfl rfl (pc' := 69) rfl d18_66 ?_
  rintro T157 h159 _ ⟨rfl, Kq160, Eq160, Fq1600, Fq1601, Fq1602, Fq1603, Fq1604, Fq1605, Fq1606, Fq1607⟩ X158
  show Go p e below _ (T157.setTop (mkF m 69 #[rv a, rv sa, iv (0 : Int32), iv (1 : Int32), iv (8 : Int32), iv (97 : Int32)] [(.int (1 : Int32)), (.int (1 : Int32))]))
  replace Fq1600 : Fld Z h159 a "com/example/plantilla/plantilla/UrlValue" "start" "J" (.long (285942833483841 : Int64)) := Fq1600
  have E161 := Eq142.keep Kq160
  have E162 := E144.keep Kq160
  have F163 := F145.keep Kq160 (ninS (Ne.symm nas) nin0)
  have F164 := F146.keep Kq160 (ninS (Ne.symm nas) nin0)
  have A165 := A147.keep Kq160 (ninS (Ne.symm nab) nin0)
  have K166 := K148.trans Kq160 (allS (Or.inl (List.mem_of_getElem? (i := 0) rfl)) all0)
  refine go_iorL C X158 70 rfl d18_69 (z := (1)) rfl ?_
  refine go_istoreN C X158 71 rfl d18_70 #[rv a, rv sa, iv (0 : Int32), iv (1 : Int32), iv (8 : Int32), iv (97 : Int32)] rfl ?_
  refine go_iinc C X158 74 rfl d18_71 rfl (z := 1) rfl #[rv a, rv sa, iv (0 : Int32), iv (1 : Int32), iv (9 : Int32), iv (97 : Int32)] rfl ?_
  refine go_goto C X158 d18_74 (pc' := 23) (by decide) (by decide) ?_
  refine go_iload C X158 25 rfl d18_23 rfl ?_
  refine go_aloadN C X158 26 rfl d18_25 rfl rfl ?_
  refine go_virtual C X158 E162 (C.w 101 rfl) (C.w 102 rfl) (notFace_of_selects (args := #[]) (mvT C.hZ (C.w 104 rfl))) (C.w 104 rfl) (C.w 103 rfl) (C.w 74 rfl) (C.w 105 rfl) (own_s19_11 l Z a0 C.ws sa sb cs fv h159 n0 X158.old E162 F163 F164 A165 hcs S1 hfv S2) (argsL := []) (rest := [(.int (9 : Int32))]) (lenOf pd_8 rfl) rfl (by decide) (by decide) (Nat.le_of_ble_eq_true rfl) (by decide) (by decide) rfl rfl (pc' := 29) rfl d18_26 ?_
  rintro T167 _ _ ⟨rfl, rfl⟩ X168
  show Go p e below _ (T167.setTop (mkF m 29 #[rv a, rv sa, iv (0 : Int32), iv (1 : Int32), iv (9 : Int32), iv (97 : Int32)] [(.int (12 : Int32)), (.int (9 : Int32))]))
  refine go_icmp_ge C X168 d18_29 (pc' := 32) (pc2 := 77) rfl (by decide) (by decide) (fun (c29 : 12 ≤ 9) => False.elim (by first | omega | exact absurd c29 (by decide))) (fun (c29 : 9 < 12) => ?_)
  refine go_aloadN C X168 33 rfl d18_32 rfl rfl ?_
  refine go_getF C X168 (C.w 28 rfl) Via.refl Fq1603 (pc' := 36) rfl d18_33 (fun T170 X171 => ?_)
  refine go_if_ne C X171 d18_36 (pc' := 39) (pc2 := 77) rfl (by decide) (by decide) (fun (c36 : ¬ (0 : Int32) = (0 : Int32)) => False.elim (by first | omega | exact absurd c36 (by decide))) (fun (c36 : (0 : Int32) = (0 : Int32)) => ?_)
  refine go_aloadN C X171 40 rfl d18_39 rfl rfl ?_
  refine go_iload C X171 42 rfl d18_40 rfl ?_
  refine go_virtual C X171 E162 (C.w 111 rfl) (C.w 112 rfl) (notFace_of_selects (args := #[]) (mvT C.hZ (C.w 114 rfl))) (C.w 114 rfl) (C.w 113 rfl) (C.w 74 rfl) (C.w 115 rfl) (own_s21_56 l Z a0 C.ws sa sb cs fv h159 n0 X171.old E162 F163 F164 A165 hcs S1 hfv S2) (argsL := [(.int (9 : Int32))]) (rest := []) (lenOf pd_13 rfl) rfl (by decide) (by decide) (Nat.le_of_ble_eq_true rfl) (by decide) (by decide) rfl rfl (pc' := 45) rfl d18_42 ?_
  rintro T172 _ _ ⟨rfl, rfl⟩ X173
  show Go p e below _ (T172.setTop (mkF m 45 #[rv a, rv sa, iv (0 : Int32), iv (1 : Int32), iv (9 : Int32), iv (97 : Int32)] [(.int (97 : Int32))]))
  refine go_istore C X173 47 rfl d18_45 #[rv a, rv sa, iv (0 : Int32), iv (1 : Int32), iv (9 : Int32), iv (97 : Int32)] rfl ?_
  refine go_iload C X173 49 rfl d18_47 rfl ?_
  refine go_bipush C X173 51 rfl d18_49 (z := 58) rfl ?_
  refine go_icmp_ne C X173 d18_51 (pc' := 54) (pc2 := 61) rfl (by decide) (by decide) (fun (c51 : ¬ (97 : Int32) = (58 : Int32)) => ?_) (fun (c51 : (97 : Int32) = (58 : Int32)) => False.elim (by first | omega | exact absurd c51 (by decide)))
  refine go_iloadN C X173 62 rfl d18_61 rfl ?_
  refine go_aloadN C X173 63 rfl d18_62 rfl rfl ?_
  refine go_iload C X173 65 rfl d18_63 rfl ?_
  refine go_iconst C X173 66 rfl d18_65 (z := 0) rfl ?_
  refine go_private C X173 Eq160 (C.w 43 rfl) (C.w 44 rfl) (Jvm.Kit.selects_private (by decide) (C.w 9 rfl) (C.w 45 rfl) (C.w 44 rfl)) (C.w 45 rfl) (C.w 10 rfl) (C.w 46 rfl) (own_u7_26 l Z a0 C.ws a (285942833483841 : Int64) h159 n0 X173.old Eq160 Fq1600 Fq1601 Fq1602 Fq1603 Fq1604 Fq1605 Fq1606 Fq1607 ga (by decide) ) (argsL := [(.int (97 : Int32)), (.int (0 : Int32))]) (rest := [(.int (1 : Int32))]) (lenOf pd_6 rfl) rfl (by decide) (by decide) (Nat.le_of_ble_eq_true rfl) (by decide) (by decide) rfl rfl (pc' := 69) rfl d18_66 ?_
  rintro T175 h177 _ ⟨rfl, Kq178, Eq178, Fq1780, Fq1781, Fq1782, Fq1783, Fq1784, Fq1785, Fq1786, Fq1787⟩ X176
  show Go p e below _ (T175.setTop (mkF m 69 #[rv a, rv sa, iv (0 : Int32), iv (1 : Int32), iv (9 : Int32), iv (97 : Int32)] [(.int (1 : Int32)), (.int (1 : Int32))]))
  replace Fq1780 : Fld Z h177 a "com/example/plantilla/plantilla/UrlValue" "start" "J" (.long (18300341342965825 : Int64)) := Fq1780
  have E179 := Eq160.keep Kq178
  have E180 := E162.keep Kq178
  have F181 := F163.keep Kq178 (ninS (Ne.symm nas) nin0)
  have F182 := F164.keep Kq178 (ninS (Ne.symm nas) nin0)
  have A183 := A165.keep Kq178 (ninS (Ne.symm nab) nin0)
  have K184 := K166.trans Kq178 (allS (Or.inl (List.mem_of_getElem? (i := 0) rfl)) all0)
  refine go_iorL C X176 70 rfl d18_69 (z := (1)) rfl ?_
  refine go_istoreN C X176 71 rfl d18_70 #[rv a, rv sa, iv (0 : Int32), iv (1 : Int32), iv (9 : Int32), iv (97 : Int32)] rfl ?_
  refine go_iinc C X176 74 rfl d18_71 rfl (z := 1) rfl #[rv a, rv sa, iv (0 : Int32), iv (1 : Int32), iv (10 : Int32), iv (97 : Int32)] rfl ?_
  refine go_goto C X176 d18_74 (pc' := 23) (by decide) (by decide) ?_
  refine go_iload C X176 25 rfl d18_23 rfl ?_
  refine go_aloadN C X176 26 rfl d18_25 rfl rfl ?_
  refine go_virtual C X176 E180 (C.w 101 rfl) (C.w 102 rfl) (notFace_of_selects (args := #[]) (mvT C.hZ (C.w 104 rfl))) (C.w 104 rfl) (C.w 103 rfl) (C.w 74 rfl) (C.w 105 rfl) (own_s19_11 l Z a0 C.ws sa sb cs fv h177 n0 X176.old E180 F181 F182 A183 hcs S1 hfv S2) (argsL := []) (rest := [(.int (10 : Int32))]) (lenOf pd_8 rfl) rfl (by decide) (by decide) (Nat.le_of_ble_eq_true rfl) (by decide) (by decide) rfl rfl (pc' := 29) rfl d18_26 ?_
  rintro T185 _ _ ⟨rfl, rfl⟩ X186
  show Go p e below _ (T185.setTop (mkF m 29 #[rv a, rv sa, iv (0 : Int32), iv (1 : Int32), iv (10 : Int32), iv (97 : Int32)] [(.int (12 : Int32)), (.int (10 : Int32))]))
  refine go_icmp_ge C X186 d18_29 (pc' := 32) (pc2 := 77) rfl (by decide) (by decide) (fun (c29 : 12 ≤ 10) => False.elim (by first | omega | exact absurd c29 (by decide))) (fun (c29 : 10 < 12) => ?_)
  refine go_aloadN C X186 33 rfl d18_32 rfl rfl ?_
  refine go_getF C X186 (C.w 28 rfl) Via.refl Fq1783 (pc' := 36) rfl d18_33 (fun T188 X189 => ?_)
  refine go_if_ne C X189 d18_36 (pc' := 39) (pc2 := 77) rfl (by decide) (by decide) (fun (c36 : ¬ (0 : Int32) = (0 : Int32)) => False.elim (by first | omega | exact absurd c36 (by decide))) (fun (c36 : (0 : Int32) = (0 : Int32)) => ?_)
  refine go_aloadN C X189 40 rfl d18_39 rfl rfl ?_
  refine go_iload C X189 42 rfl d18_40 rfl ?_
  refine go_virtual C X189 E180 (C.w 111 rfl) (C.w 112 rfl) (notFace_of_selects (args := #[]) (mvT C.hZ (C.w 114 rfl))) (C.w 114 rfl) (C.w 113 rfl) (C.w 74 rfl) (C.w 115 rfl) (own_s21_60 l Z a0 C.ws sa sb cs fv h177 n0 X189.old E180 F181 F182 A183 hcs S1 hfv S2) (argsL := [(.int (10 : Int32))]) (rest := []) (lenOf pd_13 rfl) rfl (by decide) (by decide) (Nat.le_of_ble_eq_true rfl) (by decide) (by decide) rfl rfl (pc' := 45) rfl d18_42 ?_
  rintro T190 _ _ ⟨rfl, rfl⟩ X191
  show Go p e below _ (T190.setTop (mkF m 45 #[rv a, rv sa, iv (0 : Int32), iv (1 : Int32), iv (10 : Int32), iv (97 : Int32)] [(.int (97 : Int32))]))
  refine go_istore C X191 47 rfl d18_45 #[rv a, rv sa, iv (0 : Int32), iv (1 : Int32), iv (10 : Int32), iv (97 : Int32)] rfl ?_
  refine go_iload C X191 49 rfl d18_47 rfl ?_
  refine go_bipush C X191 51 rfl d18_49 (z := 58) rfl ?_
  refine go_icmp_ne C X191 d18_51 (pc' := 54) (pc2 := 61) rfl (by decide) (by decide) (fun (c51 : ¬ (97 : Int32) = (58 : Int32)) => ?_) (fun (c51 : (97 : Int32) = (58 : Int32)) => False.elim (by first | omega | exact absurd c51 (by decide)))
  refine go_iloadN C X191 62 rfl d18_61 rfl ?_
  refine go_aloadN C X191 63 rfl d18_62 rfl rfl ?_
  refine go_iload C X191 65 rfl d18_63 rfl ?_
  refine go_iconst C X191 66 rfl d18_65 (z := 0) rfl ?_
  refine go_private C X191 Eq178 (C.w 43 rfl) (C.w 44 rfl) (Jvm.Kit.selects_private (by decide) (C.w 9 rfl) (C.w 45 rfl) (C.w 44 rfl)) (C.w 45 rfl) (C.w 10 rfl) (C.w 46 rfl) (own_u7_26 l Z a0 C.ws a (18300341342965825 : Int64) h177 n0 X191.old Eq178 Fq1780 Fq1781 Fq1782 Fq1783 Fq1784 Fq1785 Fq1786 Fq1787 ga (by decide) ) (argsL := [(.int (97 : Int32)), (.int (0 : Int32))]) (rest := [(.int (1 : Int32))]) (lenOf pd_6 rfl) rfl (by decide) (by decide) (Nat.le_of_ble_eq_true rfl) (by decide) (by decide) rfl rfl (pc' := 69) rfl d18_66 ?_
  rintro T193 h195 _ ⟨rfl, Kq196, Eq196, Fq1960, Fq1961, Fq1962, Fq1963, Fq1964, Fq1965, Fq1966, Fq1967⟩ X194
  show Go p e below _ (T193.setTop (mkF m 69 #[rv a, rv sa, iv (0 : Int32), iv (1 : Int32), iv (10 : Int32), iv (97 : Int32)] [(.int (1 : Int32)), (.int (1 : Int32))]))
  replace Fq1960 : Fld Z h195 a "com/example/plantilla/plantilla/UrlValue" "start" "J" (.long (-1 : Int64)) := Fq1960
  have E197 := Eq178.keep Kq196
  have E198 := E180.keep Kq196
  have F199 := F181.keep Kq196 (ninS (Ne.symm nas) nin0)
  have F200 := F182.keep Kq196 (ninS (Ne.symm nas) nin0)
  have A201 := A183.keep Kq196 (ninS (Ne.symm nab) nin0)
  have K202 := K184.trans Kq196 (allS (Or.inl (List.mem_of_getElem? (i := 0) rfl)) all0)
  refine go_iorL C X194 70 rfl d18_69 (z := (1)) rfl ?_
  refine go_istoreN C X194 71 rfl d18_70 #[rv a, rv sa, iv (0 : Int32), iv (1 : Int32), iv (10 : Int32), iv (97 : Int32)] rfl ?_
  refine go_iinc C X194 74 rfl d18_71 rfl (z := 1) rfl #[rv a, rv sa, iv (0 : Int32), iv (1 : Int32), iv (11 : Int32), iv (97 : Int32)] rfl ?_
  refine go_goto C X194 d18_74 (pc' := 23) (by decide) (by decide) ?_
  refine go_iload C X194 25 rfl d18_23 rfl ?_
  refine go_aloadN C X194 26 rfl d18_25 rfl rfl ?_
  refine go_virtual C X194 E198 (C.w 101 rfl) (C.w 102 rfl) (notFace_of_selects (args := #[]) (mvT C.hZ (C.w 104 rfl))) (C.w 104 rfl) (C.w 103 rfl) (C.w 74 rfl) (C.w 105 rfl) (own_s19_11 l Z a0 C.ws sa sb cs fv h195 n0 X194.old E198 F199 F200 A201 hcs S1 hfv S2) (argsL := []) (rest := [(.int (11 : Int32))]) (lenOf pd_8 rfl) rfl (by decide) (by decide) (Nat.le_of_ble_eq_true rfl) (by decide) (by decide) rfl rfl (pc' := 29) rfl d18_26 ?_
  rintro T203 _ _ ⟨rfl, rfl⟩ X204
  show Go p e below _ (T203.setTop (mkF m 29 #[rv a, rv sa, iv (0 : Int32), iv (1 : Int32), iv (11 : Int32), iv (97 : Int32)] [(.int (12 : Int32)), (.int (11 : Int32))]))
  refine go_icmp_ge C X204 d18_29 (pc' := 32) (pc2 := 77) rfl (by decide) (by decide) (fun (c29 : 12 ≤ 11) => False.elim (by first | omega | exact absurd c29 (by decide))) (fun (c29 : 11 < 12) => ?_)
  refine go_aloadN C X204 33 rfl d18_32 rfl rfl ?_
  refine go_getF C X204 (C.w 28 rfl) Via.refl Fq1963 (pc' := 36) rfl d18_33 (fun T206 X207 => ?_)
  refine go_if_ne C X207 d18_36 (pc' := 39) (pc2 := 77) rfl (by decide) (by decide) (fun (c36 : ¬ (0 : Int32) = (0 : Int32)) => False.elim (by first | omega | exact absurd c36 (by decide))) (fun (c36 : (0 : Int32) = (0 : Int32)) => ?_)
  refine go_aloadN C X207 40 rfl d18_39 rfl rfl ?_
  refine go_iload C X207 42 rfl d18_40 rfl ?_
  refine go_virtual C X207 E198 (C.w 111 rfl) (C.w 112 rfl) (notFace_of_selects (args := #[]) (mvT C.hZ (C.w 114 rfl))) (C.w 114 rfl) (C.w 113 rfl) (C.w 74 rfl) (C.w 115 rfl) (own_s21_64 l Z a0 C.ws sa sb cs fv h195 n0 X207.old E198 F199 F200 A201 hcs S1 hfv S2) (argsL := [(.int (11 : Int32))]) (rest := []) (lenOf pd_13 rfl) rfl (by decide) (by decide) (Nat.le_of_ble_eq_true rfl) (by decide) (by decide) rfl rfl (pc' := 45) rfl d18_42 ?_
  rintro T208 _ _ ⟨rfl, rfl⟩ X209
  show Go p e below _ (T208.setTop (mkF m 45 #[rv a, rv sa, iv (0 : Int32), iv (1 : Int32), iv (11 : Int32), iv (97 : Int32)] [(.int (97 : Int32))]))
  refine go_istore C X209 47 rfl d18_45 #[rv a, rv sa, iv (0 : Int32), iv (1 : Int32), iv (11 : Int32), iv (97 : Int32)] rfl ?_
  refine go_iload C X209 49 rfl d18_47 rfl ?_
  refine go_bipush C X209 51 rfl d18_49 (z := 58) rfl ?_
  refine go_icmp_ne C X209 d18_51 (pc' := 54) (pc2 := 61) rfl (by decide) (by decide) (fun (c51 : ¬ (97 : Int32) = (58 : Int32)) => ?_) (fun (c51 : (97 : Int32) = (58 : Int32)) => False.elim (by first | omega | exact absurd c51 (by decide)))
  refine go_iloadN C X209 62 rfl d18_61 rfl ?_
  refine go_aloadN C X209 63 rfl d18_62 rfl rfl ?_
  refine go_iload C X209 65 rfl d18_63 rfl ?_
  refine go_iconst C X209 66 rfl d18_65 (z := 0) rfl ?_
  refine go_private C X209 Eq196 (C.w 43 rfl) (C.w 44 rfl) (Jvm.Kit.selects_private (by decide) (C.w 9 rfl) (C.w 45 rfl) (C.w 44 rfl)) (C.w 45 rfl) (C.w 10 rfl) (C.w 46 rfl) (own_u7_26 l Z a0 C.ws a (-1 : Int64) h195 n0 X209.old Eq196 Fq1960 Fq1961 Fq1962 Fq1963 Fq1964 Fq1965 Fq1966 Fq1967 ga (by decide) ) (argsL := [(.int (97 : Int32)), (.int (0 : Int32))]) (rest := [(.int (1 : Int32))]) (lenOf pd_6 rfl) rfl (by decide) (by decide) (Nat.le_of_ble_eq_true rfl) (by decide) (by decide) rfl rfl (pc' := 69) rfl d18_66 ?_
  rintro T211 h213 _ ⟨rfl, Kq214, Eq214, Fq2140, Fq2141, Fq2142, Fq2143, Fq2144, Fq2145, Fq2146, Fq2147⟩ X212
  show Go p e below _ (T211.setTop (mkF m 69 #[rv a, rv sa, iv (0 : Int32), iv (1 : Int32), iv (11 : Int32), iv (97 : Int32)] [(.int (1 : Int32)), (.int (1 : Int32))]))
  replace Fq2140 : Fld Z h213 a "com/example/plantilla/plantilla/UrlValue" "start" "J" (.long (-1 : Int64)) := Fq2140
  have E215 := Eq196.keep Kq214
  have E216 := E198.keep Kq214
  have F217 := F199.keep Kq214 (ninS (Ne.symm nas) nin0)
  have F218 := F200.keep Kq214 (ninS (Ne.symm nas) nin0)
  have A219 := A201.keep Kq214 (ninS (Ne.symm nab) nin0)
  have K220 := K202.trans Kq214 (allS (Or.inl (List.mem_of_getElem? (i := 0) rfl)) all0)
  refine go_iorL C X212 70 rfl d18_69 (z := (1)) rfl ?_
  refine go_istoreN C X212 71 rfl d18_70 #[rv a, rv sa, iv (0 : Int32), iv (1 : Int32), iv (11 : Int32), iv (97 : Int32)] rfl ?_
  refine go_iinc C X212 74 rfl d18_71 rfl (z := 1) rfl #[rv a, rv sa, iv (0 : Int32), iv (1 : Int32), iv (12 : Int32), iv (97 : Int32)] rfl ?_
  refine go_goto C X212 d18_74 (pc' := 23) (by decide) (by decide) ?_
  refine go_iload C X212 25 rfl d18_23 rfl ?_
  refine go_aloadN C X212 26 rfl d18_25 rfl rfl ?_
  refine go_virtual C X212 E216 (C.w 101 rfl) (C.w 102 rfl) (notFace_of_selects (args := #[]) (mvT C.hZ (C.w 104 rfl))) (C.w 104 rfl) (C.w 103 rfl) (C.w 74 rfl) (C.w 105 rfl) (own_s19_11 l Z a0 C.ws sa sb cs fv h213 n0 X212.old E216 F217 F218 A219 hcs S1 hfv S2) (argsL := []) (rest := [(.int (12 : Int32))]) (lenOf pd_8 rfl) rfl (by decide) (by decide) (Nat.le_of_ble_eq_true rfl) (by decide) (by decide) rfl rfl (pc' := 29) rfl d18_26 ?_
  rintro T221 _ _ ⟨rfl, rfl⟩ X222
  show Go p e below _ (T221.setTop (mkF m 29 #[rv a, rv sa, iv (0 : Int32), iv (1 : Int32), iv (12 : Int32), iv (97 : Int32)] [(.int (12 : Int32)), (.int (12 : Int32))]))
  refine go_icmp_ge C X222 d18_29 (pc' := 32) (pc2 := 77) rfl (by decide) (by decide) (fun (c29 : 12 ≤ 12) => ?_) (fun (c29 : 12 < 12) => False.elim (by first | omega | exact absurd c29 (by decide)))
  refine go_aloadN C X222 78 rfl d18_77 rfl rfl ?_
  refine go_dup C X222 79 rfl d18_78 rfl ?_
  refine go_getF C X222 (C.w 28 rfl) Via.refl Fq2143 (pc' := 82) rfl d18_79 (fun T224 X225 => ?_)
  refine go_iloadN C X225 83 rfl d18_82 rfl ?_
  refine go_iorL C X225 84 rfl d18_83 (z := (0)) rfl ?_
  refine go_putFN C X225 (C.w 28 rfl) Via.refl Fq2143 Eq214 (Or.inl (C.w 29 rfl)) (C.w 9 rfl) ga (ty := .boolean) (by decide) (v' := (.int (0 : Int32))) rfl rfl (pc' := 87) rfl d18_84 (fun T226 h228 W229 X227 => ?_)
  have F230 := Fq2143.same W229
  have E231 := Eq214.wr W229
  have E232 := E216.wr W229
  have F233 := F217.other W229 (Or.inl (Ne.symm nas))
  have F234 := F218.other W229 (Or.inl (Ne.symm nas))
  have A235 := A219.other W229 (Ne.symm nab)
  have F236 := Fq2140.other W229 (Or.inr (slot_ne (Or.inl (C.w 23 rfl)) (Or.inl (C.w 29 rfl)) (by decide) (t := .long) (t' := .boolean) (by decide) (by decide)))
  have F237 := Fq2141.other W229 (Or.inr (slot_ne (Or.inl (C.w 25 rfl)) (Or.inl (C.w 29 rfl)) (by decide) (t := .boolean) (t' := .boolean) (by decide) (by decide)))
  have F238 := Fq2142.other W229 (Or.inr (slot_ne (Or.inl (C.w 27 rfl)) (Or.inl (C.w 29 rfl)) (by decide) (t := .boolean) (t' := .boolean) (by decide) (by decide)))
  have F239 := Fq2144.other W229 (Or.inr (slot_ne (Or.inl (C.w 31 rfl)) (Or.inl (C.w 29 rfl)) (by decide) (t := .boolean) (t' := .boolean) (by decide) (by decide)))
  have F240 := Fq2145.other W229 (Or.inr (slot_ne (Or.inl (C.w 33 rfl)) (Or.inl (C.w 29 rfl)) (by decide) (t := .boolean) (t' := .boolean) (by decide) (by decide)))
  have F241 := Fq2146.other W229 (Or.inr (slot_ne (Or.inl (C.w 35 rfl)) (Or.inl (C.w 29 rfl)) (by decide) (t := .boolean) (t' := .boolean) (by decide) (by decide)))
  have F242 := Fq2147.other W229 (Or.inr (slot_ne (Or.inl (C.w 37 rfl)) (Or.inl (C.w 29 rfl)) (by decide) (t := .boolean) (t' := .boolean) (by decide) (by decide)))
  have K243 := K220.wr W229 (Or.inl (List.mem_of_getElem? (i := 0) rfl))
  refine go_aloadN C X227 88 rfl d18_87 rfl rfl ?_
  refine go_iloadN C X227 89 rfl d18_88 rfl ?_
  refine go_if_eq C X227 d18_89 (pc' := 92) (pc2 := 117) rfl (by decide) (by decide) (fun (c89 : (1 : Int32) = (0 : Int32)) => False.elim (by first | omega | exact absurd c89 (by decide))) (fun (c89 : ¬ (1 : Int32) = (0 : Int32)) => ?_)
  refine go_aloadN C X227 93 rfl d18_92 rfl rfl ?_
  refine go_getF C X227 (C.w 28 rfl) Via.refl F230 (pc' := 96) rfl d18_93 (fun T244 X245 => ?_)
  refine go_if_ne C X245 d18_96 (pc' := 99) (pc2 := 117) rfl (by decide) (by decide) (fun (c96 : ¬ (0 : Int32) = (0 : Int32)) => False.elim (by first | omega | exact absurd c96 (by decide))) (fun (c96 : (0 : Int32) = (0 : Int32)) => ?_)
  refine go_aloadN C X245 100 rfl d18_99 rfl rfl ?_
  refine go_getF C X245 (C.w 26 rfl) Via.refl F238 (pc' := 103) rfl d18_100 (fun T246 X247 => ?_)
  refine go_if_ne C X247 d18_103 (pc' := 106) (pc2 := 113) rfl (by decide) (by decide) (fun (c103 : ¬ (1 : Int32) = (0 : Int32)) => ?_) (fun (c103 : (1 : Int32) = (0 : Int32)) => False.elim (by first | omega | exact absurd c103 (by decide)))
  refine go_iconst C X247 114 rfl d18_113 (z := 1) rfl ?_
  refine go_goto C X247 d18_114 (pc' := 118) (by decide) (by decide) ?_
  refine go_putFN C X247 (C.w 34 rfl) Via.refl F241 E231 (Or.inl (C.w 35 rfl)) (C.w 9 rfl) ga (ty := .boolean) (by decide) (v' := (.int (1 : Int32))) rfl rfl (pc' := 121) rfl d18_118 (fun T248 h250 W251 X249 => ?_)
  have F252 := F241.same W251
  have E253 := E231.wr W251
  have E254 := E232.wr W251
  have F255 := F233.other W251 (Or.inl (Ne.symm nas))
  have F256 := F234.other W251 (Or.inl (Ne.symm nas))
  have A257 := A235.other W251 (Ne.symm nab)
  have F258 := F236.other W251 (Or.inr (slot_ne (Or.inl (C.w 23 rfl)) (Or.inl (C.w 35 rfl)) (by decide) (t := .long) (t' := .boolean) (by decide) (by decide)))
  have F259 := F237.other W251 (Or.inr (slot_ne (Or.inl (C.w 25 rfl)) (Or.inl (C.w 35 rfl)) (by decide) (t := .boolean) (t' := .boolean) (by decide) (by decide)))
  have F260 := F238.other W251 (Or.inr (slot_ne (Or.inl (C.w 27 rfl)) (Or.inl (C.w 35 rfl)) (by decide) (t := .boolean) (t' := .boolean) (by decide) (by decide)))
  have F261 := F230.other W251 (Or.inr (slot_ne (Or.inl (C.w 29 rfl)) (Or.inl (C.w 35 rfl)) (by decide) (t := .boolean) (t' := .boolean) (by decide) (by decide)))
  have F262 := F239.other W251 (Or.inr (slot_ne (Or.inl (C.w 31 rfl)) (Or.inl (C.w 35 rfl)) (by decide) (t := .boolean) (t' := .boolean) (by decide) (by decide)))
  have F263 := F240.other W251 (Or.inr (slot_ne (Or.inl (C.w 33 rfl)) (Or.inl (C.w 35 rfl)) (by decide) (t := .boolean) (t' := .boolean) (by decide) (by decide)))
  have F264 := F242.other W251 (Or.inr (slot_ne (Or.inl (C.w 37 rfl)) (Or.inl (C.w 35 rfl)) (by decide) (t := .boolean) (t' := .boolean) (by decide) (by decide)))
  have K265 := K243.wr W251 (Or.inl (List.mem_of_getElem? (i := 0) rfl))
  refine go_iloadN C X249 122 rfl d18_121 rfl ?_
  refine go_if_eq C X249 d18_122 (pc' := 125) (pc2 := 130) rfl (by decide) (by decide) (fun (c122 : (0 : Int32) = (0 : Int32)) => ?_) (fun (c122 : ¬ (0 : Int32) = (0 : Int32)) => False.elim (by first | omega | exact absurd c122 (by decide)))
  refine go_aloadN C X249 131 rfl d18_130 rfl rfl ?_
  exact go_retA C X249 d18_131 rfl rfl ⟨rfl, K265, E253, F258, F259, F260, F261, F262, F263, F252, F264⟩ (by decide) (by decide)
theorem pd_14 : parseMethodDescriptor "(Ljava/lang/String;)Ljava/lang/String;" = some ⟨[(.object "java/lang/String")], some (.object "java/lang/String")⟩ := by decide +kernel
theorem d2_145 : decode method_4_code 145 = .ok (.invokevirtual 42, 3) := by decide +kernel
theorem d2_148 : decode method_4_code 148 = .ok (.pop, 1) := by decide +kernel
theorem d2_149 : decode method_4_code 149 = .ok (.aload_n 2, 1) := by decide +kernel
theorem ef_own_u10_68 (m : MethodId) (a : Addr)  : entryFrame m #[(.ref a)] 1 = mkF m 0 #[rv a] [] := by
  first | (simp [entryFrame, mkF, argsToLocals, Value.category]; done) | rfl
set_option maxRecDepth 65536 in
set_option maxHeartbeats 40000000 in
theorem own_u10_68 (l : Launch) (Z : State) (a0 : Array Value) (hw : ∀ d ∈ tables_1, d.before a0 Z = true) (a : Addr)  (h : Heap) (n0 : Nat) (hn0 : Old Z n0 h) (E0 : Exa Z h a "com/example/plantilla/plantilla/UrlValue") (FF0 : Fld Z h a "com/example/plantilla/plantilla/UrlValue" "start" "J" (.long (-1 : Int64))) (FF1 : Fld Z h a "com/example/plantilla/plantilla/UrlValue" "begun" "Z" (.int (1 : Int32))) (FF2 : Fld Z h a "com/example/plantilla/plantilla/UrlValue" "schemeLike" "Z" (.int (1 : Int32))) (FF3 : Fld Z h a "com/example/plantilla/plantilla/UrlValue" "delimited" "Z" (.int (0 : Int32))) (FF4 : Fld Z h a "com/example/plantilla/plantilla/UrlValue" "query" "Z" (.int (0 : Int32))) (FF5 : Fld Z h a "com/example/plantilla/plantilla/UrlValue" "reference" "Z" (.int (0 : Int32))) (FF6 : Fld Z h a "com/example/plantilla/plantilla/UrlValue" "holding" "Z" (.int (1 : Int32))) (FF7 : Fld Z h a "com/example/plantilla/plantilla/UrlValue" "referenceOpen" "Z" (.int (0 : Int32))) (ga : n0 ≤ a)  :
    Con l Z (⟨"com/example/plantilla/plantilla/UrlValue", "voidHeldValue", "()V"⟩ : MethodName) prog_44_method_10_code 1 none ({ frames := 0, cells := 0, slots := 0, locals := 0 } : Room) #[(.ref a)] h n0 (fun v h' => v = none ∧ Keep h h' [a] ∧ Exa Z h' a "com/example/plantilla/plantilla/UrlValue" ∧ Fld Z h' a "com/example/plantilla/plantilla/UrlValue" "start" "J" (.long (-1 : Int64)) ∧ Fld Z h' a "com/example/plantilla/plantilla/UrlValue" "begun" "Z" (.int (1 : Int32)) ∧ Fld Z h' a "com/example/plantilla/plantilla/UrlValue" "schemeLike" "Z" (.int (1 : Int32)) ∧ Fld Z h' a "com/example/plantilla/plantilla/UrlValue" "delimited" "Z" (.int (1 : Int32)) ∧ Fld Z h' a "com/example/plantilla/plantilla/UrlValue" "query" "Z" (.int (0 : Int32)) ∧ Fld Z h' a "com/example/plantilla/plantilla/UrlValue" "reference" "Z" (.int (0 : Int32)) ∧ Fld Z h' a "com/example/plantilla/plantilla/UrlValue" "holding" "Z" (.int (0 : Int32)) ∧ Fld Z h' a "com/example/plantilla/plantilla/UrlValue" "referenceOpen" "Z" (.int (0 : Int32))) := by
  refine con_of hw (plainFor_of_name pn_com_example_plantilla_plantilla_UrlValue) hn0 ?_
  intro p e s m below meth c T0 C X0
  refine Go.cast (congrArg T0.setTop (ef_own_u10_68 m a)) ?_
  refine go_aloadN C X0 1 rfl d10_0 rfl rfl ?_
  refine go_iconst C X0 2 rfl d10_1 (z := 0) rfl ?_
  refine go_putFN C X0 (C.w 34 rfl) Via.refl FF6 E0 (Or.inl (C.w 35 rfl)) (C.w 9 rfl) ga (ty := .boolean) (by decide) (v' := (.int (0 : Int32))) rfl rfl (pc' := 5) rfl d10_2 (fun T1 h3 W4 X2 => ?_)
  have F5 := FF6.same W4
  have E6 := E0.wr W4
  have F7 := FF0.other W4 (Or.inr (slot_ne (Or.inl (C.w 23 rfl)) (Or.inl (C.w 35 rfl)) (by decide) (t := .long) (t' := .boolean) (by decide) (by decide)))
  have F8 := FF1.other W4 (Or.inr (slot_ne (Or.inl (C.w 25 rfl)) (Or.inl (C.w 35 rfl)) (by decide) (t := .boolean) (t' := .boolean) (by decide) (by decide)))
  have F9 := FF2.other W4 (Or.inr (slot_ne (Or.inl (C.w 27 rfl)) (Or.inl (C.w 35 rfl)) (by decide) (t := .boolean) (t' := .boolean) (by decide) (by decide)))
  have F10 := FF3.other W4 (Or.inr (slot_ne (Or.inl (C.w 29 rfl)) (Or.inl (C.w 35 rfl)) (by decide) (t := .boolean) (t' := .boolean) (by decide) (by decide)))
  have F11 := FF4.other W4 (Or.inr (slot_ne (Or.inl (C.w 31 rfl)) (Or.inl (C.w 35 rfl)) (by decide) (t := .boolean) (t' := .boolean) (by decide) (by decide)))
  have F12 := FF5.other W4 (Or.inr (slot_ne (Or.inl (C.w 33 rfl)) (Or.inl (C.w 35 rfl)) (by decide) (t := .boolean) (t' := .boolean) (by decide) (by decide)))
  have F13 := FF7.other W4 (Or.inr (slot_ne (Or.inl (C.w 37 rfl)) (Or.inl (C.w 35 rfl)) (by decide) (t := .boolean) (t' := .boolean) (by decide) (by decide)))
  have K14 := (Keep.refl h [a]).wr W4 (Or.inl (List.mem_of_getElem? (i := 0) rfl))
  refine go_aloadN C X2 6 rfl d10_5 rfl rfl ?_
  refine go_iconst C X2 7 rfl d10_6 (z := 1) rfl ?_
  refine go_putFN C X2 (C.w 28 rfl) Via.refl F10 E6 (Or.inl (C.w 29 rfl)) (C.w 9 rfl) ga (ty := .boolean) (by decide) (v' := (.int (1 : Int32))) rfl rfl (pc' := 10) rfl d10_7 (fun T15 h17 W18 X16 => ?_)
  have F19 := F10.same W18
  have E20 := E6.wr W18
  have F21 := F7.other W18 (Or.inr (slot_ne (Or.inl (C.w 23 rfl)) (Or.inl (C.w 29 rfl)) (by decide) (t := .long) (t' := .boolean) (by decide) (by decide)))
  have F22 := F8.other W18 (Or.inr (slot_ne (Or.inl (C.w 25 rfl)) (Or.inl (C.w 29 rfl)) (by decide) (t := .boolean) (t' := .boolean) (by decide) (by decide)))
  have F23 := F9.other W18 (Or.inr (slot_ne (Or.inl (C.w 27 rfl)) (Or.inl (C.w 29 rfl)) (by decide) (t := .boolean) (t' := .boolean) (by decide) (by decide)))
  have F24 := F11.other W18 (Or.inr (slot_ne (Or.inl (C.w 31 rfl)) (Or.inl (C.w 29 rfl)) (by decide) (t := .boolean) (t' := .boolean) (by decide) (by decide)))
  have F25 := F12.other W18 (Or.inr (slot_ne (Or.inl (C.w 33 rfl)) (Or.inl (C.w 29 rfl)) (by decide) (t := .boolean) (t' := .boolean) (by decide) (by decide)))
  have F26 := F5.other W18 (Or.inr (slot_ne (Or.inl (C.w 35 rfl)) (Or.inl (C.w 29 rfl)) (by decide) (t := .boolean) (t' := .boolean) (by decide) (by decide)))
  have F27 := F13.other W18 (Or.inr (slot_ne (Or.inl (C.w 37 rfl)) (Or.inl (C.w 29 rfl)) (by decide) (t := .boolean) (t' := .boolean) (by decide) (by decide)))
  have K28 := K14.wr W18 (Or.inl (List.mem_of_getElem? (i := 0) rfl))
  exact go_ret0 C X16 d10_10 ⟨rfl, K28, E20, F21, F22, F23, F19, F24, F25, F26, F27⟩ (by decide) (by decide)
theorem d2_150 : decode method_4_code 150 = .ok (.invokevirtual 29, 3) := by decide +kernel
theorem d2_153 : decode method_4_code 153 = .ok (.goto 20, 3) := by decide +kernel
theorem d2_124 : decode method_4_code 124 = .ok (.aload_n 2, 1) := by decide +kernel
theorem d2_125 : decode method_4_code 125 = .ok (.iload_n 1, 1) := by decide +kernel
theorem pd_15 : parseMethodDescriptor "(C)Ljava/lang/String;" = some ⟨[.char], some (.object "java/lang/String")⟩ := by decide +kernel
theorem d2_126 : decode method_4_code 126 = .ok (.invokestatic 36, 3) := by decide +kernel
theorem ef_own_s20_71 (m : MethodId) (sa : Addr)  : entryFrame m #[(.ref sa)] 1 = mkF m 0 #[rv sa] [] := by
  first | (simp [entryFrame, mkF, argsToLocals, Value.category]; done) | rfl
set_option maxRecDepth 65536 in
set_option maxHeartbeats 40000000 in
theorem own_s20_71 (l : Launch) (Z : State) (a0 : Array Value) (hw : ∀ d ∈ tables_1, d.before a0 Z = true) (sa : Addr) (cc : Int32) (sb : Addr) (cs : Int32) (fv : Value) (h : Heap) (n0 : Nat) (hn0 : Old Z n0 h) (hc : ((97 ≤ cc.toInt ∧ cc.toInt ≤ 122) ∨ (65 ≤ cc.toInt ∧ cc.toInt ≤ 90))) (ES : Exa Z h sa "java/lang/String") (G1 : Fld Z h sa "java/lang/String" "coder" "B" (.int 0)) (G2 : Fld Z h sa "java/lang/String" "value" "[B" (.ref sb)) (AS : La Z h sb .byte [(.int cc)]) (hcs : ¬ cs = 0) (S1 : Sta Z Z.heap "java/lang/String" "COMPACT_STRINGS" "Z" (.int cs)) (hfv : fv.isRef = true) (S2 : Sta Z Z.heap "jdk/internal/util/Preconditions" "SIOOBE_FORMATTER" "Ljava/util/function/BiFunction;" fv) :
    Con l Z (⟨"java/lang/String", "coder", "()B"⟩ : MethodName) jdk_42_method_152_code 1 (some .byte) ({ frames := 0, cells := 0, slots := 0, locals := 0 } : Room) #[(.ref sa)] h n0 (fun v h' => v = some (.int (0 : Int32)) ∧ h = h') := by
  refine con_of hw (plainFor_of_name pn_java_lang_String) hn0 ?_
  intro p e s m below meth c T0 C X0
  refine Go.cast (congrArg T0.setTop (ef_own_s20_71 m sa)) ?_
  refine go_getS C X0 (C.w 76 rfl) (S1.ext X0.old.2) (pc' := 3) rfl d20_0 (fun T1 X2 => ?_)
  refine go_if_eq C X2 d20_3 (pc' := 6) (pc2 := 13) rfl (by decide) (by decide) (fun (c3 : cs = (0 : Int32)) => False.elim (hcs c3)) (fun (c3 : ¬ cs = (0 : Int32)) => ?_)
  refine go_aloadN C X2 7 rfl d20_6 rfl rfl ?_
  refine go_getF C X2 (C.w 94 rfl) Via.refl G1 (pc' := 10) rfl d20_7 (fun T3 X4 => ?_)
  refine go_goto C X4 d20_10 (pc' := 14) (by decide) (by decide) ?_
  exact go_retN C X4 (by simp) (z' := 0) rfl d20_14 ⟨rfl, rfl⟩ (by decide) (by decide)
theorem ef_own_s19_70 (m : MethodId) (sa : Addr)  : entryFrame m #[(.ref sa)] 1 = mkF m 0 #[rv sa] [] := by
  first | (simp [entryFrame, mkF, argsToLocals, Value.category]; done) | rfl
set_option maxRecDepth 65536 in
set_option maxHeartbeats 40000000 in
theorem own_s19_70 (l : Launch) (Z : State) (a0 : Array Value) (hw : ∀ d ∈ tables_1, d.before a0 Z = true) (sa : Addr) (cc : Int32) (sb : Addr) (cs : Int32) (fv : Value) (h : Heap) (n0 : Nat) (hn0 : Old Z n0 h) (hc : ((97 ≤ cc.toInt ∧ cc.toInt ≤ 122) ∨ (65 ≤ cc.toInt ∧ cc.toInt ≤ 90))) (ES : Exa Z h sa "java/lang/String") (G1 : Fld Z h sa "java/lang/String" "coder" "B" (.int 0)) (G2 : Fld Z h sa "java/lang/String" "value" "[B" (.ref sb)) (AS : La Z h sb .byte [(.int cc)]) (hcs : ¬ cs = 0) (S1 : Sta Z Z.heap "java/lang/String" "COMPACT_STRINGS" "Z" (.int cs)) (hfv : fv.isRef = true) (S2 : Sta Z Z.heap "jdk/internal/util/Preconditions" "SIOOBE_FORMATTER" "Ljava/util/function/BiFunction;" fv) :
    Con l Z (⟨"java/lang/String", "length", "()I"⟩ : MethodName) jdk_42_method_54_code 1 (some .int) ({ frames := 1, cells := 0, slots := 0, locals := 13 } : Room) #[(.ref sa)] h n0 (fun v h' => v = some (.int (1 : Int32)) ∧ h = h') := by
  refine con_of hw (plainFor_of_name pn_java_lang_String) hn0 ?_
  intro p e s m below meth c T0 C X0
  refine Go.cast (congrArg T0.setTop (ef_own_s19_70 m sa)) ?_
  refine go_aloadN C X0 1 rfl d19_0 rfl rfl ?_
  refine go_getF C X0 (C.w 92 rfl) Via.refl G2 (pc' := 4) rfl d19_1 (fun T1 X2 => ?_)
  refine go_alen C X2 AS (z := (1 : Int32)) rfl (pc' := 5) rfl d19_4 ?_
  refine go_aloadN C X2 6 rfl d19_5 rfl rfl ?_
  refine go_virtual C X2 ES (C.w 106 rfl) (C.w 107 rfl) (notFace_of_selects (args := #[]) (mvT C.hZ (C.w 109 rfl))) (C.w 109 rfl) (C.w 108 rfl) (C.w 74 rfl) (C.w 110 rfl) (own_s20_71 l Z a0 C.ws sa cc sb cs fv h n0 X2.old hc ES G1 G2 AS hcs S1 hfv S2) (argsL := []) (rest := [(.int (1 : Int32))]) (lenOf pd_7 rfl) rfl (by decide) (by decide) (Nat.le_of_ble_eq_true rfl) (by decide) (by decide) rfl rfl (pc' := 9) rfl d19_6 ?_
  rintro T3 _ _ ⟨rfl, rfl⟩ X4
  show Go p e below _ (T3.setTop (mkF m 9 #[rv sa] [(.int (0 : Int32)), (.int (1 : Int32))]))
  refine go_ishr C X4 10 rfl d19_9 ?_
  show Go p e below _ (T3.setTop (mkF m 10 #[rv sa] [(.int (1 : Int32))]))
  exact go_retI C X4 d19_10 ⟨rfl, rfl⟩ (by decide) (by decide)
theorem ef_own_s22_73 (m : MethodId) (sa : Addr)  : entryFrame m #[(.ref sa)] 1 = mkF m 0 #[rv sa] [] := by
  first | (simp [entryFrame, mkF, argsToLocals, Value.category]; done) | rfl
set_option maxRecDepth 65536 in
set_option maxHeartbeats 40000000 in
theorem own_s22_73 (l : Launch) (Z : State) (a0 : Array Value) (hw : ∀ d ∈ tables_1, d.before a0 Z = true) (sa : Addr) (cc : Int32) (sb : Addr) (cs : Int32) (fv : Value) (h : Heap) (n0 : Nat) (hn0 : Old Z n0 h) (hc : ((97 ≤ cc.toInt ∧ cc.toInt ≤ 122) ∨ (65 ≤ cc.toInt ∧ cc.toInt ≤ 90))) (ES : Exa Z h sa "java/lang/String") (G1 : Fld Z h sa "java/lang/String" "coder" "B" (.int 0)) (G2 : Fld Z h sa "java/lang/String" "value" "[B" (.ref sb)) (AS : La Z h sb .byte [(.int cc)]) (hcs : ¬ cs = 0) (S1 : Sta Z Z.heap "java/lang/String" "COMPACT_STRINGS" "Z" (.int cs)) (hfv : fv.isRef = true) (S2 : Sta Z Z.heap "jdk/internal/util/Preconditions" "SIOOBE_FORMATTER" "Ljava/util/function/BiFunction;" fv) :
    Con l Z (⟨"java/lang/String", "isLatin1", "()Z"⟩ : MethodName) jdk_42_method_154_code 1 (some .boolean) ({ frames := 0, cells := 0, slots := 0, locals := 0 } : Room) #[(.ref sa)] h n0 (fun v h' => v = some (.int (1 : Int32)) ∧ h = h') := by
  refine con_of hw (plainFor_of_name pn_java_lang_String) hn0 ?_
  intro p e s m below meth c T0 C X0
  refine Go.cast (congrArg T0.setTop (ef_own_s22_73 m sa)) ?_
  refine go_getS C X0 (C.w 76 rfl) (S1.ext X0.old.2) (pc' := 3) rfl d22_0 (fun T1 X2 => ?_)
  refine go_if_eq C X2 d22_3 (pc' := 6) (pc2 := 17) rfl (by decide) (by decide) (fun (c3 : cs = (0 : Int32)) => False.elim (hcs c3)) (fun (c3 : ¬ cs = (0 : Int32)) => ?_)
  refine go_aloadN C X2 7 rfl d22_6 rfl rfl ?_
  refine go_getF C X2 (C.w 94 rfl) Via.refl G1 (pc' := 10) rfl d22_7 (fun T3 X4 => ?_)
  refine go_if_ne C X4 d22_10 (pc' := 13) (pc2 := 17) rfl (by decide) (by decide) (fun (c10 : ¬ (0 : Int32) = (0 : Int32)) => False.elim (by first | omega | exact absurd c10 (by decide))) (fun (c10 : (0 : Int32) = (0 : Int32)) => ?_)
  refine go_iconst C X4 14 rfl d22_13 (z := 1) rfl ?_
  refine go_goto C X4 d22_14 (pc' := 18) (by decide) (by decide) ?_
  exact go_retN C X4 (by simp) (z' := 1) rfl d22_18 ⟨rfl, rfl⟩ (by decide) (by decide)
theorem ef_own_pc_76 (m : MethodId) (fv : Value) (hfv : fv.isRef = true) : entryFrame m #[(.int (0 : Int32)), (.int (1 : Int32)), fv] 3 = mkF m 0 #[iv (0 : Int32), iv (1 : Int32), .val fv] [] := by
  cases fv <;> first | (cases hfv; done) | skip
  all_goals first | (simp [entryFrame, mkF, argsToLocals, Value.category]; done) | rfl
set_option maxRecDepth 65536 in
set_option maxHeartbeats 40000000 in
theorem own_pc_76 (l : Launch) (Z : State) (a0 : Array Value) (hw : ∀ d ∈ tables_1, d.before a0 Z = true) (fv : Value)  (h : Heap) (n0 : Nat) (hn0 : Old Z n0 h) (hfv : fv.isRef = true)  :
    Con l Z (⟨"jdk/internal/util/Preconditions", "checkIndex", "(IILjava/util/function/BiFunction;)I"⟩ : MethodName) jdk_41_method_11_code 3 (some .int) ({ frames := 0, cells := 0, slots := 0, locals := 0 } : Room) #[(.int (0 : Int32)), (.int (1 : Int32)), fv] h n0 (fun v h' => v = some (.int (0 : Int32)) ∧ h = h') := by
  refine con_of hw (plainFor_of_name pn_jdk_internal_util_Preconditions) hn0 ?_
  intro p e s m below meth c T0 C X0
  refine Go.cast (congrArg T0.setTop (ef_own_pc_76 m fv hfv)) ?_
  refine go_iloadN C X0 1 rfl d25_0 rfl ?_
  refine go_if_lt C X0 d25_1 (pc' := 4) (pc2 := 9) rfl (by decide) (by decide) (fun (c1 : 0 < 0) => False.elim (by first | omega | exact absurd c1 (by decide))) (fun (c1 : 0 ≤ 0) => ?_)
  refine go_iloadN C X0 5 rfl d25_4 rfl ?_
  refine go_iloadN C X0 6 rfl d25_5 rfl ?_
  refine go_icmp_lt C X0 d25_6 (pc' := 9) (pc2 := 16) rfl (by decide) (by decide) (fun (c6 : 0 < 1) => ?_) (fun (c6 : 1 ≤ 0) => False.elim (by first | omega | exact absurd c6 (by decide)))
  refine go_iloadN C X0 17 rfl d25_16 rfl ?_
  exact go_retI C X0 d25_17 ⟨rfl, rfl⟩ (by decide) (by decide)
theorem ef_own_sc_75 (m : MethodId)   : entryFrame m #[(.int (0 : Int32)), (.int (1 : Int32))] 2 = mkF m 0 #[iv (0 : Int32), iv (1 : Int32)] [] := by
  first | (simp [entryFrame, mkF, argsToLocals, Value.category]; done) | rfl
set_option maxRecDepth 65536 in
set_option maxHeartbeats 40000000 in
theorem own_sc_75 (l : Launch) (Z : State) (a0 : Array Value) (hw : ∀ d ∈ tables_1, d.before a0 Z = true)  (cs : Int32) (fv : Value) (h : Heap) (n0 : Nat) (hn0 : Old Z n0 h) (hcs : ¬ cs = 0) (S1 : Sta Z Z.heap "java/lang/String" "COMPACT_STRINGS" "Z" (.int cs)) (hfv : fv.isRef = true) (S2 : Sta Z Z.heap "jdk/internal/util/Preconditions" "SIOOBE_FORMATTER" "Ljava/util/function/BiFunction;" fv) :
    Con l Z (⟨"java/lang/String", "checkIndex", "(II)V"⟩ : MethodName) jdk_42_method_155_code 2 none ({ frames := 1, cells := 0, slots := 0, locals := 14 } : Room) #[(.int (0 : Int32)), (.int (1 : Int32))] h n0 (fun v h' => v = none ∧ h = h') := by
  refine con_of hw (plainFor_of_name pn_java_lang_String) hn0 ?_
  intro p e s m below meth c T0 C X0
  refine Go.cast (congrArg T0.setTop (ef_own_sc_75 m )) ?_
  refine go_iloadN C X0 1 rfl d24_0 rfl ?_
  refine go_iloadN C X0 2 rfl d24_1 rfl ?_
  refine go_getS C X0 (C.w 127 rfl) (S2.ext X0.old.2) (pc' := 5) rfl d24_2 (fun T1 X2 => ?_)
  refine go_callS C X2 (C.w 129 rfl) (C.w 130 rfl) (C.w 128 rfl) (C.w 131 rfl) (own_pc_76 l Z a0 C.ws fv h n0 X2.old hfv) (argsL := [(.int (0 : Int32)), (.int (1 : Int32)), fv]) (rest := []) (lenOf pd_10 rfl) rfl (by decide) (by decide) (Nat.le_of_ble_eq_true rfl) (by decide) (by decide) rfl rfl (pc' := 8) rfl d24_5 ?_
  rintro T3 _ _ ⟨rfl, rfl⟩ X4
  show Go p e below _ (T3.setTop (mkF m 8 #[iv (0 : Int32), iv (1 : Int32)] [(.int (0 : Int32))]))
  refine go_pop C X4 9 rfl d24_8 rfl ?_
  exact go_ret0 C X4 d24_9 ⟨rfl, rfl⟩ (by decide) (by decide)
theorem ef_own_lc_74 (m : MethodId) (sb : Addr)  : entryFrame m #[(.ref sb), (.int (0 : Int32))] 2 = mkF m 0 #[rv sb, iv (0 : Int32)] [] := by
  first | (simp [entryFrame, mkF, argsToLocals, Value.category]; done) | rfl
set_option maxRecDepth 65536 in
set_option maxHeartbeats 40000000 in
theorem own_lc_74 (l : Launch) (Z : State) (a0 : Array Value) (hw : ∀ d ∈ tables_1, d.before a0 Z = true) (sb : Addr) (cc : Int32) (cs : Int32) (fv : Value) (h : Heap) (n0 : Nat) (hn0 : Old Z n0 h) (hc : ((97 ≤ cc.toInt ∧ cc.toInt ≤ 122) ∨ (65 ≤ cc.toInt ∧ cc.toInt ≤ 90))) (AS : La Z h sb .byte [(.int cc)]) (hcs : ¬ cs = 0) (S1 : Sta Z Z.heap "java/lang/String" "COMPACT_STRINGS" "Z" (.int cs)) (hfv : fv.isRef = true) (S2 : Sta Z Z.heap "jdk/internal/util/Preconditions" "SIOOBE_FORMATTER" "Ljava/util/function/BiFunction;" fv) :
    Con l Z (⟨"java/lang/StringLatin1", "charAt", "([BI)C"⟩ : MethodName) jdk_43_method_2_code 2 (some .char) ({ frames := 2, cells := 0, slots := 0, locals := 27 } : Room) #[(.ref sb), (.int (0 : Int32))] h n0 (fun v h' => v = some (.int cc) ∧ h = h') := by
  refine con_of hw (plainFor_of_name pn_java_lang_StringLatin1) hn0 ?_
  intro p e s m below meth c T0 C X0
  refine Go.cast (congrArg T0.setTop (ef_own_lc_74 m sb)) ?_
  refine go_iloadN C X0 1 rfl d23_0 rfl ?_
  refine go_aloadN C X0 2 rfl d23_1 rfl rfl ?_
  refine go_alen C X0 AS (z := (1 : Int32)) rfl (pc' := 3) rfl d23_2 ?_
  refine go_callS C X0 (C.w 124 rfl) (C.w 125 rfl) (C.w 74 rfl) (C.w 126 rfl) (own_sc_75 l Z a0 C.ws cs fv h n0 X0.old hcs S1 hfv S2) (argsL := [(.int (0 : Int32)), (.int (1 : Int32))]) (rest := []) (lenOf pd_11 rfl) rfl (by decide) (by decide) (Nat.le_of_ble_eq_true rfl) (by decide) (by decide) rfl rfl (pc' := 6) rfl d23_3 ?_
  rintro T1 _ _ ⟨rfl, rfl⟩ X2
  show Go p e below _ (T1.setTop (mkF m 6 #[rv sb, iv (0 : Int32)] []))
  refine go_aloadN C X2 7 rfl d23_6 rfl rfl ?_
  refine go_iloadN C X2 8 rfl d23_7 rfl ?_
  refine go_baloadBytes C X2 AS (by decide) (v := (.int cc)) rfl (pc' := 9) rfl d23_8 ?_
  refine go_sipush C X2 12 rfl d23_9 (z := 255) rfl ?_
  refine go_iand C X2 13 rfl d23_12 ?_
  refine go_i2c C X2 14 rfl d23_13 ?_
  rw [own_ca (by omega) (by omega)]
  exact go_retN C X2 (by simp) (z' := cc) (own_nc (by omega) (by omega)) d23_14 ⟨rfl, rfl⟩ (by decide) (by decide)
theorem ef_own_s21_72 (m : MethodId) (sa : Addr)  : entryFrame m #[(.ref sa), (.int (0 : Int32))] 2 = mkF m 0 #[rv sa, iv (0 : Int32)] [] := by
  first | (simp [entryFrame, mkF, argsToLocals, Value.category]; done) | rfl
set_option maxRecDepth 65536 in
set_option maxHeartbeats 40000000 in
theorem own_s21_72 (l : Launch) (Z : State) (a0 : Array Value) (hw : ∀ d ∈ tables_1, d.before a0 Z = true) (sa : Addr) (cc : Int32) (sb : Addr) (cs : Int32) (fv : Value) (h : Heap) (n0 : Nat) (hn0 : Old Z n0 h) (hc : ((97 ≤ cc.toInt ∧ cc.toInt ≤ 122) ∨ (65 ≤ cc.toInt ∧ cc.toInt ≤ 90))) (ES : Exa Z h sa "java/lang/String") (G1 : Fld Z h sa "java/lang/String" "coder" "B" (.int 0)) (G2 : Fld Z h sa "java/lang/String" "value" "[B" (.ref sb)) (AS : La Z h sb .byte [(.int cc)]) (hcs : ¬ cs = 0) (S1 : Sta Z Z.heap "java/lang/String" "COMPACT_STRINGS" "Z" (.int cs)) (hfv : fv.isRef = true) (S2 : Sta Z Z.heap "jdk/internal/util/Preconditions" "SIOOBE_FORMATTER" "Ljava/util/function/BiFunction;" fv) :
    Con l Z (⟨"java/lang/String", "charAt", "(I)C"⟩ : MethodName) jdk_42_method_56_code 2 (some .char) ({ frames := 3, cells := 0, slots := 0, locals := 40 } : Room) #[(.ref sa), (.int (0 : Int32))] h n0 (fun v h' => v = some (.int cc) ∧ h = h') := by
  refine con_of hw (plainFor_of_name pn_java_lang_String) hn0 ?_
  intro p e s m below meth c T0 C X0
  refine Go.cast (congrArg T0.setTop (ef_own_s21_72 m sa)) ?_
  refine go_aloadN C X0 1 rfl d21_0 rfl rfl ?_
  refine go_virtual C X0 ES (C.w 116 rfl) (C.w 117 rfl) (notFace_of_selects (args := #[]) (mvT C.hZ (C.w 119 rfl))) (C.w 119 rfl) (C.w 118 rfl) (C.w 74 rfl) (C.w 120 rfl) (own_s22_73 l Z a0 C.ws sa cc sb cs fv h n0 X0.old hc ES G1 G2 AS hcs S1 hfv S2) (argsL := []) (rest := []) (lenOf pd_9 rfl) rfl (by decide) (by decide) (Nat.le_of_ble_eq_true rfl) (by decide) (by decide) rfl rfl (pc' := 4) rfl d21_1 ?_
  rintro T1 _ _ ⟨rfl, rfl⟩ X2
  show Go p e below _ (T1.setTop (mkF m 4 #[rv sa, iv (0 : Int32)] [(.int (1 : Int32))]))
  refine go_if_eq C X2 d21_4 (pc' := 7) (pc2 := 16) rfl (by decide) (by decide) (fun (c4 : (1 : Int32) = (0 : Int32)) => False.elim (by first | omega | exact absurd c4 (by decide))) (fun (c4 : ¬ (1 : Int32) = (0 : Int32)) => ?_)
  refine go_aloadN C X2 8 rfl d21_7 rfl rfl ?_
  refine go_getF C X2 (C.w 92 rfl) Via.refl G2 (pc' := 11) rfl d21_8 (fun T4 X5 => ?_)
  refine go_iloadN C X5 12 rfl d21_11 rfl ?_
  refine go_callS C X5 (C.w 121 rfl) (C.w 122 rfl) (C.w 79 rfl) (C.w 123 rfl) (own_lc_74 l Z a0 C.ws sb cc cs fv h n0 X5.old hc AS hcs S1 hfv S2) (argsL := [(.ref sb), (.int (0 : Int32))]) (rest := []) (lenOf pd_12 rfl) rfl (by decide) (by decide) (Nat.le_of_ble_eq_true rfl) (by decide) (by decide) rfl rfl (pc' := 15) rfl d21_12 ?_
  rintro T6 _ _ ⟨rfl, rfl⟩ X7
  show Go p e below _ (T6.setTop (mkF m 15 #[rv sa, iv (0 : Int32)] [(.int cc)]))
  exact go_retN C X7 (by simp) (z' := cc) (own_nc (by omega) (by omega)) d21_15 ⟨rfl, rfl⟩ (by decide) (by decide)
theorem d11_18 : decode prog_44_method_15_code 18 = .ok (.iload_n 0, 1) := by decide +kernel
theorem d11_19 : decode prog_44_method_15_code 19 = .ok (.bipush 90, 2) := by decide +kernel
theorem d11_21 : decode prog_44_method_15_code 21 = .ok (.if_icmp .gt 7, 3) := by decide +kernel
theorem ef_own_p11_78 (m : MethodId) (cc : Int32)  : entryFrame m #[(.int cc)] 1 = mkF m 0 #[iv cc] [] := by
  first | (simp [entryFrame, mkF, argsToLocals, Value.category]; done) | rfl
set_option maxRecDepth 65536 in
set_option maxHeartbeats 40000000 in
theorem own_p11_78 (l : Launch) (Z : State) (a0 : Array Value) (hw : ∀ d ∈ tables_1, d.before a0 Z = true) (cc : Int32)  (h : Heap) (n0 : Nat) (hn0 : Old Z n0 h) (hc : ((97 ≤ cc.toInt ∧ cc.toInt ≤ 122) ∨ (65 ≤ cc.toInt ∧ cc.toInt ≤ 90))) :
    Con l Z (⟨"com/example/plantilla/plantilla/UrlValue", "isAsciiLetter", "(C)Z"⟩ : MethodName) prog_44_method_15_code 1 (some .boolean) ({ frames := 0, cells := 0, slots := 0, locals := 0 } : Room) #[(.int cc)] h n0 (fun v h' => v = some (.int (1 : Int32)) ∧ h = h') := by
  refine con_of hw (plainFor_of_name pn_com_example_plantilla_plantilla_UrlValue) hn0 ?_
  intro p e s m below meth c T0 C X0
  refine Go.cast (congrArg T0.setTop (ef_own_p11_78 m cc)) ?_
  refine go_iloadN C X0 1 rfl d11_0 rfl ?_
  refine go_bipush C X0 3 rfl d11_1 (z := 97) rfl ?_
  refine go_icmp_lt C X0 d11_3 (pc' := 6) (pc2 := 12) rfl (by decide) (by decide) (fun (c3 : cc.toInt < 97) => ?_) (fun (c3 : 97 ≤ cc.toInt) => ?_)
  · refine go_iloadN C X0 13 rfl d11_12 rfl ?_
    refine go_bipush C X0 15 rfl d11_13 (z := 65) rfl ?_
    refine go_icmp_lt C X0 d11_15 (pc' := 18) (pc2 := 28) rfl (by decide) (by decide) (fun (c15 : cc.toInt < 65) => False.elim (by omega)) (fun (c15 : 65 ≤ cc.toInt) => ?_)
    refine go_iloadN C X0 19 rfl d11_18 rfl ?_
    refine go_bipush C X0 21 rfl d11_19 (z := 90) rfl ?_
    refine go_icmp_gt C X0 d11_21 (pc' := 24) (pc2 := 28) rfl (by decide) (by decide) (fun (c21 : 90 < cc.toInt) => False.elim (by omega)) (fun (c21 : cc.toInt ≤ 90) => ?_)
    refine go_iconst C X0 25 rfl d11_24 (z := 1) rfl ?_
    refine go_goto C X0 d11_25 (pc' := 29) (by decide) (by decide) ?_
    exact go_retN C X0 (by simp) (z' := 1) rfl d11_29 ⟨rfl, rfl⟩ (by decide) (by decide)
  · refine go_iloadN C X0 7 rfl d11_6 rfl ?_
    refine go_bipush C X0 9 rfl d11_7 (z := 122) rfl ?_
    refine go_icmp_le C X0 d11_9 (pc' := 12) (pc2 := 24) rfl (by decide) (by decide) (fun (c9 : cc.toInt ≤ 122) => ?_) (fun (c9 : 122 < cc.toInt) => False.elim (by omega))
    refine go_iconst C X0 25 rfl d11_24 (z := 1) rfl ?_
    refine go_goto C X0 d11_25 (pc' := 29) (by decide) (by decide) ?_
    exact go_retN C X0 (by simp) (z' := 1) rfl d11_29 ⟨rfl, rfl⟩ (by decide) (by decide)
theorem d13_28 : decode prog_35_method_5_code 28 = .ok (.iload_n 0, 1) := by decide +kernel
theorem d13_29 : decode prog_35_method_5_code 29 = .ok (.bipush 90, 2) := by decide +kernel
theorem d13_31 : decode prog_35_method_5_code 31 = .ok (.if_icmp .gt 13, 3) := by decide +kernel
theorem d13_34 : decode prog_35_method_5_code 34 = .ok (.iload_n 0, 1) := by decide +kernel
theorem d13_35 : decode prog_35_method_5_code 35 = .ok (.bipush 65, 2) := by decide +kernel
theorem d13_37 : decode prog_35_method_5_code 37 = .ok (.isub, 1) := by decide +kernel
theorem d13_38 : decode prog_35_method_5_code 38 = .ok (.iconst 1, 1) := by decide +kernel
theorem d13_39 : decode prog_35_method_5_code 39 = .ok (.iadd, 1) := by decide +kernel
theorem d13_40 : decode prog_35_method_5_code 40 = .ok (.istore_n 1, 1) := by decide +kernel
theorem d13_41 : decode prog_35_method_5_code 41 = .ok (.goto 93, 3) := by decide +kernel
theorem ef_own_p13_80 (m : MethodId) (cc : Int32)  : entryFrame m #[(.int cc)] 2 = mkF m 0 #[iv cc, un] [] := by
  first | (simp [entryFrame, mkF, argsToLocals, Value.category]; done) | rfl
set_option maxRecDepth 65536 in
set_option maxHeartbeats 40000000 in
theorem own_p13_80 (l : Launch) (Z : State) (a0 : Array Value) (hw : ∀ d ∈ tables_1, d.before a0 Z = true) (cc : Int32)  (h : Heap) (n0 : Nat) (hn0 : Old Z n0 h) (hc : ((97 ≤ cc.toInt ∧ cc.toInt ≤ 122) ∨ (65 ≤ cc.toInt ∧ cc.toInt ≤ 90))) :
    Con l Z (⟨"com/example/plantilla/plantilla/PackedName", "codeOf", "(C)I"⟩ : MethodName) prog_35_method_5_code 2 (some .int) ({ frames := 0, cells := 0, slots := 0, locals := 0 } : Room) #[(.int cc)] h n0 (fun v h' => v = some (.int (own_code cc)) ∧ h = h') := by
  refine con_of hw (plainFor_of_name pn_com_example_plantilla_plantilla_PackedName) hn0 ?_
  intro p e s m below meth c T0 C X0
  refine Go.cast (congrArg T0.setTop (ef_own_p13_80 m cc)) ?_
  refine go_iloadN C X0 1 rfl d13_0 rfl ?_
  refine go_bipush C X0 3 rfl d13_1 (z := 97) rfl ?_
  refine go_icmp_lt C X0 d13_3 (pc' := 6) (pc2 := 22) rfl (by decide) (by decide) (fun (c3 : cc.toInt < 97) => ?_) (fun (c3 : 97 ≤ cc.toInt) => ?_)
  · refine go_iloadN C X0 23 rfl d13_22 rfl ?_
    refine go_bipush C X0 25 rfl d13_23 (z := 65) rfl ?_
    refine go_icmp_lt C X0 d13_25 (pc' := 28) (pc2 := 44) rfl (by decide) (by decide) (fun (c25 : cc.toInt < 65) => False.elim (by omega)) (fun (c25 : 65 ≤ cc.toInt) => ?_)
    refine go_iloadN C X0 29 rfl d13_28 rfl ?_
    refine go_bipush C X0 31 rfl d13_29 (z := 90) rfl ?_
    refine go_icmp_gt C X0 d13_31 (pc' := 34) (pc2 := 44) rfl (by decide) (by decide) (fun (c31 : 90 < cc.toInt) => False.elim (by omega)) (fun (c31 : cc.toInt ≤ 90) => ?_)
    refine go_iloadN C X0 35 rfl d13_34 rfl ?_
    refine go_bipush C X0 37 rfl d13_35 (z := 65) rfl ?_
    refine go_isub C X0 38 rfl d13_37 ?_
    refine go_iconst C X0 39 rfl d13_38 (z := 1) rfl ?_
    refine go_iadd C X0 40 rfl d13_39 ?_
    refine go_istoreN C X0 41 rfl d13_40 #[iv cc, iv ((cc - (65 : Int32)) + (1 : Int32))] rfl ?_
    refine go_goto C X0 d13_41 (pc' := 134) (by decide) (by decide) ?_
    refine go_iloadN C X0 135 rfl d13_134 rfl ?_
    exact go_retI C X0 d13_135 ⟨by unfold own_code; rw [if_neg (by omega)], rfl⟩ (by decide) (by decide)
  · refine go_iloadN C X0 7 rfl d13_6 rfl ?_
    refine go_bipush C X0 9 rfl d13_7 (z := 122) rfl ?_
    refine go_icmp_gt C X0 d13_9 (pc' := 12) (pc2 := 22) rfl (by decide) (by decide) (fun (c9 : 122 < cc.toInt) => False.elim (by omega)) (fun (c9 : cc.toInt ≤ 122) => ?_)
    refine go_iloadN C X0 13 rfl d13_12 rfl ?_
    refine go_bipush C X0 15 rfl d13_13 (z := 97) rfl ?_
    refine go_isub C X0 16 rfl d13_15 ?_
    refine go_iconst C X0 17 rfl d13_16 (z := 1) rfl ?_
    refine go_iadd C X0 18 rfl d13_17 ?_
    refine go_istoreN C X0 19 rfl d13_18 #[iv cc, iv ((cc - (97 : Int32)) + (1 : Int32))] rfl ?_
    refine go_goto C X0 d13_19 (pc' := 134) (by decide) (by decide) ?_
    refine go_iloadN C X0 135 rfl d13_134 rfl ?_
    exact go_retI C X0 d13_135 ⟨by unfold own_code; rw [if_pos (by omega)], rfl⟩ (by decide) (by decide)
theorem ef_own_p12_79 (m : MethodId) (cc : Int32)  : entryFrame m #[(.long (0 : Int64)), (.int cc)] 6 = mkF m 0 #[jv (0 : Int64), sc, iv cc, un, un, un] [] := by
  first | (simp [entryFrame, mkF, argsToLocals, Value.category]; done) | rfl
set_option maxRecDepth 65536 in
set_option maxHeartbeats 40000000 in
theorem own_p12_79 (l : Launch) (Z : State) (a0 : Array Value) (hw : ∀ d ∈ tables_1, d.before a0 Z = true) (cc : Int32)  (h : Heap) (n0 : Nat) (hn0 : Old Z n0 h) (hc : ((97 ≤ cc.toInt ∧ cc.toInt ≤ 122) ∨ (65 ≤ cc.toInt ∧ cc.toInt ≤ 90))) :
    Con l Z (⟨"com/example/plantilla/plantilla/PackedName", "appended", "(JC)J"⟩ : MethodName) prog_35_method_2_code 6 (some .long) ({ frames := 1, cells := 0, slots := 0, locals := 13 } : Room) #[(.long (0 : Int64)), (.int cc)] h n0 (fun v h' => v = some (.long (own_cd cc)) ∧ h = h') := by
  refine con_of hw (plainFor_of_name pn_com_example_plantilla_plantilla_PackedName) hn0 ?_
  intro p e s m below meth c T0 C X0
  refine Go.cast (congrArg T0.setTop (ef_own_p12_79 m cc)) ?_
  refine go_iloadN C X0 1 rfl d12_0 rfl ?_
  refine go_callS C X0 (C.w 67 rfl) (C.w 68 rfl) (C.w 65 rfl) (C.w 69 rfl) (own_p13_80 l Z a0 C.ws cc h n0 X0.old hc) (argsL := [(.int cc)]) (rest := []) (lenOf pd_4 rfl) rfl (by decide) (by decide) (Nat.le_of_ble_eq_true rfl) (by decide) (by decide) rfl rfl (pc' := 4) rfl d12_1 ?_
  rintro T1 _ _ ⟨rfl, rfl⟩ X2
  show Go p e below _ (T1.setTop (mkF m 4 #[jv (0 : Int64), sc, iv cc, un, un, un] [(.int (own_code cc))]))
  refine go_i2l C X2 5 rfl d12_4 ?_
  refine go_lstoreN C X2 6 rfl d12_5 #[jv (0 : Int64), sc, iv cc, jv ((own_code cc).toInt64), sc, un] rfl ?_
  refine go_lloadN C X2 7 rfl d12_6 rfl ?_
  refine go_ldc2Long C X2 (C.w 70 rfl) (pc' := 10) rfl d12_7 ?_
  refine go_lif_lt C X2 (pc1 := 11) rfl d12_10 d12_11 (pc' := 14) (pc2 := 18) rfl (by decide) (by decide) (fun (c11 : 0 < 18014398509481984) => ?_) (fun (c11 : 18014398509481984 ≤ 0) => False.elim (by first | omega | exact absurd c11 (by decide)))
  refine go_iconst C X2 19 rfl d12_18 (z := 0) rfl ?_
  refine go_istore C X2 21 rfl d12_19 #[jv (0 : Int64), sc, iv cc, jv ((own_code cc).toInt64), sc, iv (0 : Int32)] rfl ?_
  refine go_lloadN C X2 22 rfl d12_21 rfl ?_
  refine go_ldc2Long C X2 (C.w 71 rfl) (pc' := 25) rfl d12_22 ?_
  refine go_lif_eq C X2 (pc1 := 26) rfl d12_25 d12_26 (pc' := 29) (pc2 := 40) rfl (by decide) (by decide) (fun (c26 : (0 : Int64) = (-1 : Int64)) => False.elim (by first | omega | exact absurd c26 (by decide))) (fun (c26 : ¬ (0 : Int64) = (-1 : Int64)) => ?_)
  refine go_lloadN C X2 30 rfl d12_29 rfl ?_
  refine go_lconst C X2 31 rfl d12_30 (z := 0) rfl ?_
  refine go_lif_eq C X2 (pc1 := 32) rfl d12_31 d12_32 (pc' := 35) (pc2 := 40) rfl (by decide) (by decide) (fun (c32 : ((own_code cc).toInt64) = (0 : Int64)) => False.elim (own_cd_ne hc c32)) (fun (c32 : ¬ ((own_code cc).toInt64) = (0 : Int64)) => ?_)
  refine go_iload C X2 37 rfl d12_35 rfl ?_
  refine go_if_eq C X2 d12_37 (pc' := 40) (pc2 := 46) rfl (by decide) (by decide) (fun (c37 : (0 : Int32) = (0 : Int32)) => ?_) (fun (c37 : ¬ (0 : Int32) = (0 : Int32)) => False.elim (by first | omega | exact absurd c37 (by decide)))
  refine go_lloadN C X2 47 rfl d12_46 rfl ?_
  refine go_bipush C X2 49 rfl d12_47 (z := 6) rfl ?_
  refine go_lshl C X2 50 rfl d12_49 ?_
  show Go p e below _ (T1.setTop (mkF m 50 #[jv (0 : Int64), sc, iv cc, jv ((own_code cc).toInt64), sc, iv (0 : Int32)] [(.long (0 : Int64))]))
  refine go_lloadN C X2 51 rfl d12_50 rfl ?_
  refine go_lor C X2 52 rfl d12_51 ?_
  exact go_retJ C X2 d12_52 ⟨congrArg (fun z => some (Value.long z)) (own_zor _), rfl⟩ (by decide) (by decide)
theorem ef_own_u7_77 (m : MethodId) (a : Addr) (cc : Int32)  : entryFrame m #[(.ref a), (.int cc), (.int (0 : Int32))] 5 = mkF m 0 #[rv a, iv cc, iv (0 : Int32), un, un] [] := by
  first | (simp [entryFrame, mkF, argsToLocals, Value.category]; done) | rfl
set_option maxRecDepth 65536 in
set_option maxHeartbeats 40000000 in
theorem own_u7_77 (l : Launch) (Z : State) (a0 : Array Value) (hw : ∀ d ∈ tables_1, d.before a0 Z = true) (a : Addr) (cc : Int32)  (h : Heap) (n0 : Nat) (hn0 : Old Z n0 h) (hc : ((97 ≤ cc.toInt ∧ cc.toInt ≤ 122) ∨ (65 ≤ cc.toInt ∧ cc.toInt ≤ 90))) (E0 : Exa Z h a "com/example/plantilla/plantilla/UrlValue") (FF0 : Fld Z h a "com/example/plantilla/plantilla/UrlValue" "start" "J" (.long (0 : Int64))) (FF1 : Fld Z h a "com/example/plantilla/plantilla/UrlValue" "begun" "Z" (.int (0 : Int32))) (FF2 : Fld Z h a "com/example/plantilla/plantilla/UrlValue" "schemeLike" "Z" (.int (1 : Int32))) (FF3 : Fld Z h a "com/example/plantilla/plantilla/UrlValue" "delimited" "Z" (.int (0 : Int32))) (FF4 : Fld Z h a "com/example/plantilla/plantilla/UrlValue" "query" "Z" (.int (0 : Int32))) (FF5 : Fld Z h a "com/example/plantilla/plantilla/UrlValue" "reference" "Z" (.int (0 : Int32))) (FF6 : Fld Z h a "com/example/plantilla/plantilla/UrlValue" "holding" "Z" (.int (0 : Int32))) (FF7 : Fld Z h a "com/example/plantilla/plantilla/UrlValue" "referenceOpen" "Z" (.int (0 : Int32))) (ga : n0 ≤ a)  :
    Con l Z (⟨"com/example/plantilla/plantilla/UrlValue", "take", "(CZ)Z"⟩ : MethodName) prog_44_method_13_code 5 (some .boolean) ({ frames := 2, cells := 0, slots := 0, locals := 31 } : Room) #[(.ref a), (.int cc), (.int (0 : Int32))] h n0 (fun v h' => v = some (.int (1 : Int32)) ∧ Keep h h' [a] ∧ Exa Z h' a "com/example/plantilla/plantilla/UrlValue" ∧ Fld Z h' a "com/example/plantilla/plantilla/UrlValue" "start" "J" (.long (own_cd cc)) ∧ Fld Z h' a "com/example/plantilla/plantilla/UrlValue" "begun" "Z" (.int (1 : Int32)) ∧ Fld Z h' a "com/example/plantilla/plantilla/UrlValue" "schemeLike" "Z" (.int (1 : Int32)) ∧ Fld Z h' a "com/example/plantilla/plantilla/UrlValue" "delimited" "Z" (.int (0 : Int32)) ∧ Fld Z h' a "com/example/plantilla/plantilla/UrlValue" "query" "Z" (.int (0 : Int32)) ∧ Fld Z h' a "com/example/plantilla/plantilla/UrlValue" "reference" "Z" (.int (0 : Int32)) ∧ Fld Z h' a "com/example/plantilla/plantilla/UrlValue" "holding" "Z" (.int (0 : Int32)) ∧ Fld Z h' a "com/example/plantilla/plantilla/UrlValue" "referenceOpen" "Z" (.int (0 : Int32))) := by
  refine con_of hw (plainFor_of_name pn_com_example_plantilla_plantilla_UrlValue) hn0 ?_
  intro p e s m below meth c T0 C X0
  refine Go.cast (congrArg T0.setTop (ef_own_u7_77 m a cc)) ?_
  refine go_aloadN C X0 1 rfl d7_0 rfl rfl ?_
  refine go_getF C X0 (C.w 36 rfl) Via.refl FF7 (pc' := 4) rfl d7_1 (fun T1 X2 => ?_)
  refine go_if_eq C X2 d7_4 (pc' := 7) (pc2 := 18) rfl (by decide) (by decide) (fun (c4 : (0 : Int32) = (0 : Int32)) => ?_) (fun (c4 : ¬ (0 : Int32) = (0 : Int32)) => False.elim (by first | omega | exact absurd c4 (by decide)))
  refine go_iconst C X2 19 rfl d7_18 (z := 0) rfl ?_
  refine go_istoreN C X2 20 rfl d7_19 #[rv a, iv cc, iv (0 : Int32), iv (0 : Int32), un] rfl ?_
  refine go_aloadN C X2 21 rfl d7_20 rfl rfl ?_
  refine go_iloadN C X2 22 rfl d7_21 rfl ?_
  refine go_if_eq C X2 d7_22 (pc' := 25) (pc2 := 62) rfl (by decide) (by decide) (fun (c22 : (0 : Int32) = (0 : Int32)) => ?_) (fun (c22 : ¬ (0 : Int32) = (0 : Int32)) => False.elim (by first | omega | exact absurd c22 (by decide)))
  refine go_iconst C X2 63 rfl d7_62 (z := 0) rfl ?_
  refine go_putFN C X2 (C.w 36 rfl) Via.refl FF7 E0 (Or.inl (C.w 37 rfl)) (C.w 9 rfl) ga (ty := .boolean) (by decide) (v' := (.int (0 : Int32))) rfl rfl (pc' := 66) rfl d7_63 (fun T3 h5 W6 X4 => ?_)
  have F7 := FF7.same W6
  have E8 := E0.wr W6
  have F9 := FF0.other W6 (Or.inr (slot_ne (Or.inl (C.w 23 rfl)) (Or.inl (C.w 37 rfl)) (by decide) (t := .long) (t' := .boolean) (by decide) (by decide)))
  have F10 := FF1.other W6 (Or.inr (slot_ne (Or.inl (C.w 25 rfl)) (Or.inl (C.w 37 rfl)) (by decide) (t := .boolean) (t' := .boolean) (by decide) (by decide)))
  have F11 := FF2.other W6 (Or.inr (slot_ne (Or.inl (C.w 27 rfl)) (Or.inl (C.w 37 rfl)) (by decide) (t := .boolean) (t' := .boolean) (by decide) (by decide)))
  have F12 := FF3.other W6 (Or.inr (slot_ne (Or.inl (C.w 29 rfl)) (Or.inl (C.w 37 rfl)) (by decide) (t := .boolean) (t' := .boolean) (by decide) (by decide)))
  have F13 := FF4.other W6 (Or.inr (slot_ne (Or.inl (C.w 31 rfl)) (Or.inl (C.w 37 rfl)) (by decide) (t := .boolean) (t' := .boolean) (by decide) (by decide)))
  have F14 := FF5.other W6 (Or.inr (slot_ne (Or.inl (C.w 33 rfl)) (Or.inl (C.w 37 rfl)) (by decide) (t := .boolean) (t' := .boolean) (by decide) (by decide)))
  have F15 := FF6.other W6 (Or.inr (slot_ne (Or.inl (C.w 35 rfl)) (Or.inl (C.w 37 rfl)) (by decide) (t := .boolean) (t' := .boolean) (by decide) (by decide)))
  have K16 := (Keep.refl h [a]).wr W6 (Or.inl (List.mem_of_getElem? (i := 0) rfl))
  refine go_iloadN C X4 67 rfl d7_66 rfl ?_
  refine go_bipush C X4 69 rfl d7_67 (z := 9) rfl ?_
  refine go_icmp_eq C X4 d7_69 (pc' := 72) (pc2 := 97) rfl (by decide) (by decide) (fun (c69 : cc = (9 : Int32)) => False.elim (own_nl hc (by decide) c69)) (fun (c69 : ¬ cc = (9 : Int32)) => ?_)
  refine go_iloadN C X4 73 rfl d7_72 rfl ?_
  refine go_bipush C X4 75 rfl d7_73 (z := 10) rfl ?_
  refine go_icmp_eq C X4 d7_75 (pc' := 78) (pc2 := 97) rfl (by decide) (by decide) (fun (c75 : cc = (10 : Int32)) => False.elim (own_nl hc (by decide) c75)) (fun (c75 : ¬ cc = (10 : Int32)) => ?_)
  refine go_iloadN C X4 79 rfl d7_78 rfl ?_
  refine go_bipush C X4 81 rfl d7_79 (z := 13) rfl ?_
  refine go_icmp_eq C X4 d7_81 (pc' := 84) (pc2 := 97) rfl (by decide) (by decide) (fun (c81 : cc = (13 : Int32)) => False.elim (own_nl hc (by decide) c81)) (fun (c81 : ¬ cc = (13 : Int32)) => ?_)
  refine go_aloadN C X4 85 rfl d7_84 rfl rfl ?_
  refine go_getF C X4 (C.w 24 rfl) Via.refl F10 (pc' := 88) rfl d7_85 (fun T17 X18 => ?_)
  refine go_if_ne C X18 d7_88 (pc' := 91) (pc2 := 99) rfl (by decide) (by decide) (fun (c88 : ¬ (0 : Int32) = (0 : Int32)) => False.elim (by first | omega | exact absurd c88 (by decide))) (fun (c88 : (0 : Int32) = (0 : Int32)) => ?_)
  refine go_iloadN C X18 92 rfl d7_91 rfl ?_
  refine go_bipush C X18 94 rfl d7_92 (z := 32) rfl ?_
  refine go_icmp_gt C X18 d7_94 (pc' := 97) (pc2 := 99) rfl (by decide) (by decide) (fun (c94 : 32 < cc.toInt) => ?_) (fun (c94 : cc.toInt ≤ 32) => False.elim (by omega))
  refine go_aloadN C X18 100 rfl d7_99 rfl rfl ?_
  refine go_iconst C X18 101 rfl d7_100 (z := 1) rfl ?_
  refine go_putFN C X18 (C.w 24 rfl) Via.refl F10 E8 (Or.inl (C.w 25 rfl)) (C.w 9 rfl) ga (ty := .boolean) (by decide) (v' := (.int (1 : Int32))) rfl rfl (pc' := 104) rfl d7_101 (fun T19 h21 W22 X20 => ?_)
  have F23 := F10.same W22
  have E24 := E8.wr W22
  have F25 := F9.other W22 (Or.inr (slot_ne (Or.inl (C.w 23 rfl)) (Or.inl (C.w 25 rfl)) (by decide) (t := .long) (t' := .boolean) (by decide) (by decide)))
  have F26 := F11.other W22 (Or.inr (slot_ne (Or.inl (C.w 27 rfl)) (Or.inl (C.w 25 rfl)) (by decide) (t := .boolean) (t' := .boolean) (by decide) (by decide)))
  have F27 := F12.other W22 (Or.inr (slot_ne (Or.inl (C.w 29 rfl)) (Or.inl (C.w 25 rfl)) (by decide) (t := .boolean) (t' := .boolean) (by decide) (by decide)))
  have F28 := F13.other W22 (Or.inr (slot_ne (Or.inl (C.w 31 rfl)) (Or.inl (C.w 25 rfl)) (by decide) (t := .boolean) (t' := .boolean) (by decide) (by decide)))
  have F29 := F14.other W22 (Or.inr (slot_ne (Or.inl (C.w 33 rfl)) (Or.inl (C.w 25 rfl)) (by decide) (t := .boolean) (t' := .boolean) (by decide) (by decide)))
  have F30 := F15.other W22 (Or.inr (slot_ne (Or.inl (C.w 35 rfl)) (Or.inl (C.w 25 rfl)) (by decide) (t := .boolean) (t' := .boolean) (by decide) (by decide)))
  have F31 := F7.other W22 (Or.inr (slot_ne (Or.inl (C.w 37 rfl)) (Or.inl (C.w 25 rfl)) (by decide) (t := .boolean) (t' := .boolean) (by decide) (by decide)))
  have K32 := K16.wr W22 (Or.inl (List.mem_of_getElem? (i := 0) rfl))
  refine go_iconst C X20 105 rfl d7_104 (z := 0) rfl ?_
  refine go_istore C X20 107 rfl d7_105 #[rv a, iv cc, iv (0 : Int32), iv (0 : Int32), iv (0 : Int32)] rfl ?_
  refine go_iloadN C X20 108 rfl d7_107 rfl ?_
  refine go_bipush C X20 110 rfl d7_108 (z := 63) rfl ?_
  refine go_icmp_eq C X20 d7_110 (pc' := 113) (pc2 := 123) rfl (by decide) (by decide) (fun (c110 : cc = (63 : Int32)) => False.elim (own_nl hc (by decide) c110)) (fun (c110 : ¬ cc = (63 : Int32)) => ?_)
  refine go_iloadN C X20 114 rfl d7_113 rfl ?_
  refine go_bipush C X20 116 rfl d7_114 (z := 35) rfl ?_
  refine go_icmp_ne C X20 d7_116 (pc' := 119) (pc2 := 141) rfl (by decide) (by decide) (fun (c116 : ¬ cc = (35 : Int32)) => ?_) (fun (c116 : cc = (35 : Int32)) => False.elim (own_nl hc (by decide) c116))
  refine go_iloadN C X20 142 rfl d7_141 rfl ?_
  refine go_bipush C X20 144 rfl d7_142 (z := 58) rfl ?_
  refine go_icmp_eq C X20 d7_144 (pc' := 147) (pc2 := 153) rfl (by decide) (by decide) (fun (c144 : cc = (58 : Int32)) => False.elim (own_nl hc (by decide) c144)) (fun (c144 : ¬ cc = (58 : Int32)) => ?_)
  refine go_iloadN C X20 148 rfl d7_147 rfl ?_
  refine go_bipush C X20 150 rfl d7_148 (z := 47) rfl ?_
  refine go_icmp_ne C X20 d7_150 (pc' := 153) (pc2 := 161) rfl (by decide) (by decide) (fun (c150 : ¬ cc = (47 : Int32)) => ?_) (fun (c150 : cc = (47 : Int32)) => False.elim (own_nl hc (by decide) c150))
  refine go_aloadN C X20 162 rfl d7_161 rfl rfl ?_
  refine go_getF C X20 (C.w 28 rfl) Via.refl F27 (pc' := 165) rfl d7_162 (fun T33 X34 => ?_)
  refine go_if_ne C X34 d7_165 (pc' := 168) (pc2 := 236) rfl (by decide) (by decide) (fun (c165 : ¬ (0 : Int32) = (0 : Int32)) => False.elim (by first | omega | exact absurd c165 (by decide))) (fun (c165 : (0 : Int32) = (0 : Int32)) => ?_)
  refine go_aloadN C X34 169 rfl d7_168 rfl rfl ?_
  refine go_dup C X34 170 rfl d7_169 rfl ?_
  refine go_getF C X34 (C.w 32 rfl) Via.refl F29 (pc' := 173) rfl d7_170 (fun T35 X36 => ?_)
  refine go_iloadN C X36 174 rfl d7_173 rfl ?_
  refine go_if_eq C X36 d7_174 (pc' := 177) (pc2 := 187) rfl (by decide) (by decide) (fun (c174 : (0 : Int32) = (0 : Int32)) => ?_) (fun (c174 : ¬ (0 : Int32) = (0 : Int32)) => False.elim (by first | omega | exact absurd c174 (by decide)))
  refine go_iconst C X36 188 rfl d7_187 (z := 0) rfl ?_
  refine go_iorL C X36 189 rfl d7_188 (z := (0)) rfl ?_
  refine go_putFN C X36 (C.w 32 rfl) Via.refl F29 E24 (Or.inl (C.w 33 rfl)) (C.w 9 rfl) ga (ty := .boolean) (by decide) (v' := (.int (0 : Int32))) rfl rfl (pc' := 192) rfl d7_189 (fun T37 h39 W40 X38 => ?_)
  have F41 := F29.same W40
  have E42 := E24.wr W40
  have F43 := F25.other W40 (Or.inr (slot_ne (Or.inl (C.w 23 rfl)) (Or.inl (C.w 33 rfl)) (by decide) (t := .long) (t' := .boolean) (by decide) (by decide)))
  have F44 := F23.other W40 (Or.inr (slot_ne (Or.inl (C.w 25 rfl)) (Or.inl (C.w 33 rfl)) (by decide) (t := .boolean) (t' := .boolean) (by decide) (by decide)))
  have F45 := F26.other W40 (Or.inr (slot_ne (Or.inl (C.w 27 rfl)) (Or.inl (C.w 33 rfl)) (by decide) (t := .boolean) (t' := .boolean) (by decide) (by decide)))
  have F46 := F27.other W40 (Or.inr (slot_ne (Or.inl (C.w 29 rfl)) (Or.inl (C.w 33 rfl)) (by decide) (t := .boolean) (t' := .boolean) (by decide) (by decide)))
  have F47 := F28.other W40 (Or.inr (slot_ne (Or.inl (C.w 31 rfl)) (Or.inl (C.w 33 rfl)) (by decide) (t := .boolean) (t' := .boolean) (by decide) (by decide)))
  have F48 := F30.other W40 (Or.inr (slot_ne (Or.inl (C.w 35 rfl)) (Or.inl (C.w 33 rfl)) (by decide) (t := .boolean) (t' := .boolean) (by decide) (by decide)))
  have F49 := F31.other W40 (Or.inr (slot_ne (Or.inl (C.w 37 rfl)) (Or.inl (C.w 33 rfl)) (by decide) (t := .boolean) (t' := .boolean) (by decide) (by decide)))
  have K50 := K32.wr W40 (Or.inl (List.mem_of_getElem? (i := 0) rfl))
  refine go_aloadN C X38 193 rfl d7_192 rfl rfl ?_
  refine go_dup C X38 194 rfl d7_193 rfl ?_
  refine go_getF C X38 (C.w 26 rfl) Via.refl F45 (pc' := 197) rfl d7_194 (fun T51 X52 => ?_)
  refine go_aloadN C X52 198 rfl d7_197 rfl rfl ?_
  refine go_getF C X52 (C.w 22 rfl) Via.refl F43 (pc' := 201) rfl d7_198 (fun T53 X54 => ?_)
  refine go_lconst C X54 202 rfl d7_201 (z := 0) rfl ?_
  refine go_lif_ne C X54 (pc1 := 203) rfl d7_202 d7_203 (pc' := 206) (pc2 := 213) rfl (by decide) (by decide) (fun (c203 : ¬ (0 : Int64) = (0 : Int64)) => False.elim (by first | omega | exact absurd c203 (by decide))) (fun (c203 : (0 : Int64) = (0 : Int64)) => ?_)
  refine go_iloadN C X54 207 rfl d7_206 rfl ?_
  refine go_callS C X54 (C.w 60 rfl) (C.w 61 rfl) (C.w 10 rfl) (C.w 62 rfl) (own_p11_78 l Z a0 C.ws cc h39 n0 X54.old hc) (argsL := [(.int cc)]) (rest := [(.int (1 : Int32)), (.ref a)]) (lenOf pd_0 rfl) rfl (by decide) (by decide) (Nat.le_of_ble_eq_true rfl) (by decide) (by decide) rfl rfl (pc' := 210) rfl d7_207 ?_
  rintro T55 _ _ ⟨rfl, rfl⟩ X56
  show Go p e below _ (T55.setTop (mkF m 210 #[rv a, iv cc, iv (0 : Int32), iv (0 : Int32), iv (0 : Int32)] [(.int (1 : Int32)), (.int (1 : Int32)), (.ref a)]))
  refine go_goto C X56 d7_210 (pc' := 217) (by decide) (by decide) ?_
  refine go_iandL C X56 218 rfl d7_217 (z := (1)) rfl ?_
  refine go_putFN C X56 (C.w 26 rfl) Via.refl F45 E42 (Or.inl (C.w 27 rfl)) (C.w 9 rfl) ga (ty := .boolean) (by decide) (v' := (.int (1 : Int32))) rfl rfl (pc' := 221) rfl d7_218 (fun T58 h60 W61 X59 => ?_)
  have F62 := F45.same W61
  have E63 := E42.wr W61
  have F64 := F43.other W61 (Or.inr (slot_ne (Or.inl (C.w 23 rfl)) (Or.inl (C.w 27 rfl)) (by decide) (t := .long) (t' := .boolean) (by decide) (by decide)))
  have F65 := F44.other W61 (Or.inr (slot_ne (Or.inl (C.w 25 rfl)) (Or.inl (C.w 27 rfl)) (by decide) (t := .boolean) (t' := .boolean) (by decide) (by decide)))
  have F66 := F46.other W61 (Or.inr (slot_ne (Or.inl (C.w 29 rfl)) (Or.inl (C.w 27 rfl)) (by decide) (t := .boolean) (t' := .boolean) (by decide) (by decide)))
  have F67 := F47.other W61 (Or.inr (slot_ne (Or.inl (C.w 31 rfl)) (Or.inl (C.w 27 rfl)) (by decide) (t := .boolean) (t' := .boolean) (by decide) (by decide)))
  have F68 := F41.other W61 (Or.inr (slot_ne (Or.inl (C.w 33 rfl)) (Or.inl (C.w 27 rfl)) (by decide) (t := .boolean) (t' := .boolean) (by decide) (by decide)))
  have F69 := F48.other W61 (Or.inr (slot_ne (Or.inl (C.w 35 rfl)) (Or.inl (C.w 27 rfl)) (by decide) (t := .boolean) (t' := .boolean) (by decide) (by decide)))
  have F70 := F49.other W61 (Or.inr (slot_ne (Or.inl (C.w 37 rfl)) (Or.inl (C.w 27 rfl)) (by decide) (t := .boolean) (t' := .boolean) (by decide) (by decide)))
  have K71 := K50.wr W61 (Or.inl (List.mem_of_getElem? (i := 0) rfl))
  refine go_aloadN C X59 222 rfl d7_221 rfl rfl ?_
  refine go_aloadN C X59 223 rfl d7_222 rfl rfl ?_
  refine go_getF C X59 (C.w 22 rfl) Via.refl F64 (pc' := 226) rfl d7_223 (fun T72 X73 => ?_)
  refine go_iloadN C X73 227 rfl d7_226 rfl ?_
  refine go_callS C X73 (C.w 63 rfl) (C.w 64 rfl) (C.w 65 rfl) (C.w 66 rfl) (own_p12_79 l Z a0 C.ws cc h60 n0 X73.old hc) (argsL := [(.long (0 : Int64)), (.int cc)]) (rest := [(.ref a)]) (lenOf pd_5 rfl) rfl (by decide) (by decide) (Nat.le_of_ble_eq_true rfl) (by decide) (by decide) rfl rfl (pc' := 230) rfl d7_227 ?_
  rintro T74 _ _ ⟨rfl, rfl⟩ X75
  show Go p e below _ (T74.setTop (mkF m 230 #[rv a, iv cc, iv (0 : Int32), iv (0 : Int32), iv (0 : Int32)] [(.long (own_cd cc)), (.ref a)]))
  refine go_putF C X75 (C.w 22 rfl) Via.refl F64 E63 (Or.inl (C.w 23 rfl)) (C.w 9 rfl) ga (ty := .long) (by decide) rfl rfl (pc' := 233) rfl d7_230 (fun T77 h79 W80 X78 => ?_)
  have F81 := F64.same W80
  have E82 := E63.wr W80
  have F83 := F65.other W80 (Or.inr (slot_ne (Or.inl (C.w 25 rfl)) (Or.inl (C.w 23 rfl)) (by decide) (t := .boolean) (t' := .long) (by decide) (by decide)))
  have F84 := F62.other W80 (Or.inr (slot_ne (Or.inl (C.w 27 rfl)) (Or.inl (C.w 23 rfl)) (by decide) (t := .boolean) (t' := .long) (by decide) (by decide)))
  have F85 := F66.other W80 (Or.inr (slot_ne (Or.inl (C.w 29 rfl)) (Or.inl (C.w 23 rfl)) (by decide) (t := .boolean) (t' := .long) (by decide) (by decide)))
  have F86 := F67.other W80 (Or.inr (slot_ne (Or.inl (C.w 31 rfl)) (Or.inl (C.w 23 rfl)) (by decide) (t := .boolean) (t' := .long) (by decide) (by decide)))
  have F87 := F68.other W80 (Or.inr (slot_ne (Or.inl (C.w 33 rfl)) (Or.inl (C.w 23 rfl)) (by decide) (t := .boolean) (t' := .long) (by decide) (by decide)))
  have F88 := F69.other W80 (Or.inr (slot_ne (Or.inl (C.w 35 rfl)) (Or.inl (C.w 23 rfl)) (by decide) (t := .boolean) (t' := .long) (by decide) (by decide)))
  have F89 := F70.other W80 (Or.inr (slot_ne (Or.inl (C.w 37 rfl)) (Or.inl (C.w 23 rfl)) (by decide) (t := .boolean) (t' := .long) (by decide) (by decide)))
  have K90 := K71.wr W80 (Or.inl (List.mem_of_getElem? (i := 0) rfl))
  refine go_iconst C X78 234 rfl d7_233 (z := 1) rfl ?_
  refine go_istore C X78 236 rfl d7_234 #[rv a, iv cc, iv (0 : Int32), iv (0 : Int32), iv (1 : Int32)] rfl ?_
  refine go_iload C X78 238 rfl d7_236 rfl ?_
  exact go_retN C X78 (by simp) (z' := 1) rfl d7_238 ⟨rfl, K90, E82, F81, F83, F84, F85, F86, F87, F88, F89⟩ (by decide) (by decide)
theorem ef_own_u18_69 (m : MethodId) (a : Addr) (sa : Addr)  : entryFrame m #[(.ref a), (.ref sa)] 6 = mkF m 0 #[rv a, rv sa, un, un, un, un] [] := by
  first | (simp [entryFrame, mkF, argsToLocals, Value.category]; done) | rfl
set_option maxRecDepth 65536 in
set_option maxHeartbeats 40000000 in
theorem own_u18_69 (l : Launch) (Z : State) (a0 : Array Value) (hw : ∀ d ∈ tables_1, d.before a0 Z = true) (a : Addr) (sa : Addr) (cc : Int32) (sb : Addr) (cs : Int32) (fv : Value) (h : Heap) (n0 : Nat) (hn0 : Old Z n0 h) (hc : ((97 ≤ cc.toInt ∧ cc.toInt ≤ 122) ∨ (65 ≤ cc.toInt ∧ cc.toInt ≤ 90))) (E0 : Exa Z h a "com/example/plantilla/plantilla/UrlValue") (FF0 : Fld Z h a "com/example/plantilla/plantilla/UrlValue" "start" "J" (.long (0 : Int64))) (FF1 : Fld Z h a "com/example/plantilla/plantilla/UrlValue" "begun" "Z" (.int (0 : Int32))) (FF2 : Fld Z h a "com/example/plantilla/plantilla/UrlValue" "schemeLike" "Z" (.int (1 : Int32))) (FF3 : Fld Z h a "com/example/plantilla/plantilla/UrlValue" "delimited" "Z" (.int (0 : Int32))) (FF4 : Fld Z h a "com/example/plantilla/plantilla/UrlValue" "query" "Z" (.int (0 : Int32))) (FF5 : Fld Z h a "com/example/plantilla/plantilla/UrlValue" "reference" "Z" (.int (0 : Int32))) (FF6 : Fld Z h a "com/example/plantilla/plantilla/UrlValue" "holding" "Z" (.int (0 : Int32))) (FF7 : Fld Z h a "com/example/plantilla/plantilla/UrlValue" "referenceOpen" "Z" (.int (0 : Int32))) (ga : n0 ≤ a) (ES : Exa Z h sa "java/lang/String") (G1 : Fld Z h sa "java/lang/String" "coder" "B" (.int 0)) (G2 : Fld Z h sa "java/lang/String" "value" "[B" (.ref sb)) (AS : La Z h sb .byte [(.int cc)]) (nas : a ≠ sa) (nab : a ≠ sb) (hcs : ¬ cs = 0) (S1 : Sta Z Z.heap "java/lang/String" "COMPACT_STRINGS" "Z" (.int cs)) (hfv : fv.isRef = true) (S2 : Sta Z Z.heap "jdk/internal/util/Preconditions" "SIOOBE_FORMATTER" "Ljava/util/function/BiFunction;" fv)  :
    Con l Z (⟨"com/example/plantilla/plantilla/UrlValue", "written", "(Ljava/lang/String;)Ljava/lang/String;"⟩ : MethodName) prog_44_method_11_code 6 (some (.object "java/lang/String")) ({ frames := 4, cells := 0, slots := 0, locals := 53 } : Room) #[(.ref a), (.ref sa)] h n0 (fun v h' => v = some (.ref sa) ∧ Keep h h' [a] ∧ Exa Z h' a "com/example/plantilla/plantilla/UrlValue" ∧ Fld Z h' a "com/example/plantilla/plantilla/UrlValue" "start" "J" (.long (own_cd cc)) ∧ Fld Z h' a "com/example/plantilla/plantilla/UrlValue" "begun" "Z" (.int (1 : Int32)) ∧ Fld Z h' a "com/example/plantilla/plantilla/UrlValue" "schemeLike" "Z" (.int (1 : Int32)) ∧ Fld Z h' a "com/example/plantilla/plantilla/UrlValue" "delimited" "Z" (.int (0 : Int32)) ∧ Fld Z h' a "com/example/plantilla/plantilla/UrlValue" "query" "Z" (.int (0 : Int32)) ∧ Fld Z h' a "com/example/plantilla/plantilla/UrlValue" "reference" "Z" (.int (0 : Int32)) ∧ Fld Z h' a "com/example/plantilla/plantilla/UrlValue" "holding" "Z" (.int (1 : Int32)) ∧ Fld Z h' a "com/example/plantilla/plantilla/UrlValue" "referenceOpen" "Z" (.int (0 : Int32))) := by
  refine con_of hw (plainFor_of_name pn_com_example_plantilla_plantilla_UrlValue) hn0 ?_
  intro p e s m below meth c T0 C X0
  refine Go.cast (congrArg T0.setTop (ef_own_u18_69 m a sa)) ?_
  refine go_aloadN C X0 1 rfl d18_0 rfl rfl ?_
  refine go_getF C X0 (C.w 28 rfl) Via.refl FF3 (pc' := 4) rfl d18_1 (fun T1 X2 => ?_)
  refine go_if_eq C X2 d18_4 (pc' := 7) (pc2 := 13) rfl (by decide) (by decide) (fun (c4 : (0 : Int32) = (0 : Int32)) => ?_) (fun (c4 : ¬ (0 : Int32) = (0 : Int32)) => False.elim (by first | omega | exact absurd c4 (by decide)))
  refine go_aloadN C X2 14 rfl d18_13 rfl rfl ?_
  refine go_getF C X2 (C.w 36 rfl) Via.refl FF7 (pc' := 17) rfl d18_14 (fun T3 X4 => ?_)
  refine go_istoreN C X4 18 rfl d18_17 #[rv a, rv sa, iv (0 : Int32), un, un, un] rfl ?_
  refine go_iconst C X4 19 rfl d18_18 (z := 0) rfl ?_
  refine go_istoreN C X4 20 rfl d18_19 #[rv a, rv sa, iv (0 : Int32), iv (0 : Int32), un, un] rfl ?_
  refine go_iconst C X4 21 rfl d18_20 (z := 0) rfl ?_
  refine go_istore C X4 23 rfl d18_21 #[rv a, rv sa, iv (0 : Int32), iv (0 : Int32), iv (0 : Int32), un] rfl ?_
  refine go_iload C X4 25 rfl d18_23 rfl ?_
  refine go_aloadN C X4 26 rfl d18_25 rfl rfl ?_
  refine go_virtual C X4 ES (C.w 101 rfl) (C.w 102 rfl) (notFace_of_selects (args := #[]) (mvT C.hZ (C.w 104 rfl))) (C.w 104 rfl) (C.w 103 rfl) (C.w 74 rfl) (C.w 105 rfl) (own_s19_70 l Z a0 C.ws sa cc sb cs fv h n0 X4.old hc ES G1 G2 AS hcs S1 hfv S2) (argsL := []) (rest := [(.int (0 : Int32))]) (lenOf pd_8 rfl) rfl (by decide) (by decide) (Nat.le_of_ble_eq_true rfl) (by decide) (by decide) rfl rfl (pc' := 29) rfl d18_26 ?_
  rintro T5 _ _ ⟨rfl, rfl⟩ X6
  show Go p e below _ (T5.setTop (mkF m 29 #[rv a, rv sa, iv (0 : Int32), iv (0 : Int32), iv (0 : Int32), un] [(.int (1 : Int32)), (.int (0 : Int32))]))
  refine go_icmp_ge C X6 d18_29 (pc' := 32) (pc2 := 77) rfl (by decide) (by decide) (fun (c29 : 1 ≤ 0) => False.elim (by first | omega | exact absurd c29 (by decide))) (fun (c29 : 0 < 1) => ?_)
  refine go_aloadN C X6 33 rfl d18_32 rfl rfl ?_
  refine go_getF C X6 (C.w 28 rfl) Via.refl FF3 (pc' := 36) rfl d18_33 (fun T8 X9 => ?_)
  refine go_if_ne C X9 d18_36 (pc' := 39) (pc2 := 77) rfl (by decide) (by decide) (fun (c36 : ¬ (0 : Int32) = (0 : Int32)) => False.elim (by first | omega | exact absurd c36 (by decide))) (fun (c36 : (0 : Int32) = (0 : Int32)) => ?_)
  refine go_aloadN C X9 40 rfl d18_39 rfl rfl ?_
  refine go_iload C X9 42 rfl d18_40 rfl ?_
  refine go_virtual C X9 ES (C.w 111 rfl) (C.w 112 rfl) (notFace_of_selects (args := #[]) (mvT C.hZ (C.w 114 rfl))) (C.w 114 rfl) (C.w 113 rfl) (C.w 74 rfl) (C.w 115 rfl) (own_s21_72 l Z a0 C.ws sa cc sb cs fv h n0 X9.old hc ES G1 G2 AS hcs S1 hfv S2) (argsL := [(.int (0 : Int32))]) (rest := []) (lenOf pd_13 rfl) rfl (by decide) (by decide) (Nat.le_of_ble_eq_true rfl) (by decide) (by decide) rfl rfl (pc' := 45) rfl d18_42 ?_
  rintro T10 _ _ ⟨rfl, rfl⟩ X11
  show Go p e below _ (T10.setTop (mkF m 45 #[rv a, rv sa, iv (0 : Int32), iv (0 : Int32), iv (0 : Int32), un] [(.int cc)]))
  refine go_istore C X11 47 rfl d18_45 #[rv a, rv sa, iv (0 : Int32), iv (0 : Int32), iv (0 : Int32), iv cc] rfl ?_
  refine go_iload C X11 49 rfl d18_47 rfl ?_
  refine go_bipush C X11 51 rfl d18_49 (z := 58) rfl ?_
  refine go_icmp_ne C X11 d18_51 (pc' := 54) (pc2 := 61) rfl (by decide) (by decide) (fun (c51 : ¬ cc = (58 : Int32)) => ?_) (fun (c51 : cc = (58 : Int32)) => False.elim (own_nl hc (by decide) c51))
  refine go_iloadN C X11 62 rfl d18_61 rfl ?_
  refine go_aloadN C X11 63 rfl d18_62 rfl rfl ?_
  refine go_iload C X11 65 rfl d18_63 rfl ?_
  refine go_iconst C X11 66 rfl d18_65 (z := 0) rfl ?_
  refine go_private C X11 E0 (C.w 43 rfl) (C.w 44 rfl) (Jvm.Kit.selects_private (by decide) (C.w 9 rfl) (C.w 45 rfl) (C.w 44 rfl)) (C.w 45 rfl) (C.w 10 rfl) (C.w 46 rfl) (own_u7_77 l Z a0 C.ws a cc h n0 X11.old hc E0 FF0 FF1 FF2 FF3 FF4 FF5 FF6 FF7 ga ) (argsL := [(.int cc), (.int (0 : Int32))]) (rest := [(.int (0 : Int32))]) (lenOf pd_6 rfl) rfl (by decide) (by decide) (Nat.le_of_ble_eq_true rfl) (by decide) (by decide) rfl rfl (pc' := 69) rfl d18_66 ?_
  rintro T13 h15 _ ⟨rfl, Kq16, Eq16, Fq160, Fq161, Fq162, Fq163, Fq164, Fq165, Fq166, Fq167⟩ X14
  show Go p e below _ (T13.setTop (mkF m 69 #[rv a, rv sa, iv (0 : Int32), iv (0 : Int32), iv (0 : Int32), iv cc] [(.int (1 : Int32)), (.int (0 : Int32))]))
  have E17 := E0.keep Kq16
  have E18 := ES.keep Kq16
  have F19 := G1.keep Kq16 (ninS (Ne.symm nas) nin0)
  have F20 := G2.keep Kq16 (ninS (Ne.symm nas) nin0)
  have A21 := AS.keep Kq16 (ninS (Ne.symm nab) nin0)
  have K22 := (Keep.refl h [a]).trans Kq16 (allS (Or.inl (List.mem_of_getElem? (i := 0) rfl)) all0)
  refine go_iorL C X14 70 rfl d18_69 (z := (1)) rfl ?_
  refine go_istoreN C X14 71 rfl d18_70 #[rv a, rv sa, iv (0 : Int32), iv (1 : Int32), iv (0 : Int32), iv cc] rfl ?_
  refine go_iinc C X14 74 rfl d18_71 rfl (z := 1) rfl #[rv a, rv sa, iv (0 : Int32), iv (1 : Int32), iv (1 : Int32), iv cc] rfl ?_
  refine go_goto C X14 d18_74 (pc' := 23) (by decide) (by decide) ?_
  refine go_iload C X14 25 rfl d18_23 rfl ?_
  refine go_aloadN C X14 26 rfl d18_25 rfl rfl ?_
  refine go_virtual C X14 E18 (C.w 101 rfl) (C.w 102 rfl) (notFace_of_selects (args := #[]) (mvT C.hZ (C.w 104 rfl))) (C.w 104 rfl) (C.w 103 rfl) (C.w 74 rfl) (C.w 105 rfl) (own_s19_70 l Z a0 C.ws sa cc sb cs fv h15 n0 X14.old hc E18 F19 F20 A21 hcs S1 hfv S2) (argsL := []) (rest := [(.int (1 : Int32))]) (lenOf pd_8 rfl) rfl (by decide) (by decide) (Nat.le_of_ble_eq_true rfl) (by decide) (by decide) rfl rfl (pc' := 29) rfl d18_26 ?_
  rintro T23 _ _ ⟨rfl, rfl⟩ X24
  show Go p e below _ (T23.setTop (mkF m 29 #[rv a, rv sa, iv (0 : Int32), iv (1 : Int32), iv (1 : Int32), iv cc] [(.int (1 : Int32)), (.int (1 : Int32))]))
  refine go_icmp_ge C X24 d18_29 (pc' := 32) (pc2 := 77) rfl (by decide) (by decide) (fun (c29 : 1 ≤ 1) => ?_) (fun (c29 : 1 < 1) => False.elim (by first | omega | exact absurd c29 (by decide)))
  refine go_aloadN C X24 78 rfl d18_77 rfl rfl ?_
  refine go_dup C X24 79 rfl d18_78 rfl ?_
  refine go_getF C X24 (C.w 28 rfl) Via.refl Fq163 (pc' := 82) rfl d18_79 (fun T26 X27 => ?_)
  refine go_iloadN C X27 83 rfl d18_82 rfl ?_
  refine go_iorL C X27 84 rfl d18_83 (z := (0)) rfl ?_
  refine go_putFN C X27 (C.w 28 rfl) Via.refl Fq163 Eq16 (Or.inl (C.w 29 rfl)) (C.w 9 rfl) ga (ty := .boolean) (by decide) (v' := (.int (0 : Int32))) rfl rfl (pc' := 87) rfl d18_84 (fun T28 h30 W31 X29 => ?_)
  have F32 := Fq163.same W31
  have E33 := Eq16.wr W31
  have E34 := E18.wr W31
  have F35 := F19.other W31 (Or.inl (Ne.symm nas))
  have F36 := F20.other W31 (Or.inl (Ne.symm nas))
  have A37 := A21.other W31 (Ne.symm nab)
  have F38 := Fq160.other W31 (Or.inr (slot_ne (Or.inl (C.w 23 rfl)) (Or.inl (C.w 29 rfl)) (by decide) (t := .long) (t' := .boolean) (by decide) (by decide)))
  have F39 := Fq161.other W31 (Or.inr (slot_ne (Or.inl (C.w 25 rfl)) (Or.inl (C.w 29 rfl)) (by decide) (t := .boolean) (t' := .boolean) (by decide) (by decide)))
  have F40 := Fq162.other W31 (Or.inr (slot_ne (Or.inl (C.w 27 rfl)) (Or.inl (C.w 29 rfl)) (by decide) (t := .boolean) (t' := .boolean) (by decide) (by decide)))
  have F41 := Fq164.other W31 (Or.inr (slot_ne (Or.inl (C.w 31 rfl)) (Or.inl (C.w 29 rfl)) (by decide) (t := .boolean) (t' := .boolean) (by decide) (by decide)))
  have F42 := Fq165.other W31 (Or.inr (slot_ne (Or.inl (C.w 33 rfl)) (Or.inl (C.w 29 rfl)) (by decide) (t := .boolean) (t' := .boolean) (by decide) (by decide)))
  have F43 := Fq166.other W31 (Or.inr (slot_ne (Or.inl (C.w 35 rfl)) (Or.inl (C.w 29 rfl)) (by decide) (t := .boolean) (t' := .boolean) (by decide) (by decide)))
  have F44 := Fq167.other W31 (Or.inr (slot_ne (Or.inl (C.w 37 rfl)) (Or.inl (C.w 29 rfl)) (by decide) (t := .boolean) (t' := .boolean) (by decide) (by decide)))
  have K45 := K22.wr W31 (Or.inl (List.mem_of_getElem? (i := 0) rfl))
  refine go_aloadN C X29 88 rfl d18_87 rfl rfl ?_
  refine go_iloadN C X29 89 rfl d18_88 rfl ?_
  refine go_if_eq C X29 d18_89 (pc' := 92) (pc2 := 117) rfl (by decide) (by decide) (fun (c89 : (1 : Int32) = (0 : Int32)) => False.elim (by first | omega | exact absurd c89 (by decide))) (fun (c89 : ¬ (1 : Int32) = (0 : Int32)) => ?_)
  refine go_aloadN C X29 93 rfl d18_92 rfl rfl ?_
  refine go_getF C X29 (C.w 28 rfl) Via.refl F32 (pc' := 96) rfl d18_93 (fun T46 X47 => ?_)
  refine go_if_ne C X47 d18_96 (pc' := 99) (pc2 := 117) rfl (by decide) (by decide) (fun (c96 : ¬ (0 : Int32) = (0 : Int32)) => False.elim (by first | omega | exact absurd c96 (by decide))) (fun (c96 : (0 : Int32) = (0 : Int32)) => ?_)
  refine go_aloadN C X47 100 rfl d18_99 rfl rfl ?_
  refine go_getF C X47 (C.w 26 rfl) Via.refl F40 (pc' := 103) rfl d18_100 (fun T48 X49 => ?_)
  refine go_if_ne C X49 d18_103 (pc' := 106) (pc2 := 113) rfl (by decide) (by decide) (fun (c103 : ¬ (1 : Int32) = (0 : Int32)) => ?_) (fun (c103 : (1 : Int32) = (0 : Int32)) => False.elim (by first | omega | exact absurd c103 (by decide)))
  refine go_iconst C X49 114 rfl d18_113 (z := 1) rfl ?_
  refine go_goto C X49 d18_114 (pc' := 118) (by decide) (by decide) ?_
  refine go_putFN C X49 (C.w 34 rfl) Via.refl F43 E33 (Or.inl (C.w 35 rfl)) (C.w 9 rfl) ga (ty := .boolean) (by decide) (v' := (.int (1 : Int32))) rfl rfl (pc' := 121) rfl d18_118 (fun T50 h52 W53 X51 => ?_)
  have F54 := F43.same W53
  have E55 := E33.wr W53
  have E56 := E34.wr W53
  have F57 := F35.other W53 (Or.inl (Ne.symm nas))
  have F58 := F36.other W53 (Or.inl (Ne.symm nas))
  have A59 := A37.other W53 (Ne.symm nab)
  have F60 := F38.other W53 (Or.inr (slot_ne (Or.inl (C.w 23 rfl)) (Or.inl (C.w 35 rfl)) (by decide) (t := .long) (t' := .boolean) (by decide) (by decide)))
  have F61 := F39.other W53 (Or.inr (slot_ne (Or.inl (C.w 25 rfl)) (Or.inl (C.w 35 rfl)) (by decide) (t := .boolean) (t' := .boolean) (by decide) (by decide)))
  have F62 := F40.other W53 (Or.inr (slot_ne (Or.inl (C.w 27 rfl)) (Or.inl (C.w 35 rfl)) (by decide) (t := .boolean) (t' := .boolean) (by decide) (by decide)))
  have F63 := F32.other W53 (Or.inr (slot_ne (Or.inl (C.w 29 rfl)) (Or.inl (C.w 35 rfl)) (by decide) (t := .boolean) (t' := .boolean) (by decide) (by decide)))
  have F64 := F41.other W53 (Or.inr (slot_ne (Or.inl (C.w 31 rfl)) (Or.inl (C.w 35 rfl)) (by decide) (t := .boolean) (t' := .boolean) (by decide) (by decide)))
  have F65 := F42.other W53 (Or.inr (slot_ne (Or.inl (C.w 33 rfl)) (Or.inl (C.w 35 rfl)) (by decide) (t := .boolean) (t' := .boolean) (by decide) (by decide)))
  have F66 := F44.other W53 (Or.inr (slot_ne (Or.inl (C.w 37 rfl)) (Or.inl (C.w 35 rfl)) (by decide) (t := .boolean) (t' := .boolean) (by decide) (by decide)))
  have K67 := K45.wr W53 (Or.inl (List.mem_of_getElem? (i := 0) rfl))
  refine go_iloadN C X51 122 rfl d18_121 rfl ?_
  refine go_if_eq C X51 d18_122 (pc' := 125) (pc2 := 130) rfl (by decide) (by decide) (fun (c122 : (0 : Int32) = (0 : Int32)) => ?_) (fun (c122 : ¬ (0 : Int32) = (0 : Int32)) => False.elim (by first | omega | exact absurd c122 (by decide)))
  refine go_aloadN C X51 131 rfl d18_130 rfl rfl ?_
  exact go_retA C X51 d18_131 rfl rfl ⟨rfl, K67, E55, F60, F61, F62, F63, F64, F65, F54, F66⟩ (by decide) (by decide)
theorem d2_129 : decode method_4_code 129 = .ok (.invokevirtual 42, 3) := by decide +kernel
theorem d2_132 : decode method_4_code 132 = .ok (.pop, 1) := by decide +kernel
theorem d2_133 : decode method_4_code 133 = .ok (.goto 40, 3) := by decide +kernel
theorem d2_109 : decode method_4_code 109 = .ok (.aload_n 2, 1) := by decide +kernel
theorem d2_110 : decode method_4_code 110 = .ok (.iload_n 1, 1) := by decide +kernel
theorem ef_own_u7_82 (m : MethodId) (a : Addr) (cc : Int32)  : entryFrame m #[(.ref a), (.int cc), (.int (1 : Int32))] 5 = mkF m 0 #[rv a, iv cc, iv (1 : Int32), un, un] [] := by
  first | (simp [entryFrame, mkF, argsToLocals, Value.category]; done) | rfl
set_option maxRecDepth 65536 in
set_option maxHeartbeats 40000000 in
theorem own_u7_82 (l : Launch) (Z : State) (a0 : Array Value) (hw : ∀ d ∈ tables_1, d.before a0 Z = true) (a : Addr) (cc : Int32)  (h : Heap) (n0 : Nat) (hn0 : Old Z n0 h) (hc : ((97 ≤ cc.toInt ∧ cc.toInt ≤ 122) ∨ (65 ≤ cc.toInt ∧ cc.toInt ≤ 90))) (E0 : Exa Z h a "com/example/plantilla/plantilla/UrlValue") (FF0 : Fld Z h a "com/example/plantilla/plantilla/UrlValue" "start" "J" (.long (0 : Int64))) (FF1 : Fld Z h a "com/example/plantilla/plantilla/UrlValue" "begun" "Z" (.int (0 : Int32))) (FF2 : Fld Z h a "com/example/plantilla/plantilla/UrlValue" "schemeLike" "Z" (.int (1 : Int32))) (FF3 : Fld Z h a "com/example/plantilla/plantilla/UrlValue" "delimited" "Z" (.int (0 : Int32))) (FF4 : Fld Z h a "com/example/plantilla/plantilla/UrlValue" "query" "Z" (.int (0 : Int32))) (FF5 : Fld Z h a "com/example/plantilla/plantilla/UrlValue" "reference" "Z" (.int (0 : Int32))) (FF6 : Fld Z h a "com/example/plantilla/plantilla/UrlValue" "holding" "Z" (.int (0 : Int32))) (FF7 : Fld Z h a "com/example/plantilla/plantilla/UrlValue" "referenceOpen" "Z" (.int (0 : Int32))) (ga : n0 ≤ a)  :
    Con l Z (⟨"com/example/plantilla/plantilla/UrlValue", "take", "(CZ)Z"⟩ : MethodName) prog_44_method_13_code 5 (some .boolean) ({ frames := 2, cells := 0, slots := 0, locals := 31 } : Room) #[(.ref a), (.int cc), (.int (1 : Int32))] h n0 (fun v h' => v = some (.int (1 : Int32)) ∧ Keep h h' [a] ∧ Exa Z h' a "com/example/plantilla/plantilla/UrlValue" ∧ Fld Z h' a "com/example/plantilla/plantilla/UrlValue" "start" "J" (.long (own_cd cc)) ∧ Fld Z h' a "com/example/plantilla/plantilla/UrlValue" "begun" "Z" (.int (1 : Int32)) ∧ Fld Z h' a "com/example/plantilla/plantilla/UrlValue" "schemeLike" "Z" (.int (1 : Int32)) ∧ Fld Z h' a "com/example/plantilla/plantilla/UrlValue" "delimited" "Z" (.int (0 : Int32)) ∧ Fld Z h' a "com/example/plantilla/plantilla/UrlValue" "query" "Z" (.int (0 : Int32)) ∧ Fld Z h' a "com/example/plantilla/plantilla/UrlValue" "reference" "Z" (.int (0 : Int32)) ∧ Fld Z h' a "com/example/plantilla/plantilla/UrlValue" "holding" "Z" (.int (0 : Int32)) ∧ Fld Z h' a "com/example/plantilla/plantilla/UrlValue" "referenceOpen" "Z" (.int (0 : Int32))) := by
  refine con_of hw (plainFor_of_name pn_com_example_plantilla_plantilla_UrlValue) hn0 ?_
  intro p e s m below meth c T0 C X0
  refine Go.cast (congrArg T0.setTop (ef_own_u7_82 m a cc)) ?_
  refine go_aloadN C X0 1 rfl d7_0 rfl rfl ?_
  refine go_getF C X0 (C.w 36 rfl) Via.refl FF7 (pc' := 4) rfl d7_1 (fun T1 X2 => ?_)
  refine go_if_eq C X2 d7_4 (pc' := 7) (pc2 := 18) rfl (by decide) (by decide) (fun (c4 : (0 : Int32) = (0 : Int32)) => ?_) (fun (c4 : ¬ (0 : Int32) = (0 : Int32)) => False.elim (by first | omega | exact absurd c4 (by decide)))
  refine go_iconst C X2 19 rfl d7_18 (z := 0) rfl ?_
  refine go_istoreN C X2 20 rfl d7_19 #[rv a, iv cc, iv (1 : Int32), iv (0 : Int32), un] rfl ?_
  refine go_aloadN C X2 21 rfl d7_20 rfl rfl ?_
  refine go_iloadN C X2 22 rfl d7_21 rfl ?_
  refine go_if_eq C X2 d7_22 (pc' := 25) (pc2 := 62) rfl (by decide) (by decide) (fun (c22 : (1 : Int32) = (0 : Int32)) => False.elim (by first | omega | exact absurd c22 (by decide))) (fun (c22 : ¬ (1 : Int32) = (0 : Int32)) => ?_)
  refine go_iloadN C X2 26 rfl d7_25 rfl ?_
  refine go_bipush C X2 28 rfl d7_26 (z := 38) rfl ?_
  refine go_icmp_eq C X2 d7_28 (pc' := 31) (pc2 := 58) rfl (by decide) (by decide) (fun (c28 : cc = (38 : Int32)) => False.elim (own_nl hc (by decide) c28)) (fun (c28 : ¬ cc = (38 : Int32)) => ?_)
  refine go_aloadN C X2 32 rfl d7_31 rfl rfl ?_
  refine go_getF C X2 (C.w 36 rfl) Via.refl FF7 (pc' := 35) rfl d7_32 (fun T3 X4 => ?_)
  refine go_if_eq C X4 d7_35 (pc' := 38) (pc2 := 62) rfl (by decide) (by decide) (fun (c35 : (0 : Int32) = (0 : Int32)) => ?_) (fun (c35 : ¬ (0 : Int32) = (0 : Int32)) => False.elim (by first | omega | exact absurd c35 (by decide)))
  refine go_iconst C X4 63 rfl d7_62 (z := 0) rfl ?_
  refine go_putFN C X4 (C.w 36 rfl) Via.refl FF7 E0 (Or.inl (C.w 37 rfl)) (C.w 9 rfl) ga (ty := .boolean) (by decide) (v' := (.int (0 : Int32))) rfl rfl (pc' := 66) rfl d7_63 (fun T5 h7 W8 X6 => ?_)
  have F9 := FF7.same W8
  have E10 := E0.wr W8
  have F11 := FF0.other W8 (Or.inr (slot_ne (Or.inl (C.w 23 rfl)) (Or.inl (C.w 37 rfl)) (by decide) (t := .long) (t' := .boolean) (by decide) (by decide)))
  have F12 := FF1.other W8 (Or.inr (slot_ne (Or.inl (C.w 25 rfl)) (Or.inl (C.w 37 rfl)) (by decide) (t := .boolean) (t' := .boolean) (by decide) (by decide)))
  have F13 := FF2.other W8 (Or.inr (slot_ne (Or.inl (C.w 27 rfl)) (Or.inl (C.w 37 rfl)) (by decide) (t := .boolean) (t' := .boolean) (by decide) (by decide)))
  have F14 := FF3.other W8 (Or.inr (slot_ne (Or.inl (C.w 29 rfl)) (Or.inl (C.w 37 rfl)) (by decide) (t := .boolean) (t' := .boolean) (by decide) (by decide)))
  have F15 := FF4.other W8 (Or.inr (slot_ne (Or.inl (C.w 31 rfl)) (Or.inl (C.w 37 rfl)) (by decide) (t := .boolean) (t' := .boolean) (by decide) (by decide)))
  have F16 := FF5.other W8 (Or.inr (slot_ne (Or.inl (C.w 33 rfl)) (Or.inl (C.w 37 rfl)) (by decide) (t := .boolean) (t' := .boolean) (by decide) (by decide)))
  have F17 := FF6.other W8 (Or.inr (slot_ne (Or.inl (C.w 35 rfl)) (Or.inl (C.w 37 rfl)) (by decide) (t := .boolean) (t' := .boolean) (by decide) (by decide)))
  have K18 := (Keep.refl h [a]).wr W8 (Or.inl (List.mem_of_getElem? (i := 0) rfl))
  refine go_iloadN C X6 67 rfl d7_66 rfl ?_
  refine go_bipush C X6 69 rfl d7_67 (z := 9) rfl ?_
  refine go_icmp_eq C X6 d7_69 (pc' := 72) (pc2 := 97) rfl (by decide) (by decide) (fun (c69 : cc = (9 : Int32)) => False.elim (own_nl hc (by decide) c69)) (fun (c69 : ¬ cc = (9 : Int32)) => ?_)
  refine go_iloadN C X6 73 rfl d7_72 rfl ?_
  refine go_bipush C X6 75 rfl d7_73 (z := 10) rfl ?_
  refine go_icmp_eq C X6 d7_75 (pc' := 78) (pc2 := 97) rfl (by decide) (by decide) (fun (c75 : cc = (10 : Int32)) => False.elim (own_nl hc (by decide) c75)) (fun (c75 : ¬ cc = (10 : Int32)) => ?_)
  refine go_iloadN C X6 79 rfl d7_78 rfl ?_
  refine go_bipush C X6 81 rfl d7_79 (z := 13) rfl ?_
  refine go_icmp_eq C X6 d7_81 (pc' := 84) (pc2 := 97) rfl (by decide) (by decide) (fun (c81 : cc = (13 : Int32)) => False.elim (own_nl hc (by decide) c81)) (fun (c81 : ¬ cc = (13 : Int32)) => ?_)
  refine go_aloadN C X6 85 rfl d7_84 rfl rfl ?_
  refine go_getF C X6 (C.w 24 rfl) Via.refl F12 (pc' := 88) rfl d7_85 (fun T19 X20 => ?_)
  refine go_if_ne C X20 d7_88 (pc' := 91) (pc2 := 99) rfl (by decide) (by decide) (fun (c88 : ¬ (0 : Int32) = (0 : Int32)) => False.elim (by first | omega | exact absurd c88 (by decide))) (fun (c88 : (0 : Int32) = (0 : Int32)) => ?_)
  refine go_iloadN C X20 92 rfl d7_91 rfl ?_
  refine go_bipush C X20 94 rfl d7_92 (z := 32) rfl ?_
  refine go_icmp_gt C X20 d7_94 (pc' := 97) (pc2 := 99) rfl (by decide) (by decide) (fun (c94 : 32 < cc.toInt) => ?_) (fun (c94 : cc.toInt ≤ 32) => False.elim (by omega))
  refine go_aloadN C X20 100 rfl d7_99 rfl rfl ?_
  refine go_iconst C X20 101 rfl d7_100 (z := 1) rfl ?_
  refine go_putFN C X20 (C.w 24 rfl) Via.refl F12 E10 (Or.inl (C.w 25 rfl)) (C.w 9 rfl) ga (ty := .boolean) (by decide) (v' := (.int (1 : Int32))) rfl rfl (pc' := 104) rfl d7_101 (fun T21 h23 W24 X22 => ?_)
  have F25 := F12.same W24
  have E26 := E10.wr W24
  have F27 := F11.other W24 (Or.inr (slot_ne (Or.inl (C.w 23 rfl)) (Or.inl (C.w 25 rfl)) (by decide) (t := .long) (t' := .boolean) (by decide) (by decide)))
  have F28 := F13.other W24 (Or.inr (slot_ne (Or.inl (C.w 27 rfl)) (Or.inl (C.w 25 rfl)) (by decide) (t := .boolean) (t' := .boolean) (by decide) (by decide)))
  have F29 := F14.other W24 (Or.inr (slot_ne (Or.inl (C.w 29 rfl)) (Or.inl (C.w 25 rfl)) (by decide) (t := .boolean) (t' := .boolean) (by decide) (by decide)))
  have F30 := F15.other W24 (Or.inr (slot_ne (Or.inl (C.w 31 rfl)) (Or.inl (C.w 25 rfl)) (by decide) (t := .boolean) (t' := .boolean) (by decide) (by decide)))
  have F31 := F16.other W24 (Or.inr (slot_ne (Or.inl (C.w 33 rfl)) (Or.inl (C.w 25 rfl)) (by decide) (t := .boolean) (t' := .boolean) (by decide) (by decide)))
  have F32 := F17.other W24 (Or.inr (slot_ne (Or.inl (C.w 35 rfl)) (Or.inl (C.w 25 rfl)) (by decide) (t := .boolean) (t' := .boolean) (by decide) (by decide)))
  have F33 := F9.other W24 (Or.inr (slot_ne (Or.inl (C.w 37 rfl)) (Or.inl (C.w 25 rfl)) (by decide) (t := .boolean) (t' := .boolean) (by decide) (by decide)))
  have K34 := K18.wr W24 (Or.inl (List.mem_of_getElem? (i := 0) rfl))
  refine go_iconst C X22 105 rfl d7_104 (z := 0) rfl ?_
  refine go_istore C X22 107 rfl d7_105 #[rv a, iv cc, iv (1 : Int32), iv (0 : Int32), iv (0 : Int32)] rfl ?_
  refine go_iloadN C X22 108 rfl d7_107 rfl ?_
  refine go_bipush C X22 110 rfl d7_108 (z := 63) rfl ?_
  refine go_icmp_eq C X22 d7_110 (pc' := 113) (pc2 := 123) rfl (by decide) (by decide) (fun (c110 : cc = (63 : Int32)) => False.elim (own_nl hc (by decide) c110)) (fun (c110 : ¬ cc = (63 : Int32)) => ?_)
  refine go_iloadN C X22 114 rfl d7_113 rfl ?_
  refine go_bipush C X22 116 rfl d7_114 (z := 35) rfl ?_
  refine go_icmp_ne C X22 d7_116 (pc' := 119) (pc2 := 141) rfl (by decide) (by decide) (fun (c116 : ¬ cc = (35 : Int32)) => ?_) (fun (c116 : cc = (35 : Int32)) => False.elim (own_nl hc (by decide) c116))
  refine go_iloadN C X22 142 rfl d7_141 rfl ?_
  refine go_bipush C X22 144 rfl d7_142 (z := 58) rfl ?_
  refine go_icmp_eq C X22 d7_144 (pc' := 147) (pc2 := 153) rfl (by decide) (by decide) (fun (c144 : cc = (58 : Int32)) => False.elim (own_nl hc (by decide) c144)) (fun (c144 : ¬ cc = (58 : Int32)) => ?_)
  refine go_iloadN C X22 148 rfl d7_147 rfl ?_
  refine go_bipush C X22 150 rfl d7_148 (z := 47) rfl ?_
  refine go_icmp_ne C X22 d7_150 (pc' := 153) (pc2 := 161) rfl (by decide) (by decide) (fun (c150 : ¬ cc = (47 : Int32)) => ?_) (fun (c150 : cc = (47 : Int32)) => False.elim (own_nl hc (by decide) c150))
  refine go_aloadN C X22 162 rfl d7_161 rfl rfl ?_
  refine go_getF C X22 (C.w 28 rfl) Via.refl F29 (pc' := 165) rfl d7_162 (fun T35 X36 => ?_)
  refine go_if_ne C X36 d7_165 (pc' := 168) (pc2 := 236) rfl (by decide) (by decide) (fun (c165 : ¬ (0 : Int32) = (0 : Int32)) => False.elim (by first | omega | exact absurd c165 (by decide))) (fun (c165 : (0 : Int32) = (0 : Int32)) => ?_)
  refine go_aloadN C X36 169 rfl d7_168 rfl rfl ?_
  refine go_dup C X36 170 rfl d7_169 rfl ?_
  refine go_getF C X36 (C.w 32 rfl) Via.refl F31 (pc' := 173) rfl d7_170 (fun T37 X38 => ?_)
  refine go_iloadN C X38 174 rfl d7_173 rfl ?_
  refine go_if_eq C X38 d7_174 (pc' := 177) (pc2 := 187) rfl (by decide) (by decide) (fun (c174 : (1 : Int32) = (0 : Int32)) => False.elim (by first | omega | exact absurd c174 (by decide))) (fun (c174 : ¬ (1 : Int32) = (0 : Int32)) => ?_)
  refine go_iloadN C X38 178 rfl d7_177 rfl ?_
  refine go_bipush C X38 180 rfl d7_178 (z := 38) rfl ?_
  refine go_icmp_ne C X38 d7_180 (pc' := 183) (pc2 := 187) rfl (by decide) (by decide) (fun (c180 : ¬ cc = (38 : Int32)) => ?_) (fun (c180 : cc = (38 : Int32)) => False.elim (own_nl hc (by decide) c180))
  refine go_iconst C X38 188 rfl d7_187 (z := 0) rfl ?_
  refine go_iorL C X38 189 rfl d7_188 (z := (0)) rfl ?_
  refine go_putFN C X38 (C.w 32 rfl) Via.refl F31 E26 (Or.inl (C.w 33 rfl)) (C.w 9 rfl) ga (ty := .boolean) (by decide) (v' := (.int (0 : Int32))) rfl rfl (pc' := 192) rfl d7_189 (fun T39 h41 W42 X40 => ?_)
  have F43 := F31.same W42
  have E44 := E26.wr W42
  have F45 := F27.other W42 (Or.inr (slot_ne (Or.inl (C.w 23 rfl)) (Or.inl (C.w 33 rfl)) (by decide) (t := .long) (t' := .boolean) (by decide) (by decide)))
  have F46 := F25.other W42 (Or.inr (slot_ne (Or.inl (C.w 25 rfl)) (Or.inl (C.w 33 rfl)) (by decide) (t := .boolean) (t' := .boolean) (by decide) (by decide)))
  have F47 := F28.other W42 (Or.inr (slot_ne (Or.inl (C.w 27 rfl)) (Or.inl (C.w 33 rfl)) (by decide) (t := .boolean) (t' := .boolean) (by decide) (by decide)))
  have F48 := F29.other W42 (Or.inr (slot_ne (Or.inl (C.w 29 rfl)) (Or.inl (C.w 33 rfl)) (by decide) (t := .boolean) (t' := .boolean) (by decide) (by decide)))
  have F49 := F30.other W42 (Or.inr (slot_ne (Or.inl (C.w 31 rfl)) (Or.inl (C.w 33 rfl)) (by decide) (t := .boolean) (t' := .boolean) (by decide) (by decide)))
  have F50 := F32.other W42 (Or.inr (slot_ne (Or.inl (C.w 35 rfl)) (Or.inl (C.w 33 rfl)) (by decide) (t := .boolean) (t' := .boolean) (by decide) (by decide)))
  have F51 := F33.other W42 (Or.inr (slot_ne (Or.inl (C.w 37 rfl)) (Or.inl (C.w 33 rfl)) (by decide) (t := .boolean) (t' := .boolean) (by decide) (by decide)))
  have K52 := K34.wr W42 (Or.inl (List.mem_of_getElem? (i := 0) rfl))
  refine go_aloadN C X40 193 rfl d7_192 rfl rfl ?_
  refine go_dup C X40 194 rfl d7_193 rfl ?_
  refine go_getF C X40 (C.w 26 rfl) Via.refl F47 (pc' := 197) rfl d7_194 (fun T53 X54 => ?_)
  refine go_aloadN C X54 198 rfl d7_197 rfl rfl ?_
  refine go_getF C X54 (C.w 22 rfl) Via.refl F45 (pc' := 201) rfl d7_198 (fun T55 X56 => ?_)
  refine go_lconst C X56 202 rfl d7_201 (z := 0) rfl ?_
  refine go_lif_ne C X56 (pc1 := 203) rfl d7_202 d7_203 (pc' := 206) (pc2 := 213) rfl (by decide) (by decide) (fun (c203 : ¬ (0 : Int64) = (0 : Int64)) => False.elim (by first | omega | exact absurd c203 (by decide))) (fun (c203 : (0 : Int64) = (0 : Int64)) => ?_)
  refine go_iloadN C X56 207 rfl d7_206 rfl ?_
  refine go_callS C X56 (C.w 60 rfl) (C.w 61 rfl) (C.w 10 rfl) (C.w 62 rfl) (own_p11_78 l Z a0 C.ws cc h41 n0 X56.old hc) (argsL := [(.int cc)]) (rest := [(.int (1 : Int32)), (.ref a)]) (lenOf pd_0 rfl) rfl (by decide) (by decide) (Nat.le_of_ble_eq_true rfl) (by decide) (by decide) rfl rfl (pc' := 210) rfl d7_207 ?_
  rintro T57 _ _ ⟨rfl, rfl⟩ X58
  show Go p e below _ (T57.setTop (mkF m 210 #[rv a, iv cc, iv (1 : Int32), iv (0 : Int32), iv (0 : Int32)] [(.int (1 : Int32)), (.int (1 : Int32)), (.ref a)]))
  refine go_goto C X58 d7_210 (pc' := 217) (by decide) (by decide) ?_
  refine go_iandL C X58 218 rfl d7_217 (z := (1)) rfl ?_
  refine go_putFN C X58 (C.w 26 rfl) Via.refl F47 E44 (Or.inl (C.w 27 rfl)) (C.w 9 rfl) ga (ty := .boolean) (by decide) (v' := (.int (1 : Int32))) rfl rfl (pc' := 221) rfl d7_218 (fun T60 h62 W63 X61 => ?_)
  have F64 := F47.same W63
  have E65 := E44.wr W63
  have F66 := F45.other W63 (Or.inr (slot_ne (Or.inl (C.w 23 rfl)) (Or.inl (C.w 27 rfl)) (by decide) (t := .long) (t' := .boolean) (by decide) (by decide)))
  have F67 := F46.other W63 (Or.inr (slot_ne (Or.inl (C.w 25 rfl)) (Or.inl (C.w 27 rfl)) (by decide) (t := .boolean) (t' := .boolean) (by decide) (by decide)))
  have F68 := F48.other W63 (Or.inr (slot_ne (Or.inl (C.w 29 rfl)) (Or.inl (C.w 27 rfl)) (by decide) (t := .boolean) (t' := .boolean) (by decide) (by decide)))
  have F69 := F49.other W63 (Or.inr (slot_ne (Or.inl (C.w 31 rfl)) (Or.inl (C.w 27 rfl)) (by decide) (t := .boolean) (t' := .boolean) (by decide) (by decide)))
  have F70 := F43.other W63 (Or.inr (slot_ne (Or.inl (C.w 33 rfl)) (Or.inl (C.w 27 rfl)) (by decide) (t := .boolean) (t' := .boolean) (by decide) (by decide)))
  have F71 := F50.other W63 (Or.inr (slot_ne (Or.inl (C.w 35 rfl)) (Or.inl (C.w 27 rfl)) (by decide) (t := .boolean) (t' := .boolean) (by decide) (by decide)))
  have F72 := F51.other W63 (Or.inr (slot_ne (Or.inl (C.w 37 rfl)) (Or.inl (C.w 27 rfl)) (by decide) (t := .boolean) (t' := .boolean) (by decide) (by decide)))
  have K73 := K52.wr W63 (Or.inl (List.mem_of_getElem? (i := 0) rfl))
  refine go_aloadN C X61 222 rfl d7_221 rfl rfl ?_
  refine go_aloadN C X61 223 rfl d7_222 rfl rfl ?_
  refine go_getF C X61 (C.w 22 rfl) Via.refl F66 (pc' := 226) rfl d7_223 (fun T74 X75 => ?_)
  refine go_iloadN C X75 227 rfl d7_226 rfl ?_
  refine go_callS C X75 (C.w 63 rfl) (C.w 64 rfl) (C.w 65 rfl) (C.w 66 rfl) (own_p12_79 l Z a0 C.ws cc h62 n0 X75.old hc) (argsL := [(.long (0 : Int64)), (.int cc)]) (rest := [(.ref a)]) (lenOf pd_5 rfl) rfl (by decide) (by decide) (Nat.le_of_ble_eq_true rfl) (by decide) (by decide) rfl rfl (pc' := 230) rfl d7_227 ?_
  rintro T76 _ _ ⟨rfl, rfl⟩ X77
  show Go p e below _ (T76.setTop (mkF m 230 #[rv a, iv cc, iv (1 : Int32), iv (0 : Int32), iv (0 : Int32)] [(.long (own_cd cc)), (.ref a)]))
  refine go_putF C X77 (C.w 22 rfl) Via.refl F66 E65 (Or.inl (C.w 23 rfl)) (C.w 9 rfl) ga (ty := .long) (by decide) rfl rfl (pc' := 233) rfl d7_230 (fun T79 h81 W82 X80 => ?_)
  have F83 := F66.same W82
  have E84 := E65.wr W82
  have F85 := F67.other W82 (Or.inr (slot_ne (Or.inl (C.w 25 rfl)) (Or.inl (C.w 23 rfl)) (by decide) (t := .boolean) (t' := .long) (by decide) (by decide)))
  have F86 := F64.other W82 (Or.inr (slot_ne (Or.inl (C.w 27 rfl)) (Or.inl (C.w 23 rfl)) (by decide) (t := .boolean) (t' := .long) (by decide) (by decide)))
  have F87 := F68.other W82 (Or.inr (slot_ne (Or.inl (C.w 29 rfl)) (Or.inl (C.w 23 rfl)) (by decide) (t := .boolean) (t' := .long) (by decide) (by decide)))
  have F88 := F69.other W82 (Or.inr (slot_ne (Or.inl (C.w 31 rfl)) (Or.inl (C.w 23 rfl)) (by decide) (t := .boolean) (t' := .long) (by decide) (by decide)))
  have F89 := F70.other W82 (Or.inr (slot_ne (Or.inl (C.w 33 rfl)) (Or.inl (C.w 23 rfl)) (by decide) (t := .boolean) (t' := .long) (by decide) (by decide)))
  have F90 := F71.other W82 (Or.inr (slot_ne (Or.inl (C.w 35 rfl)) (Or.inl (C.w 23 rfl)) (by decide) (t := .boolean) (t' := .long) (by decide) (by decide)))
  have F91 := F72.other W82 (Or.inr (slot_ne (Or.inl (C.w 37 rfl)) (Or.inl (C.w 23 rfl)) (by decide) (t := .boolean) (t' := .long) (by decide) (by decide)))
  have K92 := K73.wr W82 (Or.inl (List.mem_of_getElem? (i := 0) rfl))
  refine go_iconst C X80 234 rfl d7_233 (z := 1) rfl ?_
  refine go_istore C X80 236 rfl d7_234 #[rv a, iv cc, iv (1 : Int32), iv (0 : Int32), iv (1 : Int32)] rfl ?_
  refine go_iload C X80 238 rfl d7_236 rfl ?_
  exact go_retN C X80 (by simp) (z' := 1) rfl d7_238 ⟨rfl, K92, E84, F83, F85, F86, F87, F88, F89, F90, F91⟩ (by decide) (by decide)
theorem d6_73 : decode prog_44_method_8_code 73 = .ok (.iconst 1, 1) := by decide +kernel
theorem d6_74 : decode prog_44_method_8_code 74 = .ok (.goto 4, 3) := by decide +kernel
theorem ef_own_u6_81 (m : MethodId) (a : Addr) (cc : Int32)  : entryFrame m #[(.ref a), (.int cc)] 3 = mkF m 0 #[rv a, iv cc, un] [] := by
  first | (simp [entryFrame, mkF, argsToLocals, Value.category]; done) | rfl
set_option maxRecDepth 65536 in
set_option maxHeartbeats 40000000 in
theorem own_u6_81 (l : Launch) (Z : State) (a0 : Array Value) (hw : ∀ d ∈ tables_1, d.before a0 Z = true) (a : Addr) (cc : Int32)  (h : Heap) (n0 : Nat) (hn0 : Old Z n0 h) (hc : ((97 ≤ cc.toInt ∧ cc.toInt ≤ 122) ∨ (65 ≤ cc.toInt ∧ cc.toInt ≤ 90))) (E0 : Exa Z h a "com/example/plantilla/plantilla/UrlValue") (FF0 : Fld Z h a "com/example/plantilla/plantilla/UrlValue" "start" "J" (.long (0 : Int64))) (FF1 : Fld Z h a "com/example/plantilla/plantilla/UrlValue" "begun" "Z" (.int (0 : Int32))) (FF2 : Fld Z h a "com/example/plantilla/plantilla/UrlValue" "schemeLike" "Z" (.int (1 : Int32))) (FF3 : Fld Z h a "com/example/plantilla/plantilla/UrlValue" "delimited" "Z" (.int (0 : Int32))) (FF4 : Fld Z h a "com/example/plantilla/plantilla/UrlValue" "query" "Z" (.int (0 : Int32))) (FF5 : Fld Z h a "com/example/plantilla/plantilla/UrlValue" "reference" "Z" (.int (0 : Int32))) (FF6 : Fld Z h a "com/example/plantilla/plantilla/UrlValue" "holding" "Z" (.int (0 : Int32))) (FF7 : Fld Z h a "com/example/plantilla/plantilla/UrlValue" "referenceOpen" "Z" (.int (0 : Int32))) (ga : n0 ≤ a)  :
    Con l Z (⟨"com/example/plantilla/plantilla/UrlValue", "read", "(C)Z"⟩ : MethodName) prog_44_method_8_code 3 (some .boolean) ({ frames := 3, cells := 0, slots := 0, locals := 47 } : Room) #[(.ref a), (.int cc)] h n0 (fun v h' => v = some (.int (0 : Int32)) ∧ Keep h h' [a] ∧ Exa Z h' a "com/example/plantilla/plantilla/UrlValue" ∧ Fld Z h' a "com/example/plantilla/plantilla/UrlValue" "start" "J" (.long (own_cd cc)) ∧ Fld Z h' a "com/example/plantilla/plantilla/UrlValue" "begun" "Z" (.int (1 : Int32)) ∧ Fld Z h' a "com/example/plantilla/plantilla/UrlValue" "schemeLike" "Z" (.int (1 : Int32)) ∧ Fld Z h' a "com/example/plantilla/plantilla/UrlValue" "delimited" "Z" (.int (0 : Int32)) ∧ Fld Z h' a "com/example/plantilla/plantilla/UrlValue" "query" "Z" (.int (0 : Int32)) ∧ Fld Z h' a "com/example/plantilla/plantilla/UrlValue" "reference" "Z" (.int (0 : Int32)) ∧ Fld Z h' a "com/example/plantilla/plantilla/UrlValue" "holding" "Z" (.int (0 : Int32)) ∧ Fld Z h' a "com/example/plantilla/plantilla/UrlValue" "referenceOpen" "Z" (.int (0 : Int32))) := by
  refine con_of hw (plainFor_of_name pn_com_example_plantilla_plantilla_UrlValue) hn0 ?_
  intro p e s m below meth c T0 C X0
  refine Go.cast (congrArg T0.setTop (ef_own_u6_81 m a cc)) ?_
  refine go_aloadN C X0 1 rfl d6_0 rfl rfl ?_
  refine go_getF C X0 (C.w 34 rfl) Via.refl FF6 (pc' := 4) rfl d6_1 (fun T1 X2 => ?_)
  refine go_if_eq C X2 d6_4 (pc' := 7) (pc2 := 30) rfl (by decide) (by decide) (fun (c4 : (0 : Int32) = (0 : Int32)) => ?_) (fun (c4 : ¬ (0 : Int32) = (0 : Int32)) => False.elim (by first | omega | exact absurd c4 (by decide)))
  refine go_iconst C X2 31 rfl d6_30 (z := 0) rfl ?_
  refine go_istoreN C X2 32 rfl d6_31 #[rv a, iv cc, iv (0 : Int32)] rfl ?_
  refine go_iloadN C X2 33 rfl d6_32 rfl ?_
  refine go_if_eq C X2 d6_33 (pc' := 36) (pc2 := 40) rfl (by decide) (by decide) (fun (c33 : (0 : Int32) = (0 : Int32)) => ?_) (fun (c33 : ¬ (0 : Int32) = (0 : Int32)) => False.elim (by first | omega | exact absurd c33 (by decide)))
  refine go_aloadN C X2 41 rfl d6_40 rfl rfl ?_
  refine go_iloadN C X2 42 rfl d6_41 rfl ?_
  refine go_iconst C X2 43 rfl d6_42 (z := 1) rfl ?_
  refine go_private C X2 E0 (C.w 43 rfl) (C.w 44 rfl) (Jvm.Kit.selects_private (by decide) (C.w 9 rfl) (C.w 45 rfl) (C.w 44 rfl)) (C.w 45 rfl) (C.w 10 rfl) (C.w 46 rfl) (own_u7_82 l Z a0 C.ws a cc h n0 X2.old hc E0 FF0 FF1 FF2 FF3 FF4 FF5 FF6 FF7 ga ) (argsL := [(.int cc), (.int (1 : Int32))]) (rest := []) (lenOf pd_6 rfl) rfl (by decide) (by decide) (Nat.le_of_ble_eq_true rfl) (by decide) (by decide) rfl rfl (pc' := 46) rfl d6_43 ?_
  rintro T3 h5 _ ⟨rfl, Kq6, Eq6, Fq60, Fq61, Fq62, Fq63, Fq64, Fq65, Fq66, Fq67⟩ X4
  show Go p e below _ (T3.setTop (mkF m 46 #[rv a, iv cc, iv (0 : Int32)] [(.int (1 : Int32))]))
  have E7 := E0.keep Kq6
  have K8 := (Keep.refl h [a]).trans Kq6 (allS (Or.inl (List.mem_of_getElem? (i := 0) rfl)) all0)
  refine go_pop C X4 47 rfl d6_46 rfl ?_
  refine go_aloadN C X4 48 rfl d6_47 rfl rfl ?_
  refine go_dup C X4 49 rfl d6_48 rfl ?_
  refine go_getF C X4 (C.w 34 rfl) Via.refl Fq66 (pc' := 52) rfl d6_49 (fun T9 X10 => ?_)
  refine go_aloadN C X10 53 rfl d6_52 rfl rfl ?_
  refine go_getF C X10 (C.w 28 rfl) Via.refl Fq63 (pc' := 56) rfl d6_53 (fun T11 X12 => ?_)
  refine go_if_ne C X12 d6_56 (pc' := 59) (pc2 := 77) rfl (by decide) (by decide) (fun (c56 : ¬ (0 : Int32) = (0 : Int32)) => False.elim (by first | omega | exact absurd c56 (by decide))) (fun (c56 : (0 : Int32) = (0 : Int32)) => ?_)
  refine go_aloadN C X12 60 rfl d6_59 rfl rfl ?_
  refine go_getF C X12 (C.w 26 rfl) Via.refl Fq62 (pc' := 63) rfl d6_60 (fun T13 X14 => ?_)
  refine go_if_ne C X14 d6_63 (pc' := 66) (pc2 := 73) rfl (by decide) (by decide) (fun (c63 : ¬ (1 : Int32) = (0 : Int32)) => ?_) (fun (c63 : (1 : Int32) = (0 : Int32)) => False.elim (by first | omega | exact absurd c63 (by decide)))
  refine go_iconst C X14 74 rfl d6_73 (z := 1) rfl ?_
  refine go_goto C X14 d6_74 (pc' := 78) (by decide) (by decide) ?_
  refine go_iandL C X14 79 rfl d6_78 (z := (0)) rfl ?_
  refine go_putFN C X14 (C.w 34 rfl) Via.refl Fq66 Eq6 (Or.inl (C.w 35 rfl)) (C.w 9 rfl) ga (ty := .boolean) (by decide) (v' := (.int (0 : Int32))) rfl rfl (pc' := 82) rfl d6_79 (fun T15 h17 W18 X16 => ?_)
  have F19 := Fq66.same W18
  have E20 := Eq6.wr W18
  have F21 := Fq60.other W18 (Or.inr (slot_ne (Or.inl (C.w 23 rfl)) (Or.inl (C.w 35 rfl)) (by decide) (t := .long) (t' := .boolean) (by decide) (by decide)))
  have F22 := Fq61.other W18 (Or.inr (slot_ne (Or.inl (C.w 25 rfl)) (Or.inl (C.w 35 rfl)) (by decide) (t := .boolean) (t' := .boolean) (by decide) (by decide)))
  have F23 := Fq62.other W18 (Or.inr (slot_ne (Or.inl (C.w 27 rfl)) (Or.inl (C.w 35 rfl)) (by decide) (t := .boolean) (t' := .boolean) (by decide) (by decide)))
  have F24 := Fq63.other W18 (Or.inr (slot_ne (Or.inl (C.w 29 rfl)) (Or.inl (C.w 35 rfl)) (by decide) (t := .boolean) (t' := .boolean) (by decide) (by decide)))
  have F25 := Fq64.other W18 (Or.inr (slot_ne (Or.inl (C.w 31 rfl)) (Or.inl (C.w 35 rfl)) (by decide) (t := .boolean) (t' := .boolean) (by decide) (by decide)))
  have F26 := Fq65.other W18 (Or.inr (slot_ne (Or.inl (C.w 33 rfl)) (Or.inl (C.w 35 rfl)) (by decide) (t := .boolean) (t' := .boolean) (by decide) (by decide)))
  have F27 := Fq67.other W18 (Or.inr (slot_ne (Or.inl (C.w 37 rfl)) (Or.inl (C.w 35 rfl)) (by decide) (t := .boolean) (t' := .boolean) (by decide) (by decide)))
  have K28 := K8.wr W18 (Or.inl (List.mem_of_getElem? (i := 0) rfl))
  refine go_iloadN C X16 83 rfl d6_82 rfl ?_
  exact go_retN C X16 (by simp) (z' := 0) rfl d6_83 ⟨rfl, K28, E20, F21, F22, F23, F24, F25, F26, F19, F27⟩ (by decide) (by decide)
theorem d2_111 : decode method_4_code 111 = .ok (.invokevirtual 32, 3) := by decide +kernel
theorem d2_114 : decode method_4_code 114 = .ok (.pop, 1) := by decide +kernel
theorem d2_115 : decode method_4_code 115 = .ok (.goto 58, 3) := by decide +kernel
theorem d2_86 : decode method_4_code 86 = .ok (.aload_n 2, 1) := by decide +kernel
theorem d2_87 : decode method_4_code 87 = .ok (.bipush 38, 2) := by decide +kernel
theorem d7_58 : decode prog_44_method_13_code 58 = .ok (.iconst 1, 1) := by decide +kernel
theorem d7_59 : decode prog_44_method_13_code 59 = .ok (.goto 4, 3) := by decide +kernel
theorem d7_183 : decode prog_44_method_13_code 183 = .ok (.iconst 1, 1) := by decide +kernel
theorem d7_184 : decode prog_44_method_13_code 184 = .ok (.goto 4, 3) := by decide +kernel
theorem ef_own_p11_85 (m : MethodId)   : entryFrame m #[(.int (38 : Int32))] 1 = mkF m 0 #[iv (38 : Int32)] [] := by
  first | (simp [entryFrame, mkF, argsToLocals, Value.category]; done) | rfl
set_option maxRecDepth 65536 in
set_option maxHeartbeats 40000000 in
theorem own_p11_85 (l : Launch) (Z : State) (a0 : Array Value) (hw : ∀ d ∈ tables_1, d.before a0 Z = true)   (h : Heap) (n0 : Nat) (hn0 : Old Z n0 h)  :
    Con l Z (⟨"com/example/plantilla/plantilla/UrlValue", "isAsciiLetter", "(C)Z"⟩ : MethodName) prog_44_method_15_code 1 (some .boolean) ({ frames := 0, cells := 0, slots := 0, locals := 0 } : Room) #[(.int (38 : Int32))] h n0 (fun v h' => v = some (.int (0 : Int32)) ∧ h = h') := by
  refine con_of hw (plainFor_of_name pn_com_example_plantilla_plantilla_UrlValue) hn0 ?_
  intro p e s m below meth c T0 C X0
  refine Go.cast (congrArg T0.setTop (ef_own_p11_85 m )) ?_
  refine go_iloadN C X0 1 rfl d11_0 rfl ?_
  refine go_bipush C X0 3 rfl d11_1 (z := 97) rfl ?_
  refine go_icmp_lt C X0 d11_3 (pc' := 6) (pc2 := 12) rfl (by decide) (by decide) (fun (c3 : 38 < 97) => ?_) (fun (c3 : 97 ≤ 38) => False.elim (by first | omega | exact absurd c3 (by decide)))
  refine go_iloadN C X0 13 rfl d11_12 rfl ?_
  refine go_bipush C X0 15 rfl d11_13 (z := 65) rfl ?_
  refine go_icmp_lt C X0 d11_15 (pc' := 18) (pc2 := 28) rfl (by decide) (by decide) (fun (c15 : 38 < 65) => ?_) (fun (c15 : 65 ≤ 38) => False.elim (by first | omega | exact absurd c15 (by decide)))
  refine go_iconst C X0 29 rfl d11_28 (z := 0) rfl ?_
  exact go_retN C X0 (by simp) (z' := 0) rfl d11_29 ⟨rfl, rfl⟩ (by decide) (by decide)
theorem ef_own_p13_87 (m : MethodId)   : entryFrame m #[(.int (38 : Int32))] 2 = mkF m 0 #[iv (38 : Int32), un] [] := by
  first | (simp [entryFrame, mkF, argsToLocals, Value.category]; done) | rfl
set_option maxRecDepth 65536 in
set_option maxHeartbeats 40000000 in
theorem own_p13_87 (l : Launch) (Z : State) (a0 : Array Value) (hw : ∀ d ∈ tables_1, d.before a0 Z = true)   (h : Heap) (n0 : Nat) (hn0 : Old Z n0 h)  :
    Con l Z (⟨"com/example/plantilla/plantilla/PackedName", "codeOf", "(C)I"⟩ : MethodName) prog_35_method_5_code 2 (some .int) ({ frames := 0, cells := 0, slots := 0, locals := 0 } : Room) #[(.int (38 : Int32))] h n0 (fun v h' => v = some (.int (0 : Int32)) ∧ h = h') := by
  refine con_of hw (plainFor_of_name pn_com_example_plantilla_plantilla_PackedName) hn0 ?_
  intro p e s m below meth c T0 C X0
  refine Go.cast (congrArg T0.setTop (ef_own_p13_87 m )) ?_
  refine go_iloadN C X0 1 rfl d13_0 rfl ?_
  refine go_bipush C X0 3 rfl d13_1 (z := 97) rfl ?_
  refine go_icmp_lt C X0 d13_3 (pc' := 6) (pc2 := 22) rfl (by decide) (by decide) (fun (c3 : 38 < 97) => ?_) (fun (c3 : 97 ≤ 38) => False.elim (by first | omega | exact absurd c3 (by decide)))
  refine go_iloadN C X0 23 rfl d13_22 rfl ?_
  refine go_bipush C X0 25 rfl d13_23 (z := 65) rfl ?_
  refine go_icmp_lt C X0 d13_25 (pc' := 28) (pc2 := 44) rfl (by decide) (by decide) (fun (c25 : 38 < 65) => ?_) (fun (c25 : 65 ≤ 38) => False.elim (by first | omega | exact absurd c25 (by decide)))
  refine go_iloadN C X0 45 rfl d13_44 rfl ?_
  refine go_bipush C X0 47 rfl d13_45 (z := 48) rfl ?_
  refine go_icmp_lt C X0 d13_47 (pc' := 50) (pc2 := 67) rfl (by decide) (by decide) (fun (c47 : 38 < 48) => ?_) (fun (c47 : 48 ≤ 38) => False.elim (by first | omega | exact absurd c47 (by decide)))
  refine go_iloadN C X0 68 rfl d13_67 rfl ?_
  refine go_lookMiss C X0 d13_68 (by first | decide | (simp; done)) (by first | decide | rfl | (simp; done)) (pc2 := 132) (by decide) (by decide) ?_
  refine go_iconst C X0 133 rfl d13_132 (z := 0) rfl ?_
  refine go_istoreN C X0 134 rfl d13_133 #[iv (38 : Int32), iv (0 : Int32)] rfl ?_
  refine go_iloadN C X0 135 rfl d13_134 rfl ?_
  exact go_retI C X0 d13_135 ⟨rfl, rfl⟩ (by decide) (by decide)
theorem ef_own_p12_86 (m : MethodId)   : entryFrame m #[(.long (0 : Int64)), (.int (38 : Int32))] 6 = mkF m 0 #[jv (0 : Int64), sc, iv (38 : Int32), un, un, un] [] := by
  first | (simp [entryFrame, mkF, argsToLocals, Value.category]; done) | rfl
set_option maxRecDepth 65536 in
set_option maxHeartbeats 40000000 in
theorem own_p12_86 (l : Launch) (Z : State) (a0 : Array Value) (hw : ∀ d ∈ tables_1, d.before a0 Z = true)   (h : Heap) (n0 : Nat) (hn0 : Old Z n0 h)  :
    Con l Z (⟨"com/example/plantilla/plantilla/PackedName", "appended", "(JC)J"⟩ : MethodName) prog_35_method_2_code 6 (some .long) ({ frames := 1, cells := 0, slots := 0, locals := 13 } : Room) #[(.long (0 : Int64)), (.int (38 : Int32))] h n0 (fun v h' => v = some (.long (-1 : Int64)) ∧ h = h') := by
  refine con_of hw (plainFor_of_name pn_com_example_plantilla_plantilla_PackedName) hn0 ?_
  intro p e s m below meth c T0 C X0
  refine Go.cast (congrArg T0.setTop (ef_own_p12_86 m )) ?_
  refine go_iloadN C X0 1 rfl d12_0 rfl ?_
  refine go_callS C X0 (C.w 67 rfl) (C.w 68 rfl) (C.w 65 rfl) (C.w 69 rfl) (own_p13_87 l Z a0 C.ws  h n0 X0.old ) (argsL := [(.int (38 : Int32))]) (rest := []) (lenOf pd_4 rfl) rfl (by decide) (by decide) (Nat.le_of_ble_eq_true rfl) (by decide) (by decide) rfl rfl (pc' := 4) rfl d12_1 ?_
  rintro T1 _ _ ⟨rfl, rfl⟩ X2
  show Go p e below _ (T1.setTop (mkF m 4 #[jv (0 : Int64), sc, iv (38 : Int32), un, un, un] [(.int (0 : Int32))]))
  refine go_i2l C X2 5 rfl d12_4 ?_
  show Go p e below _ (T1.setTop (mkF m 5 #[jv (0 : Int64), sc, iv (38 : Int32), un, un, un] [(.long (0 : Int64))]))
  refine go_lstoreN C X2 6 rfl d12_5 #[jv (0 : Int64), sc, iv (38 : Int32), jv (0 : Int64), sc, un] rfl ?_
  refine go_lloadN C X2 7 rfl d12_6 rfl ?_
  refine go_ldc2Long C X2 (C.w 70 rfl) (pc' := 10) rfl d12_7 ?_
  refine go_lif_lt C X2 (pc1 := 11) rfl d12_10 d12_11 (pc' := 14) (pc2 := 18) rfl (by decide) (by decide) (fun (c11 : 0 < 18014398509481984) => ?_) (fun (c11 : 18014398509481984 ≤ 0) => False.elim (by first | omega | exact absurd c11 (by decide)))
  refine go_iconst C X2 19 rfl d12_18 (z := 0) rfl ?_
  refine go_istore C X2 21 rfl d12_19 #[jv (0 : Int64), sc, iv (38 : Int32), jv (0 : Int64), sc, iv (0 : Int32)] rfl ?_
  refine go_lloadN C X2 22 rfl d12_21 rfl ?_
  refine go_ldc2Long C X2 (C.w 71 rfl) (pc' := 25) rfl d12_22 ?_
  refine go_lif_eq C X2 (pc1 := 26) rfl d12_25 d12_26 (pc' := 29) (pc2 := 40) rfl (by decide) (by decide) (fun (c26 : (0 : Int64) = (-1 : Int64)) => False.elim (by first | omega | exact absurd c26 (by decide))) (fun (c26 : ¬ (0 : Int64) = (-1 : Int64)) => ?_)
  refine go_lloadN C X2 30 rfl d12_29 rfl ?_
  refine go_lconst C X2 31 rfl d12_30 (z := 0) rfl ?_
  refine go_lif_eq C X2 (pc1 := 32) rfl d12_31 d12_32 (pc' := 35) (pc2 := 40) rfl (by decide) (by decide) (fun (c32 : (0 : Int64) = (0 : Int64)) => ?_) (fun (c32 : ¬ (0 : Int64) = (0 : Int64)) => False.elim (by first | omega | exact absurd c32 (by decide)))
  refine go_ldc2Long C X2 (C.w 71 rfl) (pc' := 43) rfl d12_40 ?_
  refine go_goto C X2 d12_43 (pc' := 52) (by decide) (by decide) ?_
  exact go_retJ C X2 d12_52 ⟨rfl, rfl⟩ (by decide) (by decide)
theorem ef_own_u7_84 (m : MethodId) (a : Addr)  : entryFrame m #[(.ref a), (.int (38 : Int32)), (.int (1 : Int32))] 5 = mkF m 0 #[rv a, iv (38 : Int32), iv (1 : Int32), un, un] [] := by
  first | (simp [entryFrame, mkF, argsToLocals, Value.category]; done) | rfl
set_option maxRecDepth 65536 in
set_option maxHeartbeats 40000000 in
theorem own_u7_84 (l : Launch) (Z : State) (a0 : Array Value) (hw : ∀ d ∈ tables_1, d.before a0 Z = true) (a : Addr)  (h : Heap) (n0 : Nat) (hn0 : Old Z n0 h) (E0 : Exa Z h a "com/example/plantilla/plantilla/UrlValue") (FF0 : Fld Z h a "com/example/plantilla/plantilla/UrlValue" "start" "J" (.long (0 : Int64))) (FF1 : Fld Z h a "com/example/plantilla/plantilla/UrlValue" "begun" "Z" (.int (0 : Int32))) (FF2 : Fld Z h a "com/example/plantilla/plantilla/UrlValue" "schemeLike" "Z" (.int (1 : Int32))) (FF3 : Fld Z h a "com/example/plantilla/plantilla/UrlValue" "delimited" "Z" (.int (0 : Int32))) (FF4 : Fld Z h a "com/example/plantilla/plantilla/UrlValue" "query" "Z" (.int (0 : Int32))) (FF5 : Fld Z h a "com/example/plantilla/plantilla/UrlValue" "reference" "Z" (.int (0 : Int32))) (FF6 : Fld Z h a "com/example/plantilla/plantilla/UrlValue" "holding" "Z" (.int (0 : Int32))) (FF7 : Fld Z h a "com/example/plantilla/plantilla/UrlValue" "referenceOpen" "Z" (.int (0 : Int32))) (ga : n0 ≤ a)  :
    Con l Z (⟨"com/example/plantilla/plantilla/UrlValue", "take", "(CZ)Z"⟩ : MethodName) prog_44_method_13_code 5 (some .boolean) ({ frames := 2, cells := 0, slots := 0, locals := 31 } : Room) #[(.ref a), (.int (38 : Int32)), (.int (1 : Int32))] h n0 (fun v h' => v = some (.int (1 : Int32)) ∧ Keep h h' [a] ∧ Exa Z h' a "com/example/plantilla/plantilla/UrlValue" ∧ Fld Z h' a "com/example/plantilla/plantilla/UrlValue" "start" "J" (.long (-1 : Int64)) ∧ Fld Z h' a "com/example/plantilla/plantilla/UrlValue" "begun" "Z" (.int (1 : Int32)) ∧ Fld Z h' a "com/example/plantilla/plantilla/UrlValue" "schemeLike" "Z" (.int (0 : Int32)) ∧ Fld Z h' a "com/example/plantilla/plantilla/UrlValue" "delimited" "Z" (.int (0 : Int32)) ∧ Fld Z h' a "com/example/plantilla/plantilla/UrlValue" "query" "Z" (.int (0 : Int32)) ∧ Fld Z h' a "com/example/plantilla/plantilla/UrlValue" "reference" "Z" (.int (1 : Int32)) ∧ Fld Z h' a "com/example/plantilla/plantilla/UrlValue" "holding" "Z" (.int (0 : Int32)) ∧ Fld Z h' a "com/example/plantilla/plantilla/UrlValue" "referenceOpen" "Z" (.int (1 : Int32))) := by
  refine con_of hw (plainFor_of_name pn_com_example_plantilla_plantilla_UrlValue) hn0 ?_
  intro p e s m below meth c T0 C X0
  refine Go.cast (congrArg T0.setTop (ef_own_u7_84 m a)) ?_
  refine go_aloadN C X0 1 rfl d7_0 rfl rfl ?_
  refine go_getF C X0 (C.w 36 rfl) Via.refl FF7 (pc' := 4) rfl d7_1 (fun T1 X2 => ?_)
  refine go_if_eq C X2 d7_4 (pc' := 7) (pc2 := 18) rfl (by decide) (by decide) (fun (c4 : (0 : Int32) = (0 : Int32)) => ?_) (fun (c4 : ¬ (0 : Int32) = (0 : Int32)) => False.elim (by first | omega | exact absurd c4 (by decide)))
  refine go_iconst C X2 19 rfl d7_18 (z := 0) rfl ?_
  refine go_istoreN C X2 20 rfl d7_19 #[rv a, iv (38 : Int32), iv (1 : Int32), iv (0 : Int32), un] rfl ?_
  refine go_aloadN C X2 21 rfl d7_20 rfl rfl ?_
  refine go_iloadN C X2 22 rfl d7_21 rfl ?_
  refine go_if_eq C X2 d7_22 (pc' := 25) (pc2 := 62) rfl (by decide) (by decide) (fun (c22 : (1 : Int32) = (0 : Int32)) => False.elim (by first | omega | exact absurd c22 (by decide))) (fun (c22 : ¬ (1 : Int32) = (0 : Int32)) => ?_)
  refine go_iloadN C X2 26 rfl d7_25 rfl ?_
  refine go_bipush C X2 28 rfl d7_26 (z := 38) rfl ?_
  refine go_icmp_eq C X2 d7_28 (pc' := 31) (pc2 := 58) rfl (by decide) (by decide) (fun (c28 : (38 : Int32) = (38 : Int32)) => ?_) (fun (c28 : ¬ (38 : Int32) = (38 : Int32)) => False.elim (by first | omega | exact absurd c28 (by decide)))
  refine go_iconst C X2 59 rfl d7_58 (z := 1) rfl ?_
  refine go_goto C X2 d7_59 (pc' := 63) (by decide) (by decide) ?_
  refine go_putFN C X2 (C.w 36 rfl) Via.refl FF7 E0 (Or.inl (C.w 37 rfl)) (C.w 9 rfl) ga (ty := .boolean) (by decide) (v' := (.int (1 : Int32))) rfl rfl (pc' := 66) rfl d7_63 (fun T3 h5 W6 X4 => ?_)
  have F7 := FF7.same W6
  have E8 := E0.wr W6
  have F9 := FF0.other W6 (Or.inr (slot_ne (Or.inl (C.w 23 rfl)) (Or.inl (C.w 37 rfl)) (by decide) (t := .long) (t' := .boolean) (by decide) (by decide)))
  have F10 := FF1.other W6 (Or.inr (slot_ne (Or.inl (C.w 25 rfl)) (Or.inl (C.w 37 rfl)) (by decide) (t := .boolean) (t' := .boolean) (by decide) (by decide)))
  have F11 := FF2.other W6 (Or.inr (slot_ne (Or.inl (C.w 27 rfl)) (Or.inl (C.w 37 rfl)) (by decide) (t := .boolean) (t' := .boolean) (by decide) (by decide)))
  have F12 := FF3.other W6 (Or.inr (slot_ne (Or.inl (C.w 29 rfl)) (Or.inl (C.w 37 rfl)) (by decide) (t := .boolean) (t' := .boolean) (by decide) (by decide)))
  have F13 := FF4.other W6 (Or.inr (slot_ne (Or.inl (C.w 31 rfl)) (Or.inl (C.w 37 rfl)) (by decide) (t := .boolean) (t' := .boolean) (by decide) (by decide)))
  have F14 := FF5.other W6 (Or.inr (slot_ne (Or.inl (C.w 33 rfl)) (Or.inl (C.w 37 rfl)) (by decide) (t := .boolean) (t' := .boolean) (by decide) (by decide)))
  have F15 := FF6.other W6 (Or.inr (slot_ne (Or.inl (C.w 35 rfl)) (Or.inl (C.w 37 rfl)) (by decide) (t := .boolean) (t' := .boolean) (by decide) (by decide)))
  have K16 := (Keep.refl h [a]).wr W6 (Or.inl (List.mem_of_getElem? (i := 0) rfl))
  refine go_iloadN C X4 67 rfl d7_66 rfl ?_
  refine go_bipush C X4 69 rfl d7_67 (z := 9) rfl ?_
  refine go_icmp_eq C X4 d7_69 (pc' := 72) (pc2 := 97) rfl (by decide) (by decide) (fun (c69 : (38 : Int32) = (9 : Int32)) => False.elim (by first | omega | exact absurd c69 (by decide))) (fun (c69 : ¬ (38 : Int32) = (9 : Int32)) => ?_)
  refine go_iloadN C X4 73 rfl d7_72 rfl ?_
  refine go_bipush C X4 75 rfl d7_73 (z := 10) rfl ?_
  refine go_icmp_eq C X4 d7_75 (pc' := 78) (pc2 := 97) rfl (by decide) (by decide) (fun (c75 : (38 : Int32) = (10 : Int32)) => False.elim (by first | omega | exact absurd c75 (by decide))) (fun (c75 : ¬ (38 : Int32) = (10 : Int32)) => ?_)
  refine go_iloadN C X4 79 rfl d7_78 rfl ?_
  refine go_bipush C X4 81 rfl d7_79 (z := 13) rfl ?_
  refine go_icmp_eq C X4 d7_81 (pc' := 84) (pc2 := 97) rfl (by decide) (by decide) (fun (c81 : (38 : Int32) = (13 : Int32)) => False.elim (by first | omega | exact absurd c81 (by decide))) (fun (c81 : ¬ (38 : Int32) = (13 : Int32)) => ?_)
  refine go_aloadN C X4 85 rfl d7_84 rfl rfl ?_
  refine go_getF C X4 (C.w 24 rfl) Via.refl F10 (pc' := 88) rfl d7_85 (fun T17 X18 => ?_)
  refine go_if_ne C X18 d7_88 (pc' := 91) (pc2 := 99) rfl (by decide) (by decide) (fun (c88 : ¬ (0 : Int32) = (0 : Int32)) => False.elim (by first | omega | exact absurd c88 (by decide))) (fun (c88 : (0 : Int32) = (0 : Int32)) => ?_)
  refine go_iloadN C X18 92 rfl d7_91 rfl ?_
  refine go_bipush C X18 94 rfl d7_92 (z := 32) rfl ?_
  refine go_icmp_gt C X18 d7_94 (pc' := 97) (pc2 := 99) rfl (by decide) (by decide) (fun (c94 : 32 < 38) => ?_) (fun (c94 : 38 ≤ 32) => False.elim (by first | omega | exact absurd c94 (by decide)))
  refine go_aloadN C X18 100 rfl d7_99 rfl rfl ?_
  refine go_iconst C X18 101 rfl d7_100 (z := 1) rfl ?_
  refine go_putFN C X18 (C.w 24 rfl) Via.refl F10 E8 (Or.inl (C.w 25 rfl)) (C.w 9 rfl) ga (ty := .boolean) (by decide) (v' := (.int (1 : Int32))) rfl rfl (pc' := 104) rfl d7_101 (fun T19 h21 W22 X20 => ?_)
  have F23 := F10.same W22
  have E24 := E8.wr W22
  have F25 := F9.other W22 (Or.inr (slot_ne (Or.inl (C.w 23 rfl)) (Or.inl (C.w 25 rfl)) (by decide) (t := .long) (t' := .boolean) (by decide) (by decide)))
  have F26 := F11.other W22 (Or.inr (slot_ne (Or.inl (C.w 27 rfl)) (Or.inl (C.w 25 rfl)) (by decide) (t := .boolean) (t' := .boolean) (by decide) (by decide)))
  have F27 := F12.other W22 (Or.inr (slot_ne (Or.inl (C.w 29 rfl)) (Or.inl (C.w 25 rfl)) (by decide) (t := .boolean) (t' := .boolean) (by decide) (by decide)))
  have F28 := F13.other W22 (Or.inr (slot_ne (Or.inl (C.w 31 rfl)) (Or.inl (C.w 25 rfl)) (by decide) (t := .boolean) (t' := .boolean) (by decide) (by decide)))
  have F29 := F14.other W22 (Or.inr (slot_ne (Or.inl (C.w 33 rfl)) (Or.inl (C.w 25 rfl)) (by decide) (t := .boolean) (t' := .boolean) (by decide) (by decide)))
  have F30 := F15.other W22 (Or.inr (slot_ne (Or.inl (C.w 35 rfl)) (Or.inl (C.w 25 rfl)) (by decide) (t := .boolean) (t' := .boolean) (by decide) (by decide)))
  have F31 := F7.other W22 (Or.inr (slot_ne (Or.inl (C.w 37 rfl)) (Or.inl (C.w 25 rfl)) (by decide) (t := .boolean) (t' := .boolean) (by decide) (by decide)))
  have K32 := K16.wr W22 (Or.inl (List.mem_of_getElem? (i := 0) rfl))
  refine go_iconst C X20 105 rfl d7_104 (z := 0) rfl ?_
  refine go_istore C X20 107 rfl d7_105 #[rv a, iv (38 : Int32), iv (1 : Int32), iv (0 : Int32), iv (0 : Int32)] rfl ?_
  refine go_iloadN C X20 108 rfl d7_107 rfl ?_
  refine go_bipush C X20 110 rfl d7_108 (z := 63) rfl ?_
  refine go_icmp_eq C X20 d7_110 (pc' := 113) (pc2 := 123) rfl (by decide) (by decide) (fun (c110 : (38 : Int32) = (63 : Int32)) => False.elim (by first | omega | exact absurd c110 (by decide))) (fun (c110 : ¬ (38 : Int32) = (63 : Int32)) => ?_)
  refine go_iloadN C X20 114 rfl d7_113 rfl ?_
  refine go_bipush C X20 116 rfl d7_114 (z := 35) rfl ?_
  refine go_icmp_ne C X20 d7_116 (pc' := 119) (pc2 := 141) rfl (by decide) (by decide) (fun (c116 : ¬ (38 : Int32) = (35 : Int32)) => ?_) (fun (c116 : (38 : Int32) = (35 : Int32)) => False.elim (by first | omega | exact absurd c116 (by decide)))
  refine go_iloadN C X20 142 rfl d7_141 rfl ?_
  refine go_bipush C X20 144 rfl d7_142 (z := 58) rfl ?_
  refine go_icmp_eq C X20 d7_144 (pc' := 147) (pc2 := 153) rfl (by decide) (by decide) (fun (c144 : (38 : Int32) = (58 : Int32)) => False.elim (by first | omega | exact absurd c144 (by decide))) (fun (c144 : ¬ (38 : Int32) = (58 : Int32)) => ?_)
  refine go_iloadN C X20 148 rfl d7_147 rfl ?_
  refine go_bipush C X20 150 rfl d7_148 (z := 47) rfl ?_
  refine go_icmp_ne C X20 d7_150 (pc' := 153) (pc2 := 161) rfl (by decide) (by decide) (fun (c150 : ¬ (38 : Int32) = (47 : Int32)) => ?_) (fun (c150 : (38 : Int32) = (47 : Int32)) => False.elim (by first | omega | exact absurd c150 (by decide)))
  refine go_aloadN C X20 162 rfl d7_161 rfl rfl ?_
  refine go_getF C X20 (C.w 28 rfl) Via.refl F27 (pc' := 165) rfl d7_162 (fun T33 X34 => ?_)
  refine go_if_ne C X34 d7_165 (pc' := 168) (pc2 := 236) rfl (by decide) (by decide) (fun (c165 : ¬ (0 : Int32) = (0 : Int32)) => False.elim (by first | omega | exact absurd c165 (by decide))) (fun (c165 : (0 : Int32) = (0 : Int32)) => ?_)
  refine go_aloadN C X34 169 rfl d7_168 rfl rfl ?_
  refine go_dup C X34 170 rfl d7_169 rfl ?_
  refine go_getF C X34 (C.w 32 rfl) Via.refl F29 (pc' := 173) rfl d7_170 (fun T35 X36 => ?_)
  refine go_iloadN C X36 174 rfl d7_173 rfl ?_
  refine go_if_eq C X36 d7_174 (pc' := 177) (pc2 := 187) rfl (by decide) (by decide) (fun (c174 : (1 : Int32) = (0 : Int32)) => False.elim (by first | omega | exact absurd c174 (by decide))) (fun (c174 : ¬ (1 : Int32) = (0 : Int32)) => ?_)
  refine go_iloadN C X36 178 rfl d7_177 rfl ?_
  refine go_bipush C X36 180 rfl d7_178 (z := 38) rfl ?_
  refine go_icmp_ne C X36 d7_180 (pc' := 183) (pc2 := 187) rfl (by decide) (by decide) (fun (c180 : ¬ (38 : Int32) = (38 : Int32)) => False.elim (by first | omega | exact absurd c180 (by decide))) (fun (c180 : (38 : Int32) = (38 : Int32)) => ?_)
  refine go_iconst C X36 184 rfl d7_183 (z := 1) rfl ?_
  refine go_goto C X36 d7_184 (pc' := 188) (by decide) (by decide) ?_
  refine go_iorL C X36 189 rfl d7_188 (z := (1)) rfl ?_
  refine go_putFN C X36 (C.w 32 rfl) Via.refl F29 E24 (Or.inl (C.w 33 rfl)) (C.w 9 rfl) ga (ty := .boolean) (by decide) (v' := (.int (1 : Int32))) rfl rfl (pc' := 192) rfl d7_189 (fun T37 h39 W40 X38 => ?_)
  have F41 := F29.same W40
  have E42 := E24.wr W40
  have F43 := F25.other W40 (Or.inr (slot_ne (Or.inl (C.w 23 rfl)) (Or.inl (C.w 33 rfl)) (by decide) (t := .long) (t' := .boolean) (by decide) (by decide)))
  have F44 := F23.other W40 (Or.inr (slot_ne (Or.inl (C.w 25 rfl)) (Or.inl (C.w 33 rfl)) (by decide) (t := .boolean) (t' := .boolean) (by decide) (by decide)))
  have F45 := F26.other W40 (Or.inr (slot_ne (Or.inl (C.w 27 rfl)) (Or.inl (C.w 33 rfl)) (by decide) (t := .boolean) (t' := .boolean) (by decide) (by decide)))
  have F46 := F27.other W40 (Or.inr (slot_ne (Or.inl (C.w 29 rfl)) (Or.inl (C.w 33 rfl)) (by decide) (t := .boolean) (t' := .boolean) (by decide) (by decide)))
  have F47 := F28.other W40 (Or.inr (slot_ne (Or.inl (C.w 31 rfl)) (Or.inl (C.w 33 rfl)) (by decide) (t := .boolean) (t' := .boolean) (by decide) (by decide)))
  have F48 := F30.other W40 (Or.inr (slot_ne (Or.inl (C.w 35 rfl)) (Or.inl (C.w 33 rfl)) (by decide) (t := .boolean) (t' := .boolean) (by decide) (by decide)))
  have F49 := F31.other W40 (Or.inr (slot_ne (Or.inl (C.w 37 rfl)) (Or.inl (C.w 33 rfl)) (by decide) (t := .boolean) (t' := .boolean) (by decide) (by decide)))
  have K50 := K32.wr W40 (Or.inl (List.mem_of_getElem? (i := 0) rfl))
  refine go_aloadN C X38 193 rfl d7_192 rfl rfl ?_
  refine go_dup C X38 194 rfl d7_193 rfl ?_
  refine go_getF C X38 (C.w 26 rfl) Via.refl F45 (pc' := 197) rfl d7_194 (fun T51 X52 => ?_)
  refine go_aloadN C X52 198 rfl d7_197 rfl rfl ?_
  refine go_getF C X52 (C.w 22 rfl) Via.refl F43 (pc' := 201) rfl d7_198 (fun T53 X54 => ?_)
  refine go_lconst C X54 202 rfl d7_201 (z := 0) rfl ?_
  refine go_lif_ne C X54 (pc1 := 203) rfl d7_202 d7_203 (pc' := 206) (pc2 := 213) rfl (by decide) (by decide) (fun (c203 : ¬ (0 : Int64) = (0 : Int64)) => False.elim (by first | omega | exact absurd c203 (by decide))) (fun (c203 : (0 : Int64) = (0 : Int64)) => ?_)
  refine go_iloadN C X54 207 rfl d7_206 rfl ?_
  refine go_callS C X54 (C.w 60 rfl) (C.w 61 rfl) (C.w 10 rfl) (C.w 62 rfl) (own_p11_85 l Z a0 C.ws  h39 n0 X54.old ) (argsL := [(.int (38 : Int32))]) (rest := [(.int (1 : Int32)), (.ref a)]) (lenOf pd_0 rfl) rfl (by decide) (by decide) (Nat.le_of_ble_eq_true rfl) (by decide) (by decide) rfl rfl (pc' := 210) rfl d7_207 ?_
  rintro T55 _ _ ⟨rfl, rfl⟩ X56
  show Go p e below _ (T55.setTop (mkF m 210 #[rv a, iv (38 : Int32), iv (1 : Int32), iv (0 : Int32), iv (0 : Int32)] [(.int (0 : Int32)), (.int (1 : Int32)), (.ref a)]))
  refine go_goto C X56 d7_210 (pc' := 217) (by decide) (by decide) ?_
  refine go_iandL C X56 218 rfl d7_217 (z := (0)) rfl ?_
  refine go_putFN C X56 (C.w 26 rfl) Via.refl F45 E42 (Or.inl (C.w 27 rfl)) (C.w 9 rfl) ga (ty := .boolean) (by decide) (v' := (.int (0 : Int32))) rfl rfl (pc' := 221) rfl d7_218 (fun T58 h60 W61 X59 => ?_)
  have F62 := F45.same W61
  have E63 := E42.wr W61
  have F64 := F43.other W61 (Or.inr (slot_ne (Or.inl (C.w 23 rfl)) (Or.inl (C.w 27 rfl)) (by decide) (t := .long) (t' := .boolean) (by decide) (by decide)))
  have F65 := F44.other W61 (Or.inr (slot_ne (Or.inl (C.w 25 rfl)) (Or.inl (C.w 27 rfl)) (by decide) (t := .boolean) (t' := .boolean) (by decide) (by decide)))
  have F66 := F46.other W61 (Or.inr (slot_ne (Or.inl (C.w 29 rfl)) (Or.inl (C.w 27 rfl)) (by decide) (t := .boolean) (t' := .boolean) (by decide) (by decide)))
  have F67 := F47.other W61 (Or.inr (slot_ne (Or.inl (C.w 31 rfl)) (Or.inl (C.w 27 rfl)) (by decide) (t := .boolean) (t' := .boolean) (by decide) (by decide)))
  have F68 := F41.other W61 (Or.inr (slot_ne (Or.inl (C.w 33 rfl)) (Or.inl (C.w 27 rfl)) (by decide) (t := .boolean) (t' := .boolean) (by decide) (by decide)))
  have F69 := F48.other W61 (Or.inr (slot_ne (Or.inl (C.w 35 rfl)) (Or.inl (C.w 27 rfl)) (by decide) (t := .boolean) (t' := .boolean) (by decide) (by decide)))
  have F70 := F49.other W61 (Or.inr (slot_ne (Or.inl (C.w 37 rfl)) (Or.inl (C.w 27 rfl)) (by decide) (t := .boolean) (t' := .boolean) (by decide) (by decide)))
  have K71 := K50.wr W61 (Or.inl (List.mem_of_getElem? (i := 0) rfl))
  refine go_aloadN C X59 222 rfl d7_221 rfl rfl ?_
  refine go_aloadN C X59 223 rfl d7_222 rfl rfl ?_
  refine go_getF C X59 (C.w 22 rfl) Via.refl F64 (pc' := 226) rfl d7_223 (fun T72 X73 => ?_)
  refine go_iloadN C X73 227 rfl d7_226 rfl ?_
  refine go_callS C X73 (C.w 63 rfl) (C.w 64 rfl) (C.w 65 rfl) (C.w 66 rfl) (own_p12_86 l Z a0 C.ws  h60 n0 X73.old ) (argsL := [(.long (0 : Int64)), (.int (38 : Int32))]) (rest := [(.ref a)]) (lenOf pd_5 rfl) rfl (by decide) (by decide) (Nat.le_of_ble_eq_true rfl) (by decide) (by decide) rfl rfl (pc' := 230) rfl d7_227 ?_
  rintro T74 _ _ ⟨rfl, rfl⟩ X75
  show Go p e below _ (T74.setTop (mkF m 230 #[rv a, iv (38 : Int32), iv (1 : Int32), iv (0 : Int32), iv (0 : Int32)] [(.long (-1 : Int64)), (.ref a)]))
  refine go_putF C X75 (C.w 22 rfl) Via.refl F64 E63 (Or.inl (C.w 23 rfl)) (C.w 9 rfl) ga (ty := .long) (by decide) rfl rfl (pc' := 233) rfl d7_230 (fun T77 h79 W80 X78 => ?_)
  have F81 := F64.same W80
  have E82 := E63.wr W80
  have F83 := F65.other W80 (Or.inr (slot_ne (Or.inl (C.w 25 rfl)) (Or.inl (C.w 23 rfl)) (by decide) (t := .boolean) (t' := .long) (by decide) (by decide)))
  have F84 := F62.other W80 (Or.inr (slot_ne (Or.inl (C.w 27 rfl)) (Or.inl (C.w 23 rfl)) (by decide) (t := .boolean) (t' := .long) (by decide) (by decide)))
  have F85 := F66.other W80 (Or.inr (slot_ne (Or.inl (C.w 29 rfl)) (Or.inl (C.w 23 rfl)) (by decide) (t := .boolean) (t' := .long) (by decide) (by decide)))
  have F86 := F67.other W80 (Or.inr (slot_ne (Or.inl (C.w 31 rfl)) (Or.inl (C.w 23 rfl)) (by decide) (t := .boolean) (t' := .long) (by decide) (by decide)))
  have F87 := F68.other W80 (Or.inr (slot_ne (Or.inl (C.w 33 rfl)) (Or.inl (C.w 23 rfl)) (by decide) (t := .boolean) (t' := .long) (by decide) (by decide)))
  have F88 := F69.other W80 (Or.inr (slot_ne (Or.inl (C.w 35 rfl)) (Or.inl (C.w 23 rfl)) (by decide) (t := .boolean) (t' := .long) (by decide) (by decide)))
  have F89 := F70.other W80 (Or.inr (slot_ne (Or.inl (C.w 37 rfl)) (Or.inl (C.w 23 rfl)) (by decide) (t := .boolean) (t' := .long) (by decide) (by decide)))
  have K90 := K71.wr W80 (Or.inl (List.mem_of_getElem? (i := 0) rfl))
  refine go_iconst C X78 234 rfl d7_233 (z := 1) rfl ?_
  refine go_istore C X78 236 rfl d7_234 #[rv a, iv (38 : Int32), iv (1 : Int32), iv (0 : Int32), iv (1 : Int32)] rfl ?_
  refine go_iload C X78 238 rfl d7_236 rfl ?_
  exact go_retN C X78 (by simp) (z' := 1) rfl d7_238 ⟨rfl, K90, E82, F81, F83, F84, F85, F86, F87, F88, F89⟩ (by decide) (by decide)
theorem ef_own_u6_83 (m : MethodId) (a : Addr)  : entryFrame m #[(.ref a), (.int (38 : Int32))] 3 = mkF m 0 #[rv a, iv (38 : Int32), un] [] := by
  first | (simp [entryFrame, mkF, argsToLocals, Value.category]; done) | rfl
set_option maxRecDepth 65536 in
set_option maxHeartbeats 40000000 in
theorem own_u6_83 (l : Launch) (Z : State) (a0 : Array Value) (hw : ∀ d ∈ tables_1, d.before a0 Z = true) (a : Addr)  (h : Heap) (n0 : Nat) (hn0 : Old Z n0 h) (E0 : Exa Z h a "com/example/plantilla/plantilla/UrlValue") (FF0 : Fld Z h a "com/example/plantilla/plantilla/UrlValue" "start" "J" (.long (0 : Int64))) (FF1 : Fld Z h a "com/example/plantilla/plantilla/UrlValue" "begun" "Z" (.int (0 : Int32))) (FF2 : Fld Z h a "com/example/plantilla/plantilla/UrlValue" "schemeLike" "Z" (.int (1 : Int32))) (FF3 : Fld Z h a "com/example/plantilla/plantilla/UrlValue" "delimited" "Z" (.int (0 : Int32))) (FF4 : Fld Z h a "com/example/plantilla/plantilla/UrlValue" "query" "Z" (.int (0 : Int32))) (FF5 : Fld Z h a "com/example/plantilla/plantilla/UrlValue" "reference" "Z" (.int (0 : Int32))) (FF6 : Fld Z h a "com/example/plantilla/plantilla/UrlValue" "holding" "Z" (.int (0 : Int32))) (FF7 : Fld Z h a "com/example/plantilla/plantilla/UrlValue" "referenceOpen" "Z" (.int (0 : Int32))) (ga : n0 ≤ a)  :
    Con l Z (⟨"com/example/plantilla/plantilla/UrlValue", "read", "(C)Z"⟩ : MethodName) prog_44_method_8_code 3 (some .boolean) ({ frames := 3, cells := 0, slots := 0, locals := 47 } : Room) #[(.ref a), (.int (38 : Int32))] h n0 (fun v h' => v = some (.int (0 : Int32)) ∧ Keep h h' [a] ∧ Exa Z h' a "com/example/plantilla/plantilla/UrlValue" ∧ Fld Z h' a "com/example/plantilla/plantilla/UrlValue" "start" "J" (.long (-1 : Int64)) ∧ Fld Z h' a "com/example/plantilla/plantilla/UrlValue" "begun" "Z" (.int (1 : Int32)) ∧ Fld Z h' a "com/example/plantilla/plantilla/UrlValue" "schemeLike" "Z" (.int (0 : Int32)) ∧ Fld Z h' a "com/example/plantilla/plantilla/UrlValue" "delimited" "Z" (.int (0 : Int32)) ∧ Fld Z h' a "com/example/plantilla/plantilla/UrlValue" "query" "Z" (.int (0 : Int32)) ∧ Fld Z h' a "com/example/plantilla/plantilla/UrlValue" "reference" "Z" (.int (1 : Int32)) ∧ Fld Z h' a "com/example/plantilla/plantilla/UrlValue" "holding" "Z" (.int (0 : Int32)) ∧ Fld Z h' a "com/example/plantilla/plantilla/UrlValue" "referenceOpen" "Z" (.int (1 : Int32))) := by
  refine con_of hw (plainFor_of_name pn_com_example_plantilla_plantilla_UrlValue) hn0 ?_
  intro p e s m below meth c T0 C X0
  refine Go.cast (congrArg T0.setTop (ef_own_u6_83 m a)) ?_
  refine go_aloadN C X0 1 rfl d6_0 rfl rfl ?_
  refine go_getF C X0 (C.w 34 rfl) Via.refl FF6 (pc' := 4) rfl d6_1 (fun T1 X2 => ?_)
  refine go_if_eq C X2 d6_4 (pc' := 7) (pc2 := 30) rfl (by decide) (by decide) (fun (c4 : (0 : Int32) = (0 : Int32)) => ?_) (fun (c4 : ¬ (0 : Int32) = (0 : Int32)) => False.elim (by first | omega | exact absurd c4 (by decide)))
  refine go_iconst C X2 31 rfl d6_30 (z := 0) rfl ?_
  refine go_istoreN C X2 32 rfl d6_31 #[rv a, iv (38 : Int32), iv (0 : Int32)] rfl ?_
  refine go_iloadN C X2 33 rfl d6_32 rfl ?_
  refine go_if_eq C X2 d6_33 (pc' := 36) (pc2 := 40) rfl (by decide) (by decide) (fun (c33 : (0 : Int32) = (0 : Int32)) => ?_) (fun (c33 : ¬ (0 : Int32) = (0 : Int32)) => False.elim (by first | omega | exact absurd c33 (by decide)))
  refine go_aloadN C X2 41 rfl d6_40 rfl rfl ?_
  refine go_iloadN C X2 42 rfl d6_41 rfl ?_
  refine go_iconst C X2 43 rfl d6_42 (z := 1) rfl ?_
  refine go_private C X2 E0 (C.w 43 rfl) (C.w 44 rfl) (Jvm.Kit.selects_private (by decide) (C.w 9 rfl) (C.w 45 rfl) (C.w 44 rfl)) (C.w 45 rfl) (C.w 10 rfl) (C.w 46 rfl) (own_u7_84 l Z a0 C.ws a h n0 X2.old E0 FF0 FF1 FF2 FF3 FF4 FF5 FF6 FF7 ga ) (argsL := [(.int (38 : Int32)), (.int (1 : Int32))]) (rest := []) (lenOf pd_6 rfl) rfl (by decide) (by decide) (Nat.le_of_ble_eq_true rfl) (by decide) (by decide) rfl rfl (pc' := 46) rfl d6_43 ?_
  rintro T3 h5 _ ⟨rfl, Kq6, Eq6, Fq60, Fq61, Fq62, Fq63, Fq64, Fq65, Fq66, Fq67⟩ X4
  show Go p e below _ (T3.setTop (mkF m 46 #[rv a, iv (38 : Int32), iv (0 : Int32)] [(.int (1 : Int32))]))
  have E7 := E0.keep Kq6
  have K8 := (Keep.refl h [a]).trans Kq6 (allS (Or.inl (List.mem_of_getElem? (i := 0) rfl)) all0)
  refine go_pop C X4 47 rfl d6_46 rfl ?_
  refine go_aloadN C X4 48 rfl d6_47 rfl rfl ?_
  refine go_dup C X4 49 rfl d6_48 rfl ?_
  refine go_getF C X4 (C.w 34 rfl) Via.refl Fq66 (pc' := 52) rfl d6_49 (fun T9 X10 => ?_)
  refine go_aloadN C X10 53 rfl d6_52 rfl rfl ?_
  refine go_getF C X10 (C.w 28 rfl) Via.refl Fq63 (pc' := 56) rfl d6_53 (fun T11 X12 => ?_)
  refine go_if_ne C X12 d6_56 (pc' := 59) (pc2 := 77) rfl (by decide) (by decide) (fun (c56 : ¬ (0 : Int32) = (0 : Int32)) => False.elim (by first | omega | exact absurd c56 (by decide))) (fun (c56 : (0 : Int32) = (0 : Int32)) => ?_)
  refine go_aloadN C X12 60 rfl d6_59 rfl rfl ?_
  refine go_getF C X12 (C.w 26 rfl) Via.refl Fq62 (pc' := 63) rfl d6_60 (fun T13 X14 => ?_)
  refine go_if_ne C X14 d6_63 (pc' := 66) (pc2 := 73) rfl (by decide) (by decide) (fun (c63 : ¬ (0 : Int32) = (0 : Int32)) => False.elim (by first | omega | exact absurd c63 (by decide))) (fun (c63 : (0 : Int32) = (0 : Int32)) => ?_)
  refine go_aloadN C X14 67 rfl d6_66 rfl rfl ?_
  refine go_getF C X14 (C.w 32 rfl) Via.refl Fq65 (pc' := 70) rfl d6_67 (fun T15 X16 => ?_)
  refine go_if_eq C X16 d6_70 (pc' := 73) (pc2 := 77) rfl (by decide) (by decide) (fun (c70 : (1 : Int32) = (0 : Int32)) => False.elim (by first | omega | exact absurd c70 (by decide))) (fun (c70 : ¬ (1 : Int32) = (0 : Int32)) => ?_)
  refine go_iconst C X16 74 rfl d6_73 (z := 1) rfl ?_
  refine go_goto C X16 d6_74 (pc' := 78) (by decide) (by decide) ?_
  refine go_iandL C X16 79 rfl d6_78 (z := (0)) rfl ?_
  refine go_putFN C X16 (C.w 34 rfl) Via.refl Fq66 Eq6 (Or.inl (C.w 35 rfl)) (C.w 9 rfl) ga (ty := .boolean) (by decide) (v' := (.int (0 : Int32))) rfl rfl (pc' := 82) rfl d6_79 (fun T17 h19 W20 X18 => ?_)
  have F21 := Fq66.same W20
  have E22 := Eq6.wr W20
  have F23 := Fq60.other W20 (Or.inr (slot_ne (Or.inl (C.w 23 rfl)) (Or.inl (C.w 35 rfl)) (by decide) (t := .long) (t' := .boolean) (by decide) (by decide)))
  have F24 := Fq61.other W20 (Or.inr (slot_ne (Or.inl (C.w 25 rfl)) (Or.inl (C.w 35 rfl)) (by decide) (t := .boolean) (t' := .boolean) (by decide) (by decide)))
  have F25 := Fq62.other W20 (Or.inr (slot_ne (Or.inl (C.w 27 rfl)) (Or.inl (C.w 35 rfl)) (by decide) (t := .boolean) (t' := .boolean) (by decide) (by decide)))
  have F26 := Fq63.other W20 (Or.inr (slot_ne (Or.inl (C.w 29 rfl)) (Or.inl (C.w 35 rfl)) (by decide) (t := .boolean) (t' := .boolean) (by decide) (by decide)))
  have F27 := Fq64.other W20 (Or.inr (slot_ne (Or.inl (C.w 31 rfl)) (Or.inl (C.w 35 rfl)) (by decide) (t := .boolean) (t' := .boolean) (by decide) (by decide)))
  have F28 := Fq65.other W20 (Or.inr (slot_ne (Or.inl (C.w 33 rfl)) (Or.inl (C.w 35 rfl)) (by decide) (t := .boolean) (t' := .boolean) (by decide) (by decide)))
  have F29 := Fq67.other W20 (Or.inr (slot_ne (Or.inl (C.w 37 rfl)) (Or.inl (C.w 35 rfl)) (by decide) (t := .boolean) (t' := .boolean) (by decide) (by decide)))
  have K30 := K8.wr W20 (Or.inl (List.mem_of_getElem? (i := 0) rfl))
  refine go_iloadN C X18 83 rfl d6_82 rfl ?_
  exact go_retN C X18 (by simp) (z' := 0) rfl d6_83 ⟨rfl, K30, E22, F23, F24, F25, F26, F27, F28, F21, F29⟩ (by decide) (by decide)
theorem d2_89 : decode method_4_code 89 = .ok (.invokevirtual 32, 3) := by decide +kernel
theorem d2_92 : decode method_4_code 92 = .ok (.pop, 1) := by decide +kernel
theorem d2_93 : decode method_4_code 93 = .ok (.aload_n 2, 1) := by decide +kernel
theorem d2_94 : decode method_4_code 94 = .ok (.bipush 33, 2) := by decide +kernel
theorem d7_7 : decode prog_44_method_13_code 7 = .ok (.aload_n 0, 1) := by decide +kernel
theorem d7_8 : decode prog_44_method_13_code 8 = .ok (.getfield 29, 3) := by decide +kernel
theorem d7_11 : decode prog_44_method_13_code 11 = .ok (.ifCond .ne 7, 3) := by decide +kernel
theorem d7_14 : decode prog_44_method_13_code 14 = .ok (.iconst 1, 1) := by decide +kernel
theorem d7_15 : decode prog_44_method_13_code 15 = .ok (.goto 4, 3) := by decide +kernel
theorem d7_38 : decode prog_44_method_13_code 38 = .ok (.iload_n 1, 1) := by decide +kernel
theorem d7_39 : decode prog_44_method_13_code 39 = .ok (.invokestatic 79, 3) := by decide +kernel
theorem d7_42 : decode prog_44_method_13_code 42 = .ok (.ifCond .ne 16, 3) := by decide +kernel
theorem d7_45 : decode prog_44_method_13_code 45 = .ok (.iload_n 1, 1) := by decide +kernel
theorem d27_0 : decode prog_44_method_16_code 0 = .ok (.iload_n 0, 1) := by decide +kernel
theorem d27_1 : decode prog_44_method_16_code 1 = .ok (.bipush 48, 2) := by decide +kernel
theorem d27_3 : decode prog_44_method_16_code 3 = .ok (.if_icmp .lt 13, 3) := by decide +kernel
theorem d27_16 : decode prog_44_method_16_code 16 = .ok (.iconst 0, 1) := by decide +kernel
theorem d27_17 : decode prog_44_method_16_code 17 = .ok (.ireturn, 1) := by decide +kernel
theorem ef_own_p27_90 (m : MethodId)   : entryFrame m #[(.int (33 : Int32))] 1 = mkF m 0 #[iv (33 : Int32)] [] := by
  first | (simp [entryFrame, mkF, argsToLocals, Value.category]; done) | rfl
set_option maxRecDepth 65536 in
set_option maxHeartbeats 40000000 in
theorem own_p27_90 (l : Launch) (Z : State) (a0 : Array Value) (hw : ∀ d ∈ tables_1, d.before a0 Z = true)   (h : Heap) (n0 : Nat) (hn0 : Old Z n0 h)  :
    Con l Z (⟨"com/example/plantilla/plantilla/UrlValue", "isDigit", "(C)Z"⟩ : MethodName) prog_44_method_16_code 1 (some .boolean) ({ frames := 0, cells := 0, slots := 0, locals := 0 } : Room) #[(.int (33 : Int32))] h n0 (fun v h' => v = some (.int (0 : Int32)) ∧ h = h') := by
  refine con_of hw (plainFor_of_name pn_com_example_plantilla_plantilla_UrlValue) hn0 ?_
  intro p e s m below meth c T0 C X0
  refine Go.cast (congrArg T0.setTop (ef_own_p27_90 m )) ?_
  refine go_iloadN C X0 1 rfl d27_0 rfl ?_
  refine go_bipush C X0 3 rfl d27_1 (z := 48) rfl ?_
  refine go_icmp_lt C X0 d27_3 (pc' := 6) (pc2 := 16) rfl (by decide) (by decide) (fun (c3 : 33 < 48) => ?_) (fun (c3 : 48 ≤ 33) => False.elim (by first | omega | exact absurd c3 (by decide)))
  refine go_iconst C X0 17 rfl d27_16 (z := 0) rfl ?_
  exact go_retN C X0 (by simp) (z' := 0) rfl d27_17 ⟨rfl, rfl⟩ (by decide) (by decide)
theorem d7_46 : decode prog_44_method_13_code 46 = .ok (.invokestatic 83, 3) := by decide +kernel
theorem d7_49 : decode prog_44_method_13_code 49 = .ok (.ifCond .ne 9, 3) := by decide +kernel
theorem d7_52 : decode prog_44_method_13_code 52 = .ok (.iload_n 1, 1) := by decide +kernel
theorem d7_53 : decode prog_44_method_13_code 53 = .ok (.bipush 35, 2) := by decide +kernel
theorem d7_55 : decode prog_44_method_13_code 55 = .ok (.if_icmp .ne 7, 3) := by decide +kernel
theorem d26_7 : decode prog_44_method_17_code 7 = .ok (.iload_n 0, 1) := by decide +kernel
theorem d26_8 : decode prog_44_method_17_code 8 = .ok (.invokestatic 83, 3) := by decide +kernel
theorem d26_11 : decode prog_44_method_17_code 11 = .ok (.ifCond .ne 21, 3) := by decide +kernel
theorem d26_14 : decode prog_44_method_17_code 14 = .ok (.iload_n 0, 1) := by decide +kernel
theorem d26_15 : decode prog_44_method_17_code 15 = .ok (.bipush 43, 2) := by decide +kernel
theorem d26_17 : decode prog_44_method_17_code 17 = .ok (.if_icmp .eq 15, 3) := by decide +kernel
theorem d26_20 : decode prog_44_method_17_code 20 = .ok (.iload_n 0, 1) := by decide +kernel
theorem d26_21 : decode prog_44_method_17_code 21 = .ok (.bipush 45, 2) := by decide +kernel
theorem d26_23 : decode prog_44_method_17_code 23 = .ok (.if_icmp .eq 9, 3) := by decide +kernel
theorem d26_26 : decode prog_44_method_17_code 26 = .ok (.iload_n 0, 1) := by decide +kernel
theorem d26_27 : decode prog_44_method_17_code 27 = .ok (.bipush 46, 2) := by decide +kernel
theorem d26_29 : decode prog_44_method_17_code 29 = .ok (.if_icmp .ne 7, 3) := by decide +kernel
theorem d26_36 : decode prog_44_method_17_code 36 = .ok (.iconst 0, 1) := by decide +kernel
theorem ef_own_p26_91 (m : MethodId)   : entryFrame m #[(.int (33 : Int32))] 1 = mkF m 0 #[iv (33 : Int32)] [] := by
  first | (simp [entryFrame, mkF, argsToLocals, Value.category]; done) | rfl
set_option maxRecDepth 65536 in
set_option maxHeartbeats 40000000 in
theorem own_p26_91 (l : Launch) (Z : State) (a0 : Array Value) (hw : ∀ d ∈ tables_1, d.before a0 Z = true)   (h : Heap) (n0 : Nat) (hn0 : Old Z n0 h)  :
    Con l Z (⟨"com/example/plantilla/plantilla/UrlValue", "isSchemeCharacter", "(C)Z"⟩ : MethodName) prog_44_method_17_code 1 (some .boolean) ({ frames := 1, cells := 0, slots := 0, locals := 12 } : Room) #[(.int (33 : Int32))] h n0 (fun v h' => v = some (.int (0 : Int32)) ∧ h = h') := by
  refine con_of hw (plainFor_of_name pn_com_example_plantilla_plantilla_UrlValue) hn0 ?_
  intro p e s m below meth c T0 C X0
  refine Go.cast (congrArg T0.setTop (ef_own_p26_91 m )) ?_
  refine go_iloadN C X0 1 rfl d26_0 rfl ?_
  refine go_callS C X0 (C.w 60 rfl) (C.w 61 rfl) (C.w 10 rfl) (C.w 62 rfl) (own_p11_6 l Z a0 C.ws  h n0 X0.old ) (argsL := [(.int (33 : Int32))]) (rest := []) (lenOf pd_0 rfl) rfl (by decide) (by decide) (Nat.le_of_ble_eq_true rfl) (by decide) (by decide) rfl rfl (pc' := 4) rfl d26_1 ?_
  rintro T1 _ _ ⟨rfl, rfl⟩ X2
  show Go p e below _ (T1.setTop (mkF m 4 #[iv (33 : Int32)] [(.int (0 : Int32))]))
  refine go_if_ne C X2 d26_4 (pc' := 7) (pc2 := 32) rfl (by decide) (by decide) (fun (c4 : ¬ (0 : Int32) = (0 : Int32)) => False.elim (by first | omega | exact absurd c4 (by decide))) (fun (c4 : (0 : Int32) = (0 : Int32)) => ?_)
  refine go_iloadN C X2 8 rfl d26_7 rfl ?_
  refine go_callS C X2 (C.w 138 rfl) (C.w 139 rfl) (C.w 10 rfl) (C.w 140 rfl) (own_p27_90 l Z a0 C.ws  h n0 X2.old ) (argsL := [(.int (33 : Int32))]) (rest := []) (lenOf pd_0 rfl) rfl (by decide) (by decide) (Nat.le_of_ble_eq_true rfl) (by decide) (by decide) rfl rfl (pc' := 11) rfl d26_8 ?_
  rintro T4 _ _ ⟨rfl, rfl⟩ X5
  show Go p e below _ (T4.setTop (mkF m 11 #[iv (33 : Int32)] [(.int (0 : Int32))]))
  refine go_if_ne C X5 d26_11 (pc' := 14) (pc2 := 32) rfl (by decide) (by decide) (fun (c11 : ¬ (0 : Int32) = (0 : Int32)) => False.elim (by first | omega | exact absurd c11 (by decide))) (fun (c11 : (0 : Int32) = (0 : Int32)) => ?_)
  refine go_iloadN C X5 15 rfl d26_14 rfl ?_
  refine go_bipush C X5 17 rfl d26_15 (z := 43) rfl ?_
  refine go_icmp_eq C X5 d26_17 (pc' := 20) (pc2 := 32) rfl (by decide) (by decide) (fun (c17 : (33 : Int32) = (43 : Int32)) => False.elim (by first | omega | exact absurd c17 (by decide))) (fun (c17 : ¬ (33 : Int32) = (43 : Int32)) => ?_)
  refine go_iloadN C X5 21 rfl d26_20 rfl ?_
  refine go_bipush C X5 23 rfl d26_21 (z := 45) rfl ?_
  refine go_icmp_eq C X5 d26_23 (pc' := 26) (pc2 := 32) rfl (by decide) (by decide) (fun (c23 : (33 : Int32) = (45 : Int32)) => False.elim (by first | omega | exact absurd c23 (by decide))) (fun (c23 : ¬ (33 : Int32) = (45 : Int32)) => ?_)
  refine go_iloadN C X5 27 rfl d26_26 rfl ?_
  refine go_bipush C X5 29 rfl d26_27 (z := 46) rfl ?_
  refine go_icmp_ne C X5 d26_29 (pc' := 32) (pc2 := 36) rfl (by decide) (by decide) (fun (c29 : ¬ (33 : Int32) = (46 : Int32)) => ?_) (fun (c29 : (33 : Int32) = (46 : Int32)) => False.elim (by first | omega | exact absurd c29 (by decide)))
  refine go_iconst C X5 37 rfl d26_36 (z := 0) rfl ?_
  exact go_retN C X5 (by simp) (z' := 0) rfl d26_37 ⟨rfl, rfl⟩ (by decide) (by decide)
theorem ef_own_p12_92 (m : MethodId)   : entryFrame m #[(.long (-1 : Int64)), (.int (33 : Int32))] 6 = mkF m 0 #[jv (-1 : Int64), sc, iv (33 : Int32), un, un, un] [] := by
  first | (simp [entryFrame, mkF, argsToLocals, Value.category]; done) | rfl
set_option maxRecDepth 65536 in
set_option maxHeartbeats 40000000 in
theorem own_p12_92 (l : Launch) (Z : State) (a0 : Array Value) (hw : ∀ d ∈ tables_1, d.before a0 Z = true)   (h : Heap) (n0 : Nat) (hn0 : Old Z n0 h)  :
    Con l Z (⟨"com/example/plantilla/plantilla/PackedName", "appended", "(JC)J"⟩ : MethodName) prog_35_method_2_code 6 (some .long) ({ frames := 1, cells := 0, slots := 0, locals := 13 } : Room) #[(.long (-1 : Int64)), (.int (33 : Int32))] h n0 (fun v h' => v = some (.long (-1 : Int64)) ∧ h = h') := by
  refine con_of hw (plainFor_of_name pn_com_example_plantilla_plantilla_PackedName) hn0 ?_
  intro p e s m below meth c T0 C X0
  refine Go.cast (congrArg T0.setTop (ef_own_p12_92 m )) ?_
  refine go_iloadN C X0 1 rfl d12_0 rfl ?_
  refine go_callS C X0 (C.w 67 rfl) (C.w 68 rfl) (C.w 65 rfl) (C.w 69 rfl) (own_p13_8 l Z a0 C.ws  h n0 X0.old ) (argsL := [(.int (33 : Int32))]) (rest := []) (lenOf pd_4 rfl) rfl (by decide) (by decide) (Nat.le_of_ble_eq_true rfl) (by decide) (by decide) rfl rfl (pc' := 4) rfl d12_1 ?_
  rintro T1 _ _ ⟨rfl, rfl⟩ X2
  show Go p e below _ (T1.setTop (mkF m 4 #[jv (-1 : Int64), sc, iv (33 : Int32), un, un, un] [(.int (0 : Int32))]))
  refine go_i2l C X2 5 rfl d12_4 ?_
  show Go p e below _ (T1.setTop (mkF m 5 #[jv (-1 : Int64), sc, iv (33 : Int32), un, un, un] [(.long (0 : Int64))]))
  refine go_lstoreN C X2 6 rfl d12_5 #[jv (-1 : Int64), sc, iv (33 : Int32), jv (0 : Int64), sc, un] rfl ?_
  refine go_lloadN C X2 7 rfl d12_6 rfl ?_
  refine go_ldc2Long C X2 (C.w 70 rfl) (pc' := 10) rfl d12_7 ?_
  refine go_lif_lt C X2 (pc1 := 11) rfl d12_10 d12_11 (pc' := 14) (pc2 := 18) rfl (by decide) (by decide) (fun (c11 : (-1) < 18014398509481984) => ?_) (fun (c11 : 18014398509481984 ≤ (-1)) => False.elim (by first | omega | exact absurd c11 (by decide)))
  refine go_iconst C X2 19 rfl d12_18 (z := 0) rfl ?_
  refine go_istore C X2 21 rfl d12_19 #[jv (-1 : Int64), sc, iv (33 : Int32), jv (0 : Int64), sc, iv (0 : Int32)] rfl ?_
  refine go_lloadN C X2 22 rfl d12_21 rfl ?_
  refine go_ldc2Long C X2 (C.w 71 rfl) (pc' := 25) rfl d12_22 ?_
  refine go_lif_eq C X2 (pc1 := 26) rfl d12_25 d12_26 (pc' := 29) (pc2 := 40) rfl (by decide) (by decide) (fun (c26 : (-1 : Int64) = (-1 : Int64)) => ?_) (fun (c26 : ¬ (-1 : Int64) = (-1 : Int64)) => False.elim (by first | omega | exact absurd c26 (by decide)))
  refine go_ldc2Long C X2 (C.w 71 rfl) (pc' := 43) rfl d12_40 ?_
  refine go_goto C X2 d12_43 (pc' := 52) (by decide) (by decide) ?_
  exact go_retJ C X2 d12_52 ⟨rfl, rfl⟩ (by decide) (by decide)
theorem ef_own_u7_89 (m : MethodId) (a : Addr)  : entryFrame m #[(.ref a), (.int (33 : Int32)), (.int (1 : Int32))] 5 = mkF m 0 #[rv a, iv (33 : Int32), iv (1 : Int32), un, un] [] := by
  first | (simp [entryFrame, mkF, argsToLocals, Value.category]; done) | rfl
set_option maxRecDepth 65536 in
set_option maxHeartbeats 40000000 in
theorem own_u7_89 (l : Launch) (Z : State) (a0 : Array Value) (hw : ∀ d ∈ tables_1, d.before a0 Z = true) (a : Addr)  (h : Heap) (n0 : Nat) (hn0 : Old Z n0 h) (E0 : Exa Z h a "com/example/plantilla/plantilla/UrlValue") (FF0 : Fld Z h a "com/example/plantilla/plantilla/UrlValue" "start" "J" (.long (-1 : Int64))) (FF1 : Fld Z h a "com/example/plantilla/plantilla/UrlValue" "begun" "Z" (.int (1 : Int32))) (FF2 : Fld Z h a "com/example/plantilla/plantilla/UrlValue" "schemeLike" "Z" (.int (0 : Int32))) (FF3 : Fld Z h a "com/example/plantilla/plantilla/UrlValue" "delimited" "Z" (.int (0 : Int32))) (FF4 : Fld Z h a "com/example/plantilla/plantilla/UrlValue" "query" "Z" (.int (0 : Int32))) (FF5 : Fld Z h a "com/example/plantilla/plantilla/UrlValue" "reference" "Z" (.int (1 : Int32))) (FF6 : Fld Z h a "com/example/plantilla/plantilla/UrlValue" "holding" "Z" (.int (0 : Int32))) (FF7 : Fld Z h a "com/example/plantilla/plantilla/UrlValue" "referenceOpen" "Z" (.int (1 : Int32))) (ga : n0 ≤ a)  :
    Con l Z (⟨"com/example/plantilla/plantilla/UrlValue", "take", "(CZ)Z"⟩ : MethodName) prog_44_method_13_code 5 (some .boolean) ({ frames := 2, cells := 0, slots := 0, locals := 31 } : Room) #[(.ref a), (.int (33 : Int32)), (.int (1 : Int32))] h n0 (fun v h' => v = some (.int (1 : Int32)) ∧ Keep h h' [a] ∧ Exa Z h' a "com/example/plantilla/plantilla/UrlValue" ∧ Fld Z h' a "com/example/plantilla/plantilla/UrlValue" "start" "J" (.long (-1 : Int64)) ∧ Fld Z h' a "com/example/plantilla/plantilla/UrlValue" "begun" "Z" (.int (1 : Int32)) ∧ Fld Z h' a "com/example/plantilla/plantilla/UrlValue" "schemeLike" "Z" (.int (0 : Int32)) ∧ Fld Z h' a "com/example/plantilla/plantilla/UrlValue" "delimited" "Z" (.int (0 : Int32)) ∧ Fld Z h' a "com/example/plantilla/plantilla/UrlValue" "query" "Z" (.int (0 : Int32)) ∧ Fld Z h' a "com/example/plantilla/plantilla/UrlValue" "reference" "Z" (.int (1 : Int32)) ∧ Fld Z h' a "com/example/plantilla/plantilla/UrlValue" "holding" "Z" (.int (0 : Int32)) ∧ Fld Z h' a "com/example/plantilla/plantilla/UrlValue" "referenceOpen" "Z" (.int (0 : Int32))) := by
  refine con_of hw (plainFor_of_name pn_com_example_plantilla_plantilla_UrlValue) hn0 ?_
  intro p e s m below meth c T0 C X0
  refine Go.cast (congrArg T0.setTop (ef_own_u7_89 m a)) ?_
  refine go_aloadN C X0 1 rfl d7_0 rfl rfl ?_
  refine go_getF C X0 (C.w 36 rfl) Via.refl FF7 (pc' := 4) rfl d7_1 (fun T1 X2 => ?_)
  refine go_if_eq C X2 d7_4 (pc' := 7) (pc2 := 18) rfl (by decide) (by decide) (fun (c4 : (1 : Int32) = (0 : Int32)) => False.elim (by first | omega | exact absurd c4 (by decide))) (fun (c4 : ¬ (1 : Int32) = (0 : Int32)) => ?_)
  refine go_aloadN C X2 8 rfl d7_7 rfl rfl ?_
  refine go_getF C X2 (C.w 28 rfl) Via.refl FF3 (pc' := 11) rfl d7_8 (fun T3 X4 => ?_)
  refine go_if_ne C X4 d7_11 (pc' := 14) (pc2 := 18) rfl (by decide) (by decide) (fun (c11 : ¬ (0 : Int32) = (0 : Int32)) => False.elim (by first | omega | exact absurd c11 (by decide))) (fun (c11 : (0 : Int32) = (0 : Int32)) => ?_)
  refine go_iconst C X4 15 rfl d7_14 (z := 1) rfl ?_
  refine go_goto C X4 d7_15 (pc' := 19) (by decide) (by decide) ?_
  refine go_istoreN C X4 20 rfl d7_19 #[rv a, iv (33 : Int32), iv (1 : Int32), iv (1 : Int32), un] rfl ?_
  refine go_aloadN C X4 21 rfl d7_20 rfl rfl ?_
  refine go_iloadN C X4 22 rfl d7_21 rfl ?_
  refine go_if_eq C X4 d7_22 (pc' := 25) (pc2 := 62) rfl (by decide) (by decide) (fun (c22 : (1 : Int32) = (0 : Int32)) => False.elim (by first | omega | exact absurd c22 (by decide))) (fun (c22 : ¬ (1 : Int32) = (0 : Int32)) => ?_)
  refine go_iloadN C X4 26 rfl d7_25 rfl ?_
  refine go_bipush C X4 28 rfl d7_26 (z := 38) rfl ?_
  refine go_icmp_eq C X4 d7_28 (pc' := 31) (pc2 := 58) rfl (by decide) (by decide) (fun (c28 : (33 : Int32) = (38 : Int32)) => False.elim (by first | omega | exact absurd c28 (by decide))) (fun (c28 : ¬ (33 : Int32) = (38 : Int32)) => ?_)
  refine go_aloadN C X4 32 rfl d7_31 rfl rfl ?_
  refine go_getF C X4 (C.w 36 rfl) Via.refl FF7 (pc' := 35) rfl d7_32 (fun T5 X6 => ?_)
  refine go_if_eq C X6 d7_35 (pc' := 38) (pc2 := 62) rfl (by decide) (by decide) (fun (c35 : (1 : Int32) = (0 : Int32)) => False.elim (by first | omega | exact absurd c35 (by decide))) (fun (c35 : ¬ (1 : Int32) = (0 : Int32)) => ?_)
  refine go_iloadN C X6 39 rfl d7_38 rfl ?_
  refine go_callS C X6 (C.w 60 rfl) (C.w 61 rfl) (C.w 10 rfl) (C.w 62 rfl) (own_p11_6 l Z a0 C.ws  h n0 X6.old ) (argsL := [(.int (33 : Int32))]) (rest := [(.ref a)]) (lenOf pd_0 rfl) rfl (by decide) (by decide) (Nat.le_of_ble_eq_true rfl) (by decide) (by decide) rfl rfl (pc' := 42) rfl d7_39 ?_
  rintro T7 _ _ ⟨rfl, rfl⟩ X8
  show Go p e below _ (T7.setTop (mkF m 42 #[rv a, iv (33 : Int32), iv (1 : Int32), iv (1 : Int32), un] [(.int (0 : Int32)), (.ref a)]))
  refine go_if_ne C X8 d7_42 (pc' := 45) (pc2 := 58) rfl (by decide) (by decide) (fun (c42 : ¬ (0 : Int32) = (0 : Int32)) => False.elim (by first | omega | exact absurd c42 (by decide))) (fun (c42 : (0 : Int32) = (0 : Int32)) => ?_)
  refine go_iloadN C X8 46 rfl d7_45 rfl ?_
  refine go_callS C X8 (C.w 138 rfl) (C.w 139 rfl) (C.w 10 rfl) (C.w 140 rfl) (own_p27_90 l Z a0 C.ws  h n0 X8.old ) (argsL := [(.int (33 : Int32))]) (rest := [(.ref a)]) (lenOf pd_0 rfl) rfl (by decide) (by decide) (Nat.le_of_ble_eq_true rfl) (by decide) (by decide) rfl rfl (pc' := 49) rfl d7_46 ?_
  rintro T10 _ _ ⟨rfl, rfl⟩ X11
  show Go p e below _ (T10.setTop (mkF m 49 #[rv a, iv (33 : Int32), iv (1 : Int32), iv (1 : Int32), un] [(.int (0 : Int32)), (.ref a)]))
  refine go_if_ne C X11 d7_49 (pc' := 52) (pc2 := 58) rfl (by decide) (by decide) (fun (c49 : ¬ (0 : Int32) = (0 : Int32)) => False.elim (by first | omega | exact absurd c49 (by decide))) (fun (c49 : (0 : Int32) = (0 : Int32)) => ?_)
  refine go_iloadN C X11 53 rfl d7_52 rfl ?_
  refine go_bipush C X11 55 rfl d7_53 (z := 35) rfl ?_
  refine go_icmp_ne C X11 d7_55 (pc' := 58) (pc2 := 62) rfl (by decide) (by decide) (fun (c55 : ¬ (33 : Int32) = (35 : Int32)) => ?_) (fun (c55 : (33 : Int32) = (35 : Int32)) => False.elim (by first | omega | exact absurd c55 (by decide)))
  refine go_iconst C X11 63 rfl d7_62 (z := 0) rfl ?_
  refine go_putFN C X11 (C.w 36 rfl) Via.refl FF7 E0 (Or.inl (C.w 37 rfl)) (C.w 9 rfl) ga (ty := .boolean) (by decide) (v' := (.int (0 : Int32))) rfl rfl (pc' := 66) rfl d7_63 (fun T13 h15 W16 X14 => ?_)
  have F17 := FF7.same W16
  have E18 := E0.wr W16
  have F19 := FF0.other W16 (Or.inr (slot_ne (Or.inl (C.w 23 rfl)) (Or.inl (C.w 37 rfl)) (by decide) (t := .long) (t' := .boolean) (by decide) (by decide)))
  have F20 := FF1.other W16 (Or.inr (slot_ne (Or.inl (C.w 25 rfl)) (Or.inl (C.w 37 rfl)) (by decide) (t := .boolean) (t' := .boolean) (by decide) (by decide)))
  have F21 := FF2.other W16 (Or.inr (slot_ne (Or.inl (C.w 27 rfl)) (Or.inl (C.w 37 rfl)) (by decide) (t := .boolean) (t' := .boolean) (by decide) (by decide)))
  have F22 := FF3.other W16 (Or.inr (slot_ne (Or.inl (C.w 29 rfl)) (Or.inl (C.w 37 rfl)) (by decide) (t := .boolean) (t' := .boolean) (by decide) (by decide)))
  have F23 := FF4.other W16 (Or.inr (slot_ne (Or.inl (C.w 31 rfl)) (Or.inl (C.w 37 rfl)) (by decide) (t := .boolean) (t' := .boolean) (by decide) (by decide)))
  have F24 := FF5.other W16 (Or.inr (slot_ne (Or.inl (C.w 33 rfl)) (Or.inl (C.w 37 rfl)) (by decide) (t := .boolean) (t' := .boolean) (by decide) (by decide)))
  have F25 := FF6.other W16 (Or.inr (slot_ne (Or.inl (C.w 35 rfl)) (Or.inl (C.w 37 rfl)) (by decide) (t := .boolean) (t' := .boolean) (by decide) (by decide)))
  have K26 := (Keep.refl h [a]).wr W16 (Or.inl (List.mem_of_getElem? (i := 0) rfl))
  refine go_iloadN C X14 67 rfl d7_66 rfl ?_
  refine go_bipush C X14 69 rfl d7_67 (z := 9) rfl ?_
  refine go_icmp_eq C X14 d7_69 (pc' := 72) (pc2 := 97) rfl (by decide) (by decide) (fun (c69 : (33 : Int32) = (9 : Int32)) => False.elim (by first | omega | exact absurd c69 (by decide))) (fun (c69 : ¬ (33 : Int32) = (9 : Int32)) => ?_)
  refine go_iloadN C X14 73 rfl d7_72 rfl ?_
  refine go_bipush C X14 75 rfl d7_73 (z := 10) rfl ?_
  refine go_icmp_eq C X14 d7_75 (pc' := 78) (pc2 := 97) rfl (by decide) (by decide) (fun (c75 : (33 : Int32) = (10 : Int32)) => False.elim (by first | omega | exact absurd c75 (by decide))) (fun (c75 : ¬ (33 : Int32) = (10 : Int32)) => ?_)
  refine go_iloadN C X14 79 rfl d7_78 rfl ?_
  refine go_bipush C X14 81 rfl d7_79 (z := 13) rfl ?_
  refine go_icmp_eq C X14 d7_81 (pc' := 84) (pc2 := 97) rfl (by decide) (by decide) (fun (c81 : (33 : Int32) = (13 : Int32)) => False.elim (by first | omega | exact absurd c81 (by decide))) (fun (c81 : ¬ (33 : Int32) = (13 : Int32)) => ?_)
  refine go_aloadN C X14 85 rfl d7_84 rfl rfl ?_
  refine go_getF C X14 (C.w 24 rfl) Via.refl F20 (pc' := 88) rfl d7_85 (fun T27 X28 => ?_)
  refine go_if_ne C X28 d7_88 (pc' := 91) (pc2 := 99) rfl (by decide) (by decide) (fun (c88 : ¬ (1 : Int32) = (0 : Int32)) => ?_) (fun (c88 : (1 : Int32) = (0 : Int32)) => False.elim (by first | omega | exact absurd c88 (by decide)))
  refine go_aloadN C X28 100 rfl d7_99 rfl rfl ?_
  refine go_iconst C X28 101 rfl d7_100 (z := 1) rfl ?_
  refine go_putFN C X28 (C.w 24 rfl) Via.refl F20 E18 (Or.inl (C.w 25 rfl)) (C.w 9 rfl) ga (ty := .boolean) (by decide) (v' := (.int (1 : Int32))) rfl rfl (pc' := 104) rfl d7_101 (fun T29 h31 W32 X30 => ?_)
  have F33 := F20.same W32
  have E34 := E18.wr W32
  have F35 := F19.other W32 (Or.inr (slot_ne (Or.inl (C.w 23 rfl)) (Or.inl (C.w 25 rfl)) (by decide) (t := .long) (t' := .boolean) (by decide) (by decide)))
  have F36 := F21.other W32 (Or.inr (slot_ne (Or.inl (C.w 27 rfl)) (Or.inl (C.w 25 rfl)) (by decide) (t := .boolean) (t' := .boolean) (by decide) (by decide)))
  have F37 := F22.other W32 (Or.inr (slot_ne (Or.inl (C.w 29 rfl)) (Or.inl (C.w 25 rfl)) (by decide) (t := .boolean) (t' := .boolean) (by decide) (by decide)))
  have F38 := F23.other W32 (Or.inr (slot_ne (Or.inl (C.w 31 rfl)) (Or.inl (C.w 25 rfl)) (by decide) (t := .boolean) (t' := .boolean) (by decide) (by decide)))
  have F39 := F24.other W32 (Or.inr (slot_ne (Or.inl (C.w 33 rfl)) (Or.inl (C.w 25 rfl)) (by decide) (t := .boolean) (t' := .boolean) (by decide) (by decide)))
  have F40 := F25.other W32 (Or.inr (slot_ne (Or.inl (C.w 35 rfl)) (Or.inl (C.w 25 rfl)) (by decide) (t := .boolean) (t' := .boolean) (by decide) (by decide)))
  have F41 := F17.other W32 (Or.inr (slot_ne (Or.inl (C.w 37 rfl)) (Or.inl (C.w 25 rfl)) (by decide) (t := .boolean) (t' := .boolean) (by decide) (by decide)))
  have K42 := K26.wr W32 (Or.inl (List.mem_of_getElem? (i := 0) rfl))
  refine go_iconst C X30 105 rfl d7_104 (z := 0) rfl ?_
  refine go_istore C X30 107 rfl d7_105 #[rv a, iv (33 : Int32), iv (1 : Int32), iv (1 : Int32), iv (0 : Int32)] rfl ?_
  refine go_iloadN C X30 108 rfl d7_107 rfl ?_
  refine go_bipush C X30 110 rfl d7_108 (z := 63) rfl ?_
  refine go_icmp_eq C X30 d7_110 (pc' := 113) (pc2 := 123) rfl (by decide) (by decide) (fun (c110 : (33 : Int32) = (63 : Int32)) => False.elim (by first | omega | exact absurd c110 (by decide))) (fun (c110 : ¬ (33 : Int32) = (63 : Int32)) => ?_)
  refine go_iloadN C X30 114 rfl d7_113 rfl ?_
  refine go_bipush C X30 116 rfl d7_114 (z := 35) rfl ?_
  refine go_icmp_ne C X30 d7_116 (pc' := 119) (pc2 := 141) rfl (by decide) (by decide) (fun (c116 : ¬ (33 : Int32) = (35 : Int32)) => ?_) (fun (c116 : (33 : Int32) = (35 : Int32)) => False.elim (by first | omega | exact absurd c116 (by decide)))
  refine go_iloadN C X30 142 rfl d7_141 rfl ?_
  refine go_bipush C X30 144 rfl d7_142 (z := 58) rfl ?_
  refine go_icmp_eq C X30 d7_144 (pc' := 147) (pc2 := 153) rfl (by decide) (by decide) (fun (c144 : (33 : Int32) = (58 : Int32)) => False.elim (by first | omega | exact absurd c144 (by decide))) (fun (c144 : ¬ (33 : Int32) = (58 : Int32)) => ?_)
  refine go_iloadN C X30 148 rfl d7_147 rfl ?_
  refine go_bipush C X30 150 rfl d7_148 (z := 47) rfl ?_
  refine go_icmp_ne C X30 d7_150 (pc' := 153) (pc2 := 161) rfl (by decide) (by decide) (fun (c150 : ¬ (33 : Int32) = (47 : Int32)) => ?_) (fun (c150 : (33 : Int32) = (47 : Int32)) => False.elim (by first | omega | exact absurd c150 (by decide)))
  refine go_aloadN C X30 162 rfl d7_161 rfl rfl ?_
  refine go_getF C X30 (C.w 28 rfl) Via.refl F37 (pc' := 165) rfl d7_162 (fun T43 X44 => ?_)
  refine go_if_ne C X44 d7_165 (pc' := 168) (pc2 := 236) rfl (by decide) (by decide) (fun (c165 : ¬ (0 : Int32) = (0 : Int32)) => False.elim (by first | omega | exact absurd c165 (by decide))) (fun (c165 : (0 : Int32) = (0 : Int32)) => ?_)
  refine go_aloadN C X44 169 rfl d7_168 rfl rfl ?_
  refine go_dup C X44 170 rfl d7_169 rfl ?_
  refine go_getF C X44 (C.w 32 rfl) Via.refl F39 (pc' := 173) rfl d7_170 (fun T45 X46 => ?_)
  refine go_iloadN C X46 174 rfl d7_173 rfl ?_
  refine go_if_eq C X46 d7_174 (pc' := 177) (pc2 := 187) rfl (by decide) (by decide) (fun (c174 : (1 : Int32) = (0 : Int32)) => False.elim (by first | omega | exact absurd c174 (by decide))) (fun (c174 : ¬ (1 : Int32) = (0 : Int32)) => ?_)
  refine go_iloadN C X46 178 rfl d7_177 rfl ?_
  refine go_bipush C X46 180 rfl d7_178 (z := 38) rfl ?_
  refine go_icmp_ne C X46 d7_180 (pc' := 183) (pc2 := 187) rfl (by decide) (by decide) (fun (c180 : ¬ (33 : Int32) = (38 : Int32)) => ?_) (fun (c180 : (33 : Int32) = (38 : Int32)) => False.elim (by first | omega | exact absurd c180 (by decide)))
  refine go_iconst C X46 188 rfl d7_187 (z := 0) rfl ?_
  refine go_iorL C X46 189 rfl d7_188 (z := (1)) rfl ?_
  refine go_putFN C X46 (C.w 32 rfl) Via.refl F39 E34 (Or.inl (C.w 33 rfl)) (C.w 9 rfl) ga (ty := .boolean) (by decide) (v' := (.int (1 : Int32))) rfl rfl (pc' := 192) rfl d7_189 (fun T47 h49 W50 X48 => ?_)
  have F51 := F39.same W50
  have E52 := E34.wr W50
  have F53 := F35.other W50 (Or.inr (slot_ne (Or.inl (C.w 23 rfl)) (Or.inl (C.w 33 rfl)) (by decide) (t := .long) (t' := .boolean) (by decide) (by decide)))
  have F54 := F33.other W50 (Or.inr (slot_ne (Or.inl (C.w 25 rfl)) (Or.inl (C.w 33 rfl)) (by decide) (t := .boolean) (t' := .boolean) (by decide) (by decide)))
  have F55 := F36.other W50 (Or.inr (slot_ne (Or.inl (C.w 27 rfl)) (Or.inl (C.w 33 rfl)) (by decide) (t := .boolean) (t' := .boolean) (by decide) (by decide)))
  have F56 := F37.other W50 (Or.inr (slot_ne (Or.inl (C.w 29 rfl)) (Or.inl (C.w 33 rfl)) (by decide) (t := .boolean) (t' := .boolean) (by decide) (by decide)))
  have F57 := F38.other W50 (Or.inr (slot_ne (Or.inl (C.w 31 rfl)) (Or.inl (C.w 33 rfl)) (by decide) (t := .boolean) (t' := .boolean) (by decide) (by decide)))
  have F58 := F40.other W50 (Or.inr (slot_ne (Or.inl (C.w 35 rfl)) (Or.inl (C.w 33 rfl)) (by decide) (t := .boolean) (t' := .boolean) (by decide) (by decide)))
  have F59 := F41.other W50 (Or.inr (slot_ne (Or.inl (C.w 37 rfl)) (Or.inl (C.w 33 rfl)) (by decide) (t := .boolean) (t' := .boolean) (by decide) (by decide)))
  have K60 := K42.wr W50 (Or.inl (List.mem_of_getElem? (i := 0) rfl))
  refine go_aloadN C X48 193 rfl d7_192 rfl rfl ?_
  refine go_dup C X48 194 rfl d7_193 rfl ?_
  refine go_getF C X48 (C.w 26 rfl) Via.refl F55 (pc' := 197) rfl d7_194 (fun T61 X62 => ?_)
  refine go_aloadN C X62 198 rfl d7_197 rfl rfl ?_
  refine go_getF C X62 (C.w 22 rfl) Via.refl F53 (pc' := 201) rfl d7_198 (fun T63 X64 => ?_)
  refine go_lconst C X64 202 rfl d7_201 (z := 0) rfl ?_
  refine go_lif_ne C X64 (pc1 := 203) rfl d7_202 d7_203 (pc' := 206) (pc2 := 213) rfl (by decide) (by decide) (fun (c203 : ¬ (-1 : Int64) = (0 : Int64)) => ?_) (fun (c203 : (-1 : Int64) = (0 : Int64)) => False.elim (by first | omega | exact absurd c203 (by decide)))
  refine go_iloadN C X64 214 rfl d7_213 rfl ?_
  refine go_callS C X64 (C.w 135 rfl) (C.w 136 rfl) (C.w 10 rfl) (C.w 137 rfl) (own_p26_91 l Z a0 C.ws  h49 n0 X64.old ) (argsL := [(.int (33 : Int32))]) (rest := [(.int (0 : Int32)), (.ref a)]) (lenOf pd_0 rfl) rfl (by decide) (by decide) (Nat.le_of_ble_eq_true rfl) (by decide) (by decide) rfl rfl (pc' := 217) rfl d7_214 ?_
  rintro T65 _ _ ⟨rfl, rfl⟩ X66
  show Go p e below _ (T65.setTop (mkF m 217 #[rv a, iv (33 : Int32), iv (1 : Int32), iv (1 : Int32), iv (0 : Int32)] [(.int (0 : Int32)), (.int (0 : Int32)), (.ref a)]))
  refine go_iandL C X66 218 rfl d7_217 (z := (0)) rfl ?_
  refine go_putFN C X66 (C.w 26 rfl) Via.refl F55 E52 (Or.inl (C.w 27 rfl)) (C.w 9 rfl) ga (ty := .boolean) (by decide) (v' := (.int (0 : Int32))) rfl rfl (pc' := 221) rfl d7_218 (fun T68 h70 W71 X69 => ?_)
  have F72 := F55.same W71
  have E73 := E52.wr W71
  have F74 := F53.other W71 (Or.inr (slot_ne (Or.inl (C.w 23 rfl)) (Or.inl (C.w 27 rfl)) (by decide) (t := .long) (t' := .boolean) (by decide) (by decide)))
  have F75 := F54.other W71 (Or.inr (slot_ne (Or.inl (C.w 25 rfl)) (Or.inl (C.w 27 rfl)) (by decide) (t := .boolean) (t' := .boolean) (by decide) (by decide)))
  have F76 := F56.other W71 (Or.inr (slot_ne (Or.inl (C.w 29 rfl)) (Or.inl (C.w 27 rfl)) (by decide) (t := .boolean) (t' := .boolean) (by decide) (by decide)))
  have F77 := F57.other W71 (Or.inr (slot_ne (Or.inl (C.w 31 rfl)) (Or.inl (C.w 27 rfl)) (by decide) (t := .boolean) (t' := .boolean) (by decide) (by decide)))
  have F78 := F51.other W71 (Or.inr (slot_ne (Or.inl (C.w 33 rfl)) (Or.inl (C.w 27 rfl)) (by decide) (t := .boolean) (t' := .boolean) (by decide) (by decide)))
  have F79 := F58.other W71 (Or.inr (slot_ne (Or.inl (C.w 35 rfl)) (Or.inl (C.w 27 rfl)) (by decide) (t := .boolean) (t' := .boolean) (by decide) (by decide)))
  have F80 := F59.other W71 (Or.inr (slot_ne (Or.inl (C.w 37 rfl)) (Or.inl (C.w 27 rfl)) (by decide) (t := .boolean) (t' := .boolean) (by decide) (by decide)))
  have K81 := K60.wr W71 (Or.inl (List.mem_of_getElem? (i := 0) rfl))
  refine go_aloadN C X69 222 rfl d7_221 rfl rfl ?_
  refine go_aloadN C X69 223 rfl d7_222 rfl rfl ?_
  refine go_getF C X69 (C.w 22 rfl) Via.refl F74 (pc' := 226) rfl d7_223 (fun T82 X83 => ?_)
  refine go_iloadN C X83 227 rfl d7_226 rfl ?_
  refine go_callS C X83 (C.w 63 rfl) (C.w 64 rfl) (C.w 65 rfl) (C.w 66 rfl) (own_p12_92 l Z a0 C.ws  h70 n0 X83.old ) (argsL := [(.long (-1 : Int64)), (.int (33 : Int32))]) (rest := [(.ref a)]) (lenOf pd_5 rfl) rfl (by decide) (by decide) (Nat.le_of_ble_eq_true rfl) (by decide) (by decide) rfl rfl (pc' := 230) rfl d7_227 ?_
  rintro T84 _ _ ⟨rfl, rfl⟩ X85
  show Go p e below _ (T84.setTop (mkF m 230 #[rv a, iv (33 : Int32), iv (1 : Int32), iv (1 : Int32), iv (0 : Int32)] [(.long (-1 : Int64)), (.ref a)]))
  refine go_putF C X85 (C.w 22 rfl) Via.refl F74 E73 (Or.inl (C.w 23 rfl)) (C.w 9 rfl) ga (ty := .long) (by decide) rfl rfl (pc' := 233) rfl d7_230 (fun T87 h89 W90 X88 => ?_)
  have F91 := F74.same W90
  have E92 := E73.wr W90
  have F93 := F75.other W90 (Or.inr (slot_ne (Or.inl (C.w 25 rfl)) (Or.inl (C.w 23 rfl)) (by decide) (t := .boolean) (t' := .long) (by decide) (by decide)))
  have F94 := F72.other W90 (Or.inr (slot_ne (Or.inl (C.w 27 rfl)) (Or.inl (C.w 23 rfl)) (by decide) (t := .boolean) (t' := .long) (by decide) (by decide)))
  have F95 := F76.other W90 (Or.inr (slot_ne (Or.inl (C.w 29 rfl)) (Or.inl (C.w 23 rfl)) (by decide) (t := .boolean) (t' := .long) (by decide) (by decide)))
  have F96 := F77.other W90 (Or.inr (slot_ne (Or.inl (C.w 31 rfl)) (Or.inl (C.w 23 rfl)) (by decide) (t := .boolean) (t' := .long) (by decide) (by decide)))
  have F97 := F78.other W90 (Or.inr (slot_ne (Or.inl (C.w 33 rfl)) (Or.inl (C.w 23 rfl)) (by decide) (t := .boolean) (t' := .long) (by decide) (by decide)))
  have F98 := F79.other W90 (Or.inr (slot_ne (Or.inl (C.w 35 rfl)) (Or.inl (C.w 23 rfl)) (by decide) (t := .boolean) (t' := .long) (by decide) (by decide)))
  have F99 := F80.other W90 (Or.inr (slot_ne (Or.inl (C.w 37 rfl)) (Or.inl (C.w 23 rfl)) (by decide) (t := .boolean) (t' := .long) (by decide) (by decide)))
  have K100 := K81.wr W90 (Or.inl (List.mem_of_getElem? (i := 0) rfl))
  refine go_iconst C X88 234 rfl d7_233 (z := 1) rfl ?_
  refine go_istore C X88 236 rfl d7_234 #[rv a, iv (33 : Int32), iv (1 : Int32), iv (1 : Int32), iv (1 : Int32)] rfl ?_
  refine go_iload C X88 238 rfl d7_236 rfl ?_
  exact go_retN C X88 (by simp) (z' := 1) rfl d7_238 ⟨rfl, K100, E92, F91, F93, F94, F95, F96, F97, F98, F99⟩ (by decide) (by decide)
theorem ef_own_u6_88 (m : MethodId) (a : Addr)  : entryFrame m #[(.ref a), (.int (33 : Int32))] 3 = mkF m 0 #[rv a, iv (33 : Int32), un] [] := by
  first | (simp [entryFrame, mkF, argsToLocals, Value.category]; done) | rfl
set_option maxRecDepth 65536 in
set_option maxHeartbeats 40000000 in
theorem own_u6_88 (l : Launch) (Z : State) (a0 : Array Value) (hw : ∀ d ∈ tables_1, d.before a0 Z = true) (a : Addr)  (h : Heap) (n0 : Nat) (hn0 : Old Z n0 h) (E0 : Exa Z h a "com/example/plantilla/plantilla/UrlValue") (FF0 : Fld Z h a "com/example/plantilla/plantilla/UrlValue" "start" "J" (.long (-1 : Int64))) (FF1 : Fld Z h a "com/example/plantilla/plantilla/UrlValue" "begun" "Z" (.int (1 : Int32))) (FF2 : Fld Z h a "com/example/plantilla/plantilla/UrlValue" "schemeLike" "Z" (.int (0 : Int32))) (FF3 : Fld Z h a "com/example/plantilla/plantilla/UrlValue" "delimited" "Z" (.int (0 : Int32))) (FF4 : Fld Z h a "com/example/plantilla/plantilla/UrlValue" "query" "Z" (.int (0 : Int32))) (FF5 : Fld Z h a "com/example/plantilla/plantilla/UrlValue" "reference" "Z" (.int (1 : Int32))) (FF6 : Fld Z h a "com/example/plantilla/plantilla/UrlValue" "holding" "Z" (.int (0 : Int32))) (FF7 : Fld Z h a "com/example/plantilla/plantilla/UrlValue" "referenceOpen" "Z" (.int (1 : Int32))) (ga : n0 ≤ a)  :
    Con l Z (⟨"com/example/plantilla/plantilla/UrlValue", "read", "(C)Z"⟩ : MethodName) prog_44_method_8_code 3 (some .boolean) ({ frames := 3, cells := 0, slots := 0, locals := 47 } : Room) #[(.ref a), (.int (33 : Int32))] h n0 (fun v h' => v = some (.int (0 : Int32)) ∧ Keep h h' [a] ∧ Exa Z h' a "com/example/plantilla/plantilla/UrlValue" ∧ Fld Z h' a "com/example/plantilla/plantilla/UrlValue" "start" "J" (.long (-1 : Int64)) ∧ Fld Z h' a "com/example/plantilla/plantilla/UrlValue" "begun" "Z" (.int (1 : Int32)) ∧ Fld Z h' a "com/example/plantilla/plantilla/UrlValue" "schemeLike" "Z" (.int (0 : Int32)) ∧ Fld Z h' a "com/example/plantilla/plantilla/UrlValue" "delimited" "Z" (.int (0 : Int32)) ∧ Fld Z h' a "com/example/plantilla/plantilla/UrlValue" "query" "Z" (.int (0 : Int32)) ∧ Fld Z h' a "com/example/plantilla/plantilla/UrlValue" "reference" "Z" (.int (1 : Int32)) ∧ Fld Z h' a "com/example/plantilla/plantilla/UrlValue" "holding" "Z" (.int (0 : Int32)) ∧ Fld Z h' a "com/example/plantilla/plantilla/UrlValue" "referenceOpen" "Z" (.int (0 : Int32))) := by
  refine con_of hw (plainFor_of_name pn_com_example_plantilla_plantilla_UrlValue) hn0 ?_
  intro p e s m below meth c T0 C X0
  refine Go.cast (congrArg T0.setTop (ef_own_u6_88 m a)) ?_
  refine go_aloadN C X0 1 rfl d6_0 rfl rfl ?_
  refine go_getF C X0 (C.w 34 rfl) Via.refl FF6 (pc' := 4) rfl d6_1 (fun T1 X2 => ?_)
  refine go_if_eq C X2 d6_4 (pc' := 7) (pc2 := 30) rfl (by decide) (by decide) (fun (c4 : (0 : Int32) = (0 : Int32)) => ?_) (fun (c4 : ¬ (0 : Int32) = (0 : Int32)) => False.elim (by first | omega | exact absurd c4 (by decide)))
  refine go_iconst C X2 31 rfl d6_30 (z := 0) rfl ?_
  refine go_istoreN C X2 32 rfl d6_31 #[rv a, iv (33 : Int32), iv (0 : Int32)] rfl ?_
  refine go_iloadN C X2 33 rfl d6_32 rfl ?_
  refine go_if_eq C X2 d6_33 (pc' := 36) (pc2 := 40) rfl (by decide) (by decide) (fun (c33 : (0 : Int32) = (0 : Int32)) => ?_) (fun (c33 : ¬ (0 : Int32) = (0 : Int32)) => False.elim (by first | omega | exact absurd c33 (by decide)))
  refine go_aloadN C X2 41 rfl d6_40 rfl rfl ?_
  refine go_iloadN C X2 42 rfl d6_41 rfl ?_
  refine go_iconst C X2 43 rfl d6_42 (z := 1) rfl ?_
  refine go_private C X2 E0 (C.w 43 rfl) (C.w 44 rfl) (Jvm.Kit.selects_private (by decide) (C.w 9 rfl) (C.w 45 rfl) (C.w 44 rfl)) (C.w 45 rfl) (C.w 10 rfl) (C.w 46 rfl) (own_u7_89 l Z a0 C.ws a h n0 X2.old E0 FF0 FF1 FF2 FF3 FF4 FF5 FF6 FF7 ga ) (argsL := [(.int (33 : Int32)), (.int (1 : Int32))]) (rest := []) (lenOf pd_6 rfl) rfl (by decide) (by decide) (Nat.le_of_ble_eq_true rfl) (by decide) (by decide) rfl rfl (pc' := 46) rfl d6_43 ?_
  rintro T3 h5 _ ⟨rfl, Kq6, Eq6, Fq60, Fq61, Fq62, Fq63, Fq64, Fq65, Fq66, Fq67⟩ X4
  show Go p e below _ (T3.setTop (mkF m 46 #[rv a, iv (33 : Int32), iv (0 : Int32)] [(.int (1 : Int32))]))
  have E7 := E0.keep Kq6
  have K8 := (Keep.refl h [a]).trans Kq6 (allS (Or.inl (List.mem_of_getElem? (i := 0) rfl)) all0)
  refine go_pop C X4 47 rfl d6_46 rfl ?_
  refine go_aloadN C X4 48 rfl d6_47 rfl rfl ?_
  refine go_dup C X4 49 rfl d6_48 rfl ?_
  refine go_getF C X4 (C.w 34 rfl) Via.refl Fq66 (pc' := 52) rfl d6_49 (fun T9 X10 => ?_)
  refine go_aloadN C X10 53 rfl d6_52 rfl rfl ?_
  refine go_getF C X10 (C.w 28 rfl) Via.refl Fq63 (pc' := 56) rfl d6_53 (fun T11 X12 => ?_)
  refine go_if_ne C X12 d6_56 (pc' := 59) (pc2 := 77) rfl (by decide) (by decide) (fun (c56 : ¬ (0 : Int32) = (0 : Int32)) => False.elim (by first | omega | exact absurd c56 (by decide))) (fun (c56 : (0 : Int32) = (0 : Int32)) => ?_)
  refine go_aloadN C X12 60 rfl d6_59 rfl rfl ?_
  refine go_getF C X12 (C.w 26 rfl) Via.refl Fq62 (pc' := 63) rfl d6_60 (fun T13 X14 => ?_)
  refine go_if_ne C X14 d6_63 (pc' := 66) (pc2 := 73) rfl (by decide) (by decide) (fun (c63 : ¬ (0 : Int32) = (0 : Int32)) => False.elim (by first | omega | exact absurd c63 (by decide))) (fun (c63 : (0 : Int32) = (0 : Int32)) => ?_)
  refine go_aloadN C X14 67 rfl d6_66 rfl rfl ?_
  refine go_getF C X14 (C.w 32 rfl) Via.refl Fq65 (pc' := 70) rfl d6_67 (fun T15 X16 => ?_)
  refine go_if_eq C X16 d6_70 (pc' := 73) (pc2 := 77) rfl (by decide) (by decide) (fun (c70 : (1 : Int32) = (0 : Int32)) => False.elim (by first | omega | exact absurd c70 (by decide))) (fun (c70 : ¬ (1 : Int32) = (0 : Int32)) => ?_)
  refine go_iconst C X16 74 rfl d6_73 (z := 1) rfl ?_
  refine go_goto C X16 d6_74 (pc' := 78) (by decide) (by decide) ?_
  refine go_iandL C X16 79 rfl d6_78 (z := (0)) rfl ?_
  refine go_putFN C X16 (C.w 34 rfl) Via.refl Fq66 Eq6 (Or.inl (C.w 35 rfl)) (C.w 9 rfl) ga (ty := .boolean) (by decide) (v' := (.int (0 : Int32))) rfl rfl (pc' := 82) rfl d6_79 (fun T17 h19 W20 X18 => ?_)
  have F21 := Fq66.same W20
  have E22 := Eq6.wr W20
  have F23 := Fq60.other W20 (Or.inr (slot_ne (Or.inl (C.w 23 rfl)) (Or.inl (C.w 35 rfl)) (by decide) (t := .long) (t' := .boolean) (by decide) (by decide)))
  have F24 := Fq61.other W20 (Or.inr (slot_ne (Or.inl (C.w 25 rfl)) (Or.inl (C.w 35 rfl)) (by decide) (t := .boolean) (t' := .boolean) (by decide) (by decide)))
  have F25 := Fq62.other W20 (Or.inr (slot_ne (Or.inl (C.w 27 rfl)) (Or.inl (C.w 35 rfl)) (by decide) (t := .boolean) (t' := .boolean) (by decide) (by decide)))
  have F26 := Fq63.other W20 (Or.inr (slot_ne (Or.inl (C.w 29 rfl)) (Or.inl (C.w 35 rfl)) (by decide) (t := .boolean) (t' := .boolean) (by decide) (by decide)))
  have F27 := Fq64.other W20 (Or.inr (slot_ne (Or.inl (C.w 31 rfl)) (Or.inl (C.w 35 rfl)) (by decide) (t := .boolean) (t' := .boolean) (by decide) (by decide)))
  have F28 := Fq65.other W20 (Or.inr (slot_ne (Or.inl (C.w 33 rfl)) (Or.inl (C.w 35 rfl)) (by decide) (t := .boolean) (t' := .boolean) (by decide) (by decide)))
  have F29 := Fq67.other W20 (Or.inr (slot_ne (Or.inl (C.w 37 rfl)) (Or.inl (C.w 35 rfl)) (by decide) (t := .boolean) (t' := .boolean) (by decide) (by decide)))
  have K30 := K8.wr W20 (Or.inl (List.mem_of_getElem? (i := 0) rfl))
  refine go_iloadN C X18 83 rfl d6_82 rfl ?_
  exact go_retN C X18 (by simp) (z' := 0) rfl d6_83 ⟨rfl, K30, E22, F23, F24, F25, F26, F27, F28, F21, F29⟩ (by decide) (by decide)
theorem d2_96 : decode method_4_code 96 = .ok (.invokevirtual 32, 3) := by decide +kernel
theorem d2_99 : decode method_4_code 99 = .ok (.pop, 1) := by decide +kernel
theorem d2_100 : decode method_4_code 100 = .ok (.goto 73, 3) := by decide +kernel
theorem d2_70 : decode method_4_code 70 = .ok (.aload_n 2, 1) := by decide +kernel
theorem d2_71 : decode method_4_code 71 = .ok (.bipush 38, 2) := by decide +kernel
theorem d2_73 : decode method_4_code 73 = .ok (.invokevirtual 32, 3) := by decide +kernel
theorem d2_76 : decode method_4_code 76 = .ok (.pop, 1) := by decide +kernel
theorem d2_77 : decode method_4_code 77 = .ok (.goto 96, 3) := by decide +kernel
theorem d2_55 : decode method_4_code 55 = .ok (.aload_n 2, 1) := by decide +kernel
theorem d2_56 : decode method_4_code 56 = .ok (.bipush 33, 2) := by decide +kernel
theorem d2_58 : decode method_4_code 58 = .ok (.invokevirtual 32, 3) := by decide +kernel
theorem d2_61 : decode method_4_code 61 = .ok (.pop, 1) := by decide +kernel
theorem d2_62 : decode method_4_code 62 = .ok (.goto 111, 3) := by decide +kernel
theorem d2_40 : decode method_4_code 40 = .ok (.aload_n 2, 1) := by decide +kernel
theorem d2_41 : decode method_4_code 41 = .ok (.bipush 63, 2) := by decide +kernel
theorem d7_123 : decode prog_44_method_13_code 123 = .ok (.aload_n 0, 1) := by decide +kernel
theorem d7_124 : decode prog_44_method_13_code 124 = .ok (.iconst 1, 1) := by decide +kernel
theorem d7_125 : decode prog_44_method_13_code 125 = .ok (.putfield 29, 3) := by decide +kernel
theorem d7_128 : decode prog_44_method_13_code 128 = .ok (.aload_n 0, 1) := by decide +kernel
theorem d7_129 : decode prog_44_method_13_code 129 = .ok (.dup, 1) := by decide +kernel
theorem d7_130 : decode prog_44_method_13_code 130 = .ok (.getfield 32, 3) := by decide +kernel
theorem d7_133 : decode prog_44_method_13_code 133 = .ok (.iload_n 2, 1) := by decide +kernel
theorem d7_134 : decode prog_44_method_13_code 134 = .ok (.ior, 1) := by decide +kernel
theorem d7_135 : decode prog_44_method_13_code 135 = .ok (.putfield 32, 3) := by decide +kernel
theorem d7_138 : decode prog_44_method_13_code 138 = .ok (.goto 98, 3) := by decide +kernel
theorem ef_own_u7_94 (m : MethodId) (a : Addr)  : entryFrame m #[(.ref a), (.int (63 : Int32)), (.int (1 : Int32))] 5 = mkF m 0 #[rv a, iv (63 : Int32), iv (1 : Int32), un, un] [] := by
  first | (simp [entryFrame, mkF, argsToLocals, Value.category]; done) | rfl
set_option maxRecDepth 65536 in
set_option maxHeartbeats 40000000 in
theorem own_u7_94 (l : Launch) (Z : State) (a0 : Array Value) (hw : ∀ d ∈ tables_1, d.before a0 Z = true) (a : Addr)  (h : Heap) (n0 : Nat) (hn0 : Old Z n0 h) (E0 : Exa Z h a "com/example/plantilla/plantilla/UrlValue") (FF0 : Fld Z h a "com/example/plantilla/plantilla/UrlValue" "start" "J" (.long (0 : Int64))) (FF1 : Fld Z h a "com/example/plantilla/plantilla/UrlValue" "begun" "Z" (.int (0 : Int32))) (FF2 : Fld Z h a "com/example/plantilla/plantilla/UrlValue" "schemeLike" "Z" (.int (1 : Int32))) (FF3 : Fld Z h a "com/example/plantilla/plantilla/UrlValue" "delimited" "Z" (.int (0 : Int32))) (FF4 : Fld Z h a "com/example/plantilla/plantilla/UrlValue" "query" "Z" (.int (0 : Int32))) (FF5 : Fld Z h a "com/example/plantilla/plantilla/UrlValue" "reference" "Z" (.int (0 : Int32))) (FF6 : Fld Z h a "com/example/plantilla/plantilla/UrlValue" "holding" "Z" (.int (0 : Int32))) (FF7 : Fld Z h a "com/example/plantilla/plantilla/UrlValue" "referenceOpen" "Z" (.int (0 : Int32))) (ga : n0 ≤ a)  :
    Con l Z (⟨"com/example/plantilla/plantilla/UrlValue", "take", "(CZ)Z"⟩ : MethodName) prog_44_method_13_code 5 (some .boolean) ({ frames := 0, cells := 0, slots := 0, locals := 0 } : Room) #[(.ref a), (.int (63 : Int32)), (.int (1 : Int32))] h n0 (fun v h' => v = some (.int (0 : Int32)) ∧ Keep h h' [a] ∧ Exa Z h' a "com/example/plantilla/plantilla/UrlValue" ∧ Fld Z h' a "com/example/plantilla/plantilla/UrlValue" "start" "J" (.long (0 : Int64)) ∧ Fld Z h' a "com/example/plantilla/plantilla/UrlValue" "begun" "Z" (.int (1 : Int32)) ∧ Fld Z h' a "com/example/plantilla/plantilla/UrlValue" "schemeLike" "Z" (.int (1 : Int32)) ∧ Fld Z h' a "com/example/plantilla/plantilla/UrlValue" "delimited" "Z" (.int (1 : Int32)) ∧ Fld Z h' a "com/example/plantilla/plantilla/UrlValue" "query" "Z" (.int (1 : Int32)) ∧ Fld Z h' a "com/example/plantilla/plantilla/UrlValue" "reference" "Z" (.int (0 : Int32)) ∧ Fld Z h' a "com/example/plantilla/plantilla/UrlValue" "holding" "Z" (.int (0 : Int32)) ∧ Fld Z h' a "com/example/plantilla/plantilla/UrlValue" "referenceOpen" "Z" (.int (0 : Int32))) := by
  refine con_of hw (plainFor_of_name pn_com_example_plantilla_plantilla_UrlValue) hn0 ?_
  intro p e s m below meth c T0 C X0
  refine Go.cast (congrArg T0.setTop (ef_own_u7_94 m a)) ?_
  refine go_aloadN C X0 1 rfl d7_0 rfl rfl ?_
  refine go_getF C X0 (C.w 36 rfl) Via.refl FF7 (pc' := 4) rfl d7_1 (fun T1 X2 => ?_)
  refine go_if_eq C X2 d7_4 (pc' := 7) (pc2 := 18) rfl (by decide) (by decide) (fun (c4 : (0 : Int32) = (0 : Int32)) => ?_) (fun (c4 : ¬ (0 : Int32) = (0 : Int32)) => False.elim (by first | omega | exact absurd c4 (by decide)))
  refine go_iconst C X2 19 rfl d7_18 (z := 0) rfl ?_
  refine go_istoreN C X2 20 rfl d7_19 #[rv a, iv (63 : Int32), iv (1 : Int32), iv (0 : Int32), un] rfl ?_
  refine go_aloadN C X2 21 rfl d7_20 rfl rfl ?_
  refine go_iloadN C X2 22 rfl d7_21 rfl ?_
  refine go_if_eq C X2 d7_22 (pc' := 25) (pc2 := 62) rfl (by decide) (by decide) (fun (c22 : (1 : Int32) = (0 : Int32)) => False.elim (by first | omega | exact absurd c22 (by decide))) (fun (c22 : ¬ (1 : Int32) = (0 : Int32)) => ?_)
  refine go_iloadN C X2 26 rfl d7_25 rfl ?_
  refine go_bipush C X2 28 rfl d7_26 (z := 38) rfl ?_
  refine go_icmp_eq C X2 d7_28 (pc' := 31) (pc2 := 58) rfl (by decide) (by decide) (fun (c28 : (63 : Int32) = (38 : Int32)) => False.elim (by first | omega | exact absurd c28 (by decide))) (fun (c28 : ¬ (63 : Int32) = (38 : Int32)) => ?_)
  refine go_aloadN C X2 32 rfl d7_31 rfl rfl ?_
  refine go_getF C X2 (C.w 36 rfl) Via.refl FF7 (pc' := 35) rfl d7_32 (fun T3 X4 => ?_)
  refine go_if_eq C X4 d7_35 (pc' := 38) (pc2 := 62) rfl (by decide) (by decide) (fun (c35 : (0 : Int32) = (0 : Int32)) => ?_) (fun (c35 : ¬ (0 : Int32) = (0 : Int32)) => False.elim (by first | omega | exact absurd c35 (by decide)))
  refine go_iconst C X4 63 rfl d7_62 (z := 0) rfl ?_
  refine go_putFN C X4 (C.w 36 rfl) Via.refl FF7 E0 (Or.inl (C.w 37 rfl)) (C.w 9 rfl) ga (ty := .boolean) (by decide) (v' := (.int (0 : Int32))) rfl rfl (pc' := 66) rfl d7_63 (fun T5 h7 W8 X6 => ?_)
  have F9 := FF7.same W8
  have E10 := E0.wr W8
  have F11 := FF0.other W8 (Or.inr (slot_ne (Or.inl (C.w 23 rfl)) (Or.inl (C.w 37 rfl)) (by decide) (t := .long) (t' := .boolean) (by decide) (by decide)))
  have F12 := FF1.other W8 (Or.inr (slot_ne (Or.inl (C.w 25 rfl)) (Or.inl (C.w 37 rfl)) (by decide) (t := .boolean) (t' := .boolean) (by decide) (by decide)))
  have F13 := FF2.other W8 (Or.inr (slot_ne (Or.inl (C.w 27 rfl)) (Or.inl (C.w 37 rfl)) (by decide) (t := .boolean) (t' := .boolean) (by decide) (by decide)))
  have F14 := FF3.other W8 (Or.inr (slot_ne (Or.inl (C.w 29 rfl)) (Or.inl (C.w 37 rfl)) (by decide) (t := .boolean) (t' := .boolean) (by decide) (by decide)))
  have F15 := FF4.other W8 (Or.inr (slot_ne (Or.inl (C.w 31 rfl)) (Or.inl (C.w 37 rfl)) (by decide) (t := .boolean) (t' := .boolean) (by decide) (by decide)))
  have F16 := FF5.other W8 (Or.inr (slot_ne (Or.inl (C.w 33 rfl)) (Or.inl (C.w 37 rfl)) (by decide) (t := .boolean) (t' := .boolean) (by decide) (by decide)))
  have F17 := FF6.other W8 (Or.inr (slot_ne (Or.inl (C.w 35 rfl)) (Or.inl (C.w 37 rfl)) (by decide) (t := .boolean) (t' := .boolean) (by decide) (by decide)))
  have K18 := (Keep.refl h [a]).wr W8 (Or.inl (List.mem_of_getElem? (i := 0) rfl))
  refine go_iloadN C X6 67 rfl d7_66 rfl ?_
  refine go_bipush C X6 69 rfl d7_67 (z := 9) rfl ?_
  refine go_icmp_eq C X6 d7_69 (pc' := 72) (pc2 := 97) rfl (by decide) (by decide) (fun (c69 : (63 : Int32) = (9 : Int32)) => False.elim (by first | omega | exact absurd c69 (by decide))) (fun (c69 : ¬ (63 : Int32) = (9 : Int32)) => ?_)
  refine go_iloadN C X6 73 rfl d7_72 rfl ?_
  refine go_bipush C X6 75 rfl d7_73 (z := 10) rfl ?_
  refine go_icmp_eq C X6 d7_75 (pc' := 78) (pc2 := 97) rfl (by decide) (by decide) (fun (c75 : (63 : Int32) = (10 : Int32)) => False.elim (by first | omega | exact absurd c75 (by decide))) (fun (c75 : ¬ (63 : Int32) = (10 : Int32)) => ?_)
  refine go_iloadN C X6 79 rfl d7_78 rfl ?_
  refine go_bipush C X6 81 rfl d7_79 (z := 13) rfl ?_
  refine go_icmp_eq C X6 d7_81 (pc' := 84) (pc2 := 97) rfl (by decide) (by decide) (fun (c81 : (63 : Int32) = (13 : Int32)) => False.elim (by first | omega | exact absurd c81 (by decide))) (fun (c81 : ¬ (63 : Int32) = (13 : Int32)) => ?_)
  refine go_aloadN C X6 85 rfl d7_84 rfl rfl ?_
  refine go_getF C X6 (C.w 24 rfl) Via.refl F12 (pc' := 88) rfl d7_85 (fun T19 X20 => ?_)
  refine go_if_ne C X20 d7_88 (pc' := 91) (pc2 := 99) rfl (by decide) (by decide) (fun (c88 : ¬ (0 : Int32) = (0 : Int32)) => False.elim (by first | omega | exact absurd c88 (by decide))) (fun (c88 : (0 : Int32) = (0 : Int32)) => ?_)
  refine go_iloadN C X20 92 rfl d7_91 rfl ?_
  refine go_bipush C X20 94 rfl d7_92 (z := 32) rfl ?_
  refine go_icmp_gt C X20 d7_94 (pc' := 97) (pc2 := 99) rfl (by decide) (by decide) (fun (c94 : 32 < 63) => ?_) (fun (c94 : 63 ≤ 32) => False.elim (by first | omega | exact absurd c94 (by decide)))
  refine go_aloadN C X20 100 rfl d7_99 rfl rfl ?_
  refine go_iconst C X20 101 rfl d7_100 (z := 1) rfl ?_
  refine go_putFN C X20 (C.w 24 rfl) Via.refl F12 E10 (Or.inl (C.w 25 rfl)) (C.w 9 rfl) ga (ty := .boolean) (by decide) (v' := (.int (1 : Int32))) rfl rfl (pc' := 104) rfl d7_101 (fun T21 h23 W24 X22 => ?_)
  have F25 := F12.same W24
  have E26 := E10.wr W24
  have F27 := F11.other W24 (Or.inr (slot_ne (Or.inl (C.w 23 rfl)) (Or.inl (C.w 25 rfl)) (by decide) (t := .long) (t' := .boolean) (by decide) (by decide)))
  have F28 := F13.other W24 (Or.inr (slot_ne (Or.inl (C.w 27 rfl)) (Or.inl (C.w 25 rfl)) (by decide) (t := .boolean) (t' := .boolean) (by decide) (by decide)))
  have F29 := F14.other W24 (Or.inr (slot_ne (Or.inl (C.w 29 rfl)) (Or.inl (C.w 25 rfl)) (by decide) (t := .boolean) (t' := .boolean) (by decide) (by decide)))
  have F30 := F15.other W24 (Or.inr (slot_ne (Or.inl (C.w 31 rfl)) (Or.inl (C.w 25 rfl)) (by decide) (t := .boolean) (t' := .boolean) (by decide) (by decide)))
  have F31 := F16.other W24 (Or.inr (slot_ne (Or.inl (C.w 33 rfl)) (Or.inl (C.w 25 rfl)) (by decide) (t := .boolean) (t' := .boolean) (by decide) (by decide)))
  have F32 := F17.other W24 (Or.inr (slot_ne (Or.inl (C.w 35 rfl)) (Or.inl (C.w 25 rfl)) (by decide) (t := .boolean) (t' := .boolean) (by decide) (by decide)))
  have F33 := F9.other W24 (Or.inr (slot_ne (Or.inl (C.w 37 rfl)) (Or.inl (C.w 25 rfl)) (by decide) (t := .boolean) (t' := .boolean) (by decide) (by decide)))
  have K34 := K18.wr W24 (Or.inl (List.mem_of_getElem? (i := 0) rfl))
  refine go_iconst C X22 105 rfl d7_104 (z := 0) rfl ?_
  refine go_istore C X22 107 rfl d7_105 #[rv a, iv (63 : Int32), iv (1 : Int32), iv (0 : Int32), iv (0 : Int32)] rfl ?_
  refine go_iloadN C X22 108 rfl d7_107 rfl ?_
  refine go_bipush C X22 110 rfl d7_108 (z := 63) rfl ?_
  refine go_icmp_eq C X22 d7_110 (pc' := 113) (pc2 := 123) rfl (by decide) (by decide) (fun (c110 : (63 : Int32) = (63 : Int32)) => ?_) (fun (c110 : ¬ (63 : Int32) = (63 : Int32)) => False.elim (by first | omega | exact absurd c110 (by decide)))
  refine go_aloadN C X22 124 rfl d7_123 rfl rfl ?_
  refine go_iconst C X22 125 rfl d7_124 (z := 1) rfl ?_
  refine go_putFN C X22 (C.w 28 rfl) Via.refl F29 E26 (Or.inl (C.w 29 rfl)) (C.w 9 rfl) ga (ty := .boolean) (by decide) (v' := (.int (1 : Int32))) rfl rfl (pc' := 128) rfl d7_125 (fun T35 h37 W38 X36 => ?_)
  have F39 := F29.same W38
  have E40 := E26.wr W38
  have F41 := F27.other W38 (Or.inr (slot_ne (Or.inl (C.w 23 rfl)) (Or.inl (C.w 29 rfl)) (by decide) (t := .long) (t' := .boolean) (by decide) (by decide)))
  have F42 := F25.other W38 (Or.inr (slot_ne (Or.inl (C.w 25 rfl)) (Or.inl (C.w 29 rfl)) (by decide) (t := .boolean) (t' := .boolean) (by decide) (by decide)))
  have F43 := F28.other W38 (Or.inr (slot_ne (Or.inl (C.w 27 rfl)) (Or.inl (C.w 29 rfl)) (by decide) (t := .boolean) (t' := .boolean) (by decide) (by decide)))
  have F44 := F30.other W38 (Or.inr (slot_ne (Or.inl (C.w 31 rfl)) (Or.inl (C.w 29 rfl)) (by decide) (t := .boolean) (t' := .boolean) (by decide) (by decide)))
  have F45 := F31.other W38 (Or.inr (slot_ne (Or.inl (C.w 33 rfl)) (Or.inl (C.w 29 rfl)) (by decide) (t := .boolean) (t' := .boolean) (by decide) (by decide)))
  have F46 := F32.other W38 (Or.inr (slot_ne (Or.inl (C.w 35 rfl)) (Or.inl (C.w 29 rfl)) (by decide) (t := .boolean) (t' := .boolean) (by decide) (by decide)))
  have F47 := F33.other W38 (Or.inr (slot_ne (Or.inl (C.w 37 rfl)) (Or.inl (C.w 29 rfl)) (by decide) (t := .boolean) (t' := .boolean) (by decide) (by decide)))
  have K48 := K34.wr W38 (Or.inl (List.mem_of_getElem? (i := 0) rfl))
  refine go_aloadN C X36 129 rfl d7_128 rfl rfl ?_
  refine go_dup C X36 130 rfl d7_129 rfl ?_
  refine go_getF C X36 (C.w 30 rfl) Via.refl F44 (pc' := 133) rfl d7_130 (fun T49 X50 => ?_)
  refine go_iloadN C X50 134 rfl d7_133 rfl ?_
  refine go_iorL C X50 135 rfl d7_134 (z := (1)) rfl ?_
  refine go_putFN C X50 (C.w 30 rfl) Via.refl F44 E40 (Or.inl (C.w 31 rfl)) (C.w 9 rfl) ga (ty := .boolean) (by decide) (v' := (.int (1 : Int32))) rfl rfl (pc' := 138) rfl d7_135 (fun T51 h53 W54 X52 => ?_)
  have F55 := F44.same W54
  have E56 := E40.wr W54
  have F57 := F41.other W54 (Or.inr (slot_ne (Or.inl (C.w 23 rfl)) (Or.inl (C.w 31 rfl)) (by decide) (t := .long) (t' := .boolean) (by decide) (by decide)))
  have F58 := F42.other W54 (Or.inr (slot_ne (Or.inl (C.w 25 rfl)) (Or.inl (C.w 31 rfl)) (by decide) (t := .boolean) (t' := .boolean) (by decide) (by decide)))
  have F59 := F43.other W54 (Or.inr (slot_ne (Or.inl (C.w 27 rfl)) (Or.inl (C.w 31 rfl)) (by decide) (t := .boolean) (t' := .boolean) (by decide) (by decide)))
  have F60 := F39.other W54 (Or.inr (slot_ne (Or.inl (C.w 29 rfl)) (Or.inl (C.w 31 rfl)) (by decide) (t := .boolean) (t' := .boolean) (by decide) (by decide)))
  have F61 := F45.other W54 (Or.inr (slot_ne (Or.inl (C.w 33 rfl)) (Or.inl (C.w 31 rfl)) (by decide) (t := .boolean) (t' := .boolean) (by decide) (by decide)))
  have F62 := F46.other W54 (Or.inr (slot_ne (Or.inl (C.w 35 rfl)) (Or.inl (C.w 31 rfl)) (by decide) (t := .boolean) (t' := .boolean) (by decide) (by decide)))
  have F63 := F47.other W54 (Or.inr (slot_ne (Or.inl (C.w 37 rfl)) (Or.inl (C.w 31 rfl)) (by decide) (t := .boolean) (t' := .boolean) (by decide) (by decide)))
  have K64 := K48.wr W54 (Or.inl (List.mem_of_getElem? (i := 0) rfl))
  refine go_goto C X52 d7_138 (pc' := 236) (by decide) (by decide) ?_
  refine go_iload C X52 238 rfl d7_236 rfl ?_
  exact go_retN C X52 (by simp) (z' := 0) rfl d7_238 ⟨rfl, K64, E56, F57, F58, F59, F60, F55, F61, F62, F63⟩ (by decide) (by decide)
theorem ef_own_u6_93 (m : MethodId) (a : Addr)  : entryFrame m #[(.ref a), (.int (63 : Int32))] 3 = mkF m 0 #[rv a, iv (63 : Int32), un] [] := by
  first | (simp [entryFrame, mkF, argsToLocals, Value.category]; done) | rfl
set_option maxRecDepth 65536 in
set_option maxHeartbeats 40000000 in
theorem own_u6_93 (l : Launch) (Z : State) (a0 : Array Value) (hw : ∀ d ∈ tables_1, d.before a0 Z = true) (a : Addr)  (h : Heap) (n0 : Nat) (hn0 : Old Z n0 h) (E0 : Exa Z h a "com/example/plantilla/plantilla/UrlValue") (FF0 : Fld Z h a "com/example/plantilla/plantilla/UrlValue" "start" "J" (.long (0 : Int64))) (FF1 : Fld Z h a "com/example/plantilla/plantilla/UrlValue" "begun" "Z" (.int (0 : Int32))) (FF2 : Fld Z h a "com/example/plantilla/plantilla/UrlValue" "schemeLike" "Z" (.int (1 : Int32))) (FF3 : Fld Z h a "com/example/plantilla/plantilla/UrlValue" "delimited" "Z" (.int (0 : Int32))) (FF4 : Fld Z h a "com/example/plantilla/plantilla/UrlValue" "query" "Z" (.int (0 : Int32))) (FF5 : Fld Z h a "com/example/plantilla/plantilla/UrlValue" "reference" "Z" (.int (0 : Int32))) (FF6 : Fld Z h a "com/example/plantilla/plantilla/UrlValue" "holding" "Z" (.int (0 : Int32))) (FF7 : Fld Z h a "com/example/plantilla/plantilla/UrlValue" "referenceOpen" "Z" (.int (0 : Int32))) (ga : n0 ≤ a)  :
    Con l Z (⟨"com/example/plantilla/plantilla/UrlValue", "read", "(C)Z"⟩ : MethodName) prog_44_method_8_code 3 (some .boolean) ({ frames := 1, cells := 0, slots := 0, locals := 16 } : Room) #[(.ref a), (.int (63 : Int32))] h n0 (fun v h' => v = some (.int (0 : Int32)) ∧ Keep h h' [a] ∧ Exa Z h' a "com/example/plantilla/plantilla/UrlValue" ∧ Fld Z h' a "com/example/plantilla/plantilla/UrlValue" "start" "J" (.long (0 : Int64)) ∧ Fld Z h' a "com/example/plantilla/plantilla/UrlValue" "begun" "Z" (.int (1 : Int32)) ∧ Fld Z h' a "com/example/plantilla/plantilla/UrlValue" "schemeLike" "Z" (.int (1 : Int32)) ∧ Fld Z h' a "com/example/plantilla/plantilla/UrlValue" "delimited" "Z" (.int (1 : Int32)) ∧ Fld Z h' a "com/example/plantilla/plantilla/UrlValue" "query" "Z" (.int (1 : Int32)) ∧ Fld Z h' a "com/example/plantilla/plantilla/UrlValue" "reference" "Z" (.int (0 : Int32)) ∧ Fld Z h' a "com/example/plantilla/plantilla/UrlValue" "holding" "Z" (.int (0 : Int32)) ∧ Fld Z h' a "com/example/plantilla/plantilla/UrlValue" "referenceOpen" "Z" (.int (0 : Int32))) := by
  refine con_of hw (plainFor_of_name pn_com_example_plantilla_plantilla_UrlValue) hn0 ?_
  intro p e s m below meth c T0 C X0
  refine Go.cast (congrArg T0.setTop (ef_own_u6_93 m a)) ?_
  refine go_aloadN C X0 1 rfl d6_0 rfl rfl ?_
  refine go_getF C X0 (C.w 34 rfl) Via.refl FF6 (pc' := 4) rfl d6_1 (fun T1 X2 => ?_)
  refine go_if_eq C X2 d6_4 (pc' := 7) (pc2 := 30) rfl (by decide) (by decide) (fun (c4 : (0 : Int32) = (0 : Int32)) => ?_) (fun (c4 : ¬ (0 : Int32) = (0 : Int32)) => False.elim (by first | omega | exact absurd c4 (by decide)))
  refine go_iconst C X2 31 rfl d6_30 (z := 0) rfl ?_
  refine go_istoreN C X2 32 rfl d6_31 #[rv a, iv (63 : Int32), iv (0 : Int32)] rfl ?_
  refine go_iloadN C X2 33 rfl d6_32 rfl ?_
  refine go_if_eq C X2 d6_33 (pc' := 36) (pc2 := 40) rfl (by decide) (by decide) (fun (c33 : (0 : Int32) = (0 : Int32)) => ?_) (fun (c33 : ¬ (0 : Int32) = (0 : Int32)) => False.elim (by first | omega | exact absurd c33 (by decide)))
  refine go_aloadN C X2 41 rfl d6_40 rfl rfl ?_
  refine go_iloadN C X2 42 rfl d6_41 rfl ?_
  refine go_iconst C X2 43 rfl d6_42 (z := 1) rfl ?_
  refine go_private C X2 E0 (C.w 43 rfl) (C.w 44 rfl) (Jvm.Kit.selects_private (by decide) (C.w 9 rfl) (C.w 45 rfl) (C.w 44 rfl)) (C.w 45 rfl) (C.w 10 rfl) (C.w 46 rfl) (own_u7_94 l Z a0 C.ws a h n0 X2.old E0 FF0 FF1 FF2 FF3 FF4 FF5 FF6 FF7 ga ) (argsL := [(.int (63 : Int32)), (.int (1 : Int32))]) (rest := []) (lenOf pd_6 rfl) rfl (by decide) (by decide) (Nat.le_of_ble_eq_true rfl) (by decide) (by decide) rfl rfl (pc' := 46) rfl d6_43 ?_
  rintro T3 h5 _ ⟨rfl, Kq6, Eq6, Fq60, Fq61, Fq62, Fq63, Fq64, Fq65, Fq66, Fq67⟩ X4
  show Go p e below _ (T3.setTop (mkF m 46 #[rv a, iv (63 : Int32), iv (0 : Int32)] [(.int (0 : Int32))]))
  have E7 := E0.keep Kq6
  have K8 := (Keep.refl h [a]).trans Kq6 (allS (Or.inl (List.mem_of_getElem? (i := 0) rfl)) all0)
  refine go_pop C X4 47 rfl d6_46 rfl ?_
  refine go_aloadN C X4 48 rfl d6_47 rfl rfl ?_
  refine go_dup C X4 49 rfl d6_48 rfl ?_
  refine go_getF C X4 (C.w 34 rfl) Via.refl Fq66 (pc' := 52) rfl d6_49 (fun T9 X10 => ?_)
  refine go_aloadN C X10 53 rfl d6_52 rfl rfl ?_
  refine go_getF C X10 (C.w 28 rfl) Via.refl Fq63 (pc' := 56) rfl d6_53 (fun T11 X12 => ?_)
  refine go_if_ne C X12 d6_56 (pc' := 59) (pc2 := 77) rfl (by decide) (by decide) (fun (c56 : ¬ (1 : Int32) = (0 : Int32)) => ?_) (fun (c56 : (1 : Int32) = (0 : Int32)) => False.elim (by first | omega | exact absurd c56 (by decide)))
  refine go_iconst C X12 78 rfl d6_77 (z := 0) rfl ?_
  refine go_iandL C X12 79 rfl d6_78 (z := (0)) rfl ?_
  refine go_putFN C X12 (C.w 34 rfl) Via.refl Fq66 Eq6 (Or.inl (C.w 35 rfl)) (C.w 9 rfl) ga (ty := .boolean) (by decide) (v' := (.int (0 : Int32))) rfl rfl (pc' := 82) rfl d6_79 (fun T13 h15 W16 X14 => ?_)
  have F17 := Fq66.same W16
  have E18 := Eq6.wr W16
  have F19 := Fq60.other W16 (Or.inr (slot_ne (Or.inl (C.w 23 rfl)) (Or.inl (C.w 35 rfl)) (by decide) (t := .long) (t' := .boolean) (by decide) (by decide)))
  have F20 := Fq61.other W16 (Or.inr (slot_ne (Or.inl (C.w 25 rfl)) (Or.inl (C.w 35 rfl)) (by decide) (t := .boolean) (t' := .boolean) (by decide) (by decide)))
  have F21 := Fq62.other W16 (Or.inr (slot_ne (Or.inl (C.w 27 rfl)) (Or.inl (C.w 35 rfl)) (by decide) (t := .boolean) (t' := .boolean) (by decide) (by decide)))
  have F22 := Fq63.other W16 (Or.inr (slot_ne (Or.inl (C.w 29 rfl)) (Or.inl (C.w 35 rfl)) (by decide) (t := .boolean) (t' := .boolean) (by decide) (by decide)))
  have F23 := Fq64.other W16 (Or.inr (slot_ne (Or.inl (C.w 31 rfl)) (Or.inl (C.w 35 rfl)) (by decide) (t := .boolean) (t' := .boolean) (by decide) (by decide)))
  have F24 := Fq65.other W16 (Or.inr (slot_ne (Or.inl (C.w 33 rfl)) (Or.inl (C.w 35 rfl)) (by decide) (t := .boolean) (t' := .boolean) (by decide) (by decide)))
  have F25 := Fq67.other W16 (Or.inr (slot_ne (Or.inl (C.w 37 rfl)) (Or.inl (C.w 35 rfl)) (by decide) (t := .boolean) (t' := .boolean) (by decide) (by decide)))
  have K26 := K8.wr W16 (Or.inl (List.mem_of_getElem? (i := 0) rfl))
  refine go_iloadN C X14 83 rfl d6_82 rfl ?_
  exact go_retN C X14 (by simp) (z' := 0) rfl d6_83 ⟨rfl, K26, E18, F19, F20, F21, F22, F23, F24, F17, F25⟩ (by decide) (by decide)
theorem d2_43 : decode method_4_code 43 = .ok (.invokevirtual 32, 3) := by decide +kernel
theorem d2_46 : decode method_4_code 46 = .ok (.pop, 1) := by decide +kernel
theorem d2_47 : decode method_4_code 47 = .ok (.goto 126, 3) := by decide +kernel
theorem d2_25 : decode method_4_code 25 = .ok (.aload_n 2, 1) := by decide +kernel
theorem d2_26 : decode method_4_code 26 = .ok (.bipush 58, 2) := by decide +kernel
theorem d7_153 : decode prog_44_method_13_code 153 = .ok (.aload_n 0, 1) := by decide +kernel
theorem d7_154 : decode prog_44_method_13_code 154 = .ok (.iconst 1, 1) := by decide +kernel
theorem d7_155 : decode prog_44_method_13_code 155 = .ok (.putfield 29, 3) := by decide +kernel
theorem d7_158 : decode prog_44_method_13_code 158 = .ok (.goto 78, 3) := by decide +kernel
theorem ef_own_u7_96 (m : MethodId) (a : Addr)  : entryFrame m #[(.ref a), (.int (58 : Int32)), (.int (1 : Int32))] 5 = mkF m 0 #[rv a, iv (58 : Int32), iv (1 : Int32), un, un] [] := by
  first | (simp [entryFrame, mkF, argsToLocals, Value.category]; done) | rfl
set_option maxRecDepth 65536 in
set_option maxHeartbeats 40000000 in
theorem own_u7_96 (l : Launch) (Z : State) (a0 : Array Value) (hw : ∀ d ∈ tables_1, d.before a0 Z = true) (a : Addr)  (h : Heap) (n0 : Nat) (hn0 : Old Z n0 h) (E0 : Exa Z h a "com/example/plantilla/plantilla/UrlValue") (FF0 : Fld Z h a "com/example/plantilla/plantilla/UrlValue" "start" "J" (.long (0 : Int64))) (FF1 : Fld Z h a "com/example/plantilla/plantilla/UrlValue" "begun" "Z" (.int (0 : Int32))) (FF2 : Fld Z h a "com/example/plantilla/plantilla/UrlValue" "schemeLike" "Z" (.int (1 : Int32))) (FF3 : Fld Z h a "com/example/plantilla/plantilla/UrlValue" "delimited" "Z" (.int (0 : Int32))) (FF4 : Fld Z h a "com/example/plantilla/plantilla/UrlValue" "query" "Z" (.int (0 : Int32))) (FF5 : Fld Z h a "com/example/plantilla/plantilla/UrlValue" "reference" "Z" (.int (0 : Int32))) (FF6 : Fld Z h a "com/example/plantilla/plantilla/UrlValue" "holding" "Z" (.int (0 : Int32))) (FF7 : Fld Z h a "com/example/plantilla/plantilla/UrlValue" "referenceOpen" "Z" (.int (0 : Int32))) (ga : n0 ≤ a)  :
    Con l Z (⟨"com/example/plantilla/plantilla/UrlValue", "take", "(CZ)Z"⟩ : MethodName) prog_44_method_13_code 5 (some .boolean) ({ frames := 0, cells := 0, slots := 0, locals := 0 } : Room) #[(.ref a), (.int (58 : Int32)), (.int (1 : Int32))] h n0 (fun v h' => v = some (.int (0 : Int32)) ∧ Keep h h' [a] ∧ Exa Z h' a "com/example/plantilla/plantilla/UrlValue" ∧ Fld Z h' a "com/example/plantilla/plantilla/UrlValue" "start" "J" (.long (0 : Int64)) ∧ Fld Z h' a "com/example/plantilla/plantilla/UrlValue" "begun" "Z" (.int (1 : Int32)) ∧ Fld Z h' a "com/example/plantilla/plantilla/UrlValue" "schemeLike" "Z" (.int (1 : Int32)) ∧ Fld Z h' a "com/example/plantilla/plantilla/UrlValue" "delimited" "Z" (.int (1 : Int32)) ∧ Fld Z h' a "com/example/plantilla/plantilla/UrlValue" "query" "Z" (.int (0 : Int32)) ∧ Fld Z h' a "com/example/plantilla/plantilla/UrlValue" "reference" "Z" (.int (0 : Int32)) ∧ Fld Z h' a "com/example/plantilla/plantilla/UrlValue" "holding" "Z" (.int (0 : Int32)) ∧ Fld Z h' a "com/example/plantilla/plantilla/UrlValue" "referenceOpen" "Z" (.int (0 : Int32))) := by
  refine con_of hw (plainFor_of_name pn_com_example_plantilla_plantilla_UrlValue) hn0 ?_
  intro p e s m below meth c T0 C X0
  refine Go.cast (congrArg T0.setTop (ef_own_u7_96 m a)) ?_
  refine go_aloadN C X0 1 rfl d7_0 rfl rfl ?_
  refine go_getF C X0 (C.w 36 rfl) Via.refl FF7 (pc' := 4) rfl d7_1 (fun T1 X2 => ?_)
  refine go_if_eq C X2 d7_4 (pc' := 7) (pc2 := 18) rfl (by decide) (by decide) (fun (c4 : (0 : Int32) = (0 : Int32)) => ?_) (fun (c4 : ¬ (0 : Int32) = (0 : Int32)) => False.elim (by first | omega | exact absurd c4 (by decide)))
  refine go_iconst C X2 19 rfl d7_18 (z := 0) rfl ?_
  refine go_istoreN C X2 20 rfl d7_19 #[rv a, iv (58 : Int32), iv (1 : Int32), iv (0 : Int32), un] rfl ?_
  refine go_aloadN C X2 21 rfl d7_20 rfl rfl ?_
  refine go_iloadN C X2 22 rfl d7_21 rfl ?_
  refine go_if_eq C X2 d7_22 (pc' := 25) (pc2 := 62) rfl (by decide) (by decide) (fun (c22 : (1 : Int32) = (0 : Int32)) => False.elim (by first | omega | exact absurd c22 (by decide))) (fun (c22 : ¬ (1 : Int32) = (0 : Int32)) => ?_)
  refine go_iloadN C X2 26 rfl d7_25 rfl ?_
  refine go_bipush C X2 28 rfl d7_26 (z := 38) rfl ?_
  refine go_icmp_eq C X2 d7_28 (pc' := 31) (pc2 := 58) rfl (by decide) (by decide) (fun (c28 : (58 : Int32) = (38 : Int32)) => False.elim (by first | omega | exact absurd c28 (by decide))) (fun (c28 : ¬ (58 : Int32) = (38 : Int32)) => ?_)
  refine go_aloadN C X2 32 rfl d7_31 rfl rfl ?_
  refine go_getF C X2 (C.w 36 rfl) Via.refl FF7 (pc' := 35) rfl d7_32 (fun T3 X4 => ?_)
  refine go_if_eq C X4 d7_35 (pc' := 38) (pc2 := 62) rfl (by decide) (by decide) (fun (c35 : (0 : Int32) = (0 : Int32)) => ?_) (fun (c35 : ¬ (0 : Int32) = (0 : Int32)) => False.elim (by first | omega | exact absurd c35 (by decide)))
  refine go_iconst C X4 63 rfl d7_62 (z := 0) rfl ?_
  refine go_putFN C X4 (C.w 36 rfl) Via.refl FF7 E0 (Or.inl (C.w 37 rfl)) (C.w 9 rfl) ga (ty := .boolean) (by decide) (v' := (.int (0 : Int32))) rfl rfl (pc' := 66) rfl d7_63 (fun T5 h7 W8 X6 => ?_)
  have F9 := FF7.same W8
  have E10 := E0.wr W8
  have F11 := FF0.other W8 (Or.inr (slot_ne (Or.inl (C.w 23 rfl)) (Or.inl (C.w 37 rfl)) (by decide) (t := .long) (t' := .boolean) (by decide) (by decide)))
  have F12 := FF1.other W8 (Or.inr (slot_ne (Or.inl (C.w 25 rfl)) (Or.inl (C.w 37 rfl)) (by decide) (t := .boolean) (t' := .boolean) (by decide) (by decide)))
  have F13 := FF2.other W8 (Or.inr (slot_ne (Or.inl (C.w 27 rfl)) (Or.inl (C.w 37 rfl)) (by decide) (t := .boolean) (t' := .boolean) (by decide) (by decide)))
  have F14 := FF3.other W8 (Or.inr (slot_ne (Or.inl (C.w 29 rfl)) (Or.inl (C.w 37 rfl)) (by decide) (t := .boolean) (t' := .boolean) (by decide) (by decide)))
  have F15 := FF4.other W8 (Or.inr (slot_ne (Or.inl (C.w 31 rfl)) (Or.inl (C.w 37 rfl)) (by decide) (t := .boolean) (t' := .boolean) (by decide) (by decide)))
  have F16 := FF5.other W8 (Or.inr (slot_ne (Or.inl (C.w 33 rfl)) (Or.inl (C.w 37 rfl)) (by decide) (t := .boolean) (t' := .boolean) (by decide) (by decide)))
  have F17 := FF6.other W8 (Or.inr (slot_ne (Or.inl (C.w 35 rfl)) (Or.inl (C.w 37 rfl)) (by decide) (t := .boolean) (t' := .boolean) (by decide) (by decide)))
  have K18 := (Keep.refl h [a]).wr W8 (Or.inl (List.mem_of_getElem? (i := 0) rfl))
  refine go_iloadN C X6 67 rfl d7_66 rfl ?_
  refine go_bipush C X6 69 rfl d7_67 (z := 9) rfl ?_
  refine go_icmp_eq C X6 d7_69 (pc' := 72) (pc2 := 97) rfl (by decide) (by decide) (fun (c69 : (58 : Int32) = (9 : Int32)) => False.elim (by first | omega | exact absurd c69 (by decide))) (fun (c69 : ¬ (58 : Int32) = (9 : Int32)) => ?_)
  refine go_iloadN C X6 73 rfl d7_72 rfl ?_
  refine go_bipush C X6 75 rfl d7_73 (z := 10) rfl ?_
  refine go_icmp_eq C X6 d7_75 (pc' := 78) (pc2 := 97) rfl (by decide) (by decide) (fun (c75 : (58 : Int32) = (10 : Int32)) => False.elim (by first | omega | exact absurd c75 (by decide))) (fun (c75 : ¬ (58 : Int32) = (10 : Int32)) => ?_)
  refine go_iloadN C X6 79 rfl d7_78 rfl ?_
  refine go_bipush C X6 81 rfl d7_79 (z := 13) rfl ?_
  refine go_icmp_eq C X6 d7_81 (pc' := 84) (pc2 := 97) rfl (by decide) (by decide) (fun (c81 : (58 : Int32) = (13 : Int32)) => False.elim (by first | omega | exact absurd c81 (by decide))) (fun (c81 : ¬ (58 : Int32) = (13 : Int32)) => ?_)
  refine go_aloadN C X6 85 rfl d7_84 rfl rfl ?_
  refine go_getF C X6 (C.w 24 rfl) Via.refl F12 (pc' := 88) rfl d7_85 (fun T19 X20 => ?_)
  refine go_if_ne C X20 d7_88 (pc' := 91) (pc2 := 99) rfl (by decide) (by decide) (fun (c88 : ¬ (0 : Int32) = (0 : Int32)) => False.elim (by first | omega | exact absurd c88 (by decide))) (fun (c88 : (0 : Int32) = (0 : Int32)) => ?_)
  refine go_iloadN C X20 92 rfl d7_91 rfl ?_
  refine go_bipush C X20 94 rfl d7_92 (z := 32) rfl ?_
  refine go_icmp_gt C X20 d7_94 (pc' := 97) (pc2 := 99) rfl (by decide) (by decide) (fun (c94 : 32 < 58) => ?_) (fun (c94 : 58 ≤ 32) => False.elim (by first | omega | exact absurd c94 (by decide)))
  refine go_aloadN C X20 100 rfl d7_99 rfl rfl ?_
  refine go_iconst C X20 101 rfl d7_100 (z := 1) rfl ?_
  refine go_putFN C X20 (C.w 24 rfl) Via.refl F12 E10 (Or.inl (C.w 25 rfl)) (C.w 9 rfl) ga (ty := .boolean) (by decide) (v' := (.int (1 : Int32))) rfl rfl (pc' := 104) rfl d7_101 (fun T21 h23 W24 X22 => ?_)
  have F25 := F12.same W24
  have E26 := E10.wr W24
  have F27 := F11.other W24 (Or.inr (slot_ne (Or.inl (C.w 23 rfl)) (Or.inl (C.w 25 rfl)) (by decide) (t := .long) (t' := .boolean) (by decide) (by decide)))
  have F28 := F13.other W24 (Or.inr (slot_ne (Or.inl (C.w 27 rfl)) (Or.inl (C.w 25 rfl)) (by decide) (t := .boolean) (t' := .boolean) (by decide) (by decide)))
  have F29 := F14.other W24 (Or.inr (slot_ne (Or.inl (C.w 29 rfl)) (Or.inl (C.w 25 rfl)) (by decide) (t := .boolean) (t' := .boolean) (by decide) (by decide)))
  have F30 := F15.other W24 (Or.inr (slot_ne (Or.inl (C.w 31 rfl)) (Or.inl (C.w 25 rfl)) (by decide) (t := .boolean) (t' := .boolean) (by decide) (by decide)))
  have F31 := F16.other W24 (Or.inr (slot_ne (Or.inl (C.w 33 rfl)) (Or.inl (C.w 25 rfl)) (by decide) (t := .boolean) (t' := .boolean) (by decide) (by decide)))
  have F32 := F17.other W24 (Or.inr (slot_ne (Or.inl (C.w 35 rfl)) (Or.inl (C.w 25 rfl)) (by decide) (t := .boolean) (t' := .boolean) (by decide) (by decide)))
  have F33 := F9.other W24 (Or.inr (slot_ne (Or.inl (C.w 37 rfl)) (Or.inl (C.w 25 rfl)) (by decide) (t := .boolean) (t' := .boolean) (by decide) (by decide)))
  have K34 := K18.wr W24 (Or.inl (List.mem_of_getElem? (i := 0) rfl))
  refine go_iconst C X22 105 rfl d7_104 (z := 0) rfl ?_
  refine go_istore C X22 107 rfl d7_105 #[rv a, iv (58 : Int32), iv (1 : Int32), iv (0 : Int32), iv (0 : Int32)] rfl ?_
  refine go_iloadN C X22 108 rfl d7_107 rfl ?_
  refine go_bipush C X22 110 rfl d7_108 (z := 63) rfl ?_
  refine go_icmp_eq C X22 d7_110 (pc' := 113) (pc2 := 123) rfl (by decide) (by decide) (fun (c110 : (58 : Int32) = (63 : Int32)) => False.elim (by first | omega | exact absurd c110 (by decide))) (fun (c110 : ¬ (58 : Int32) = (63 : Int32)) => ?_)
  refine go_iloadN C X22 114 rfl d7_113 rfl ?_
  refine go_bipush C X22 116 rfl d7_114 (z := 35) rfl ?_
  refine go_icmp_ne C X22 d7_116 (pc' := 119) (pc2 := 141) rfl (by decide) (by decide) (fun (c116 : ¬ (58 : Int32) = (35 : Int32)) => ?_) (fun (c116 : (58 : Int32) = (35 : Int32)) => False.elim (by first | omega | exact absurd c116 (by decide)))
  refine go_iloadN C X22 142 rfl d7_141 rfl ?_
  refine go_bipush C X22 144 rfl d7_142 (z := 58) rfl ?_
  refine go_icmp_eq C X22 d7_144 (pc' := 147) (pc2 := 153) rfl (by decide) (by decide) (fun (c144 : (58 : Int32) = (58 : Int32)) => ?_) (fun (c144 : ¬ (58 : Int32) = (58 : Int32)) => False.elim (by first | omega | exact absurd c144 (by decide)))
  refine go_aloadN C X22 154 rfl d7_153 rfl rfl ?_
  refine go_iconst C X22 155 rfl d7_154 (z := 1) rfl ?_
  refine go_putFN C X22 (C.w 28 rfl) Via.refl F29 E26 (Or.inl (C.w 29 rfl)) (C.w 9 rfl) ga (ty := .boolean) (by decide) (v' := (.int (1 : Int32))) rfl rfl (pc' := 158) rfl d7_155 (fun T35 h37 W38 X36 => ?_)
  have F39 := F29.same W38
  have E40 := E26.wr W38
  have F41 := F27.other W38 (Or.inr (slot_ne (Or.inl (C.w 23 rfl)) (Or.inl (C.w 29 rfl)) (by decide) (t := .long) (t' := .boolean) (by decide) (by decide)))
  have F42 := F25.other W38 (Or.inr (slot_ne (Or.inl (C.w 25 rfl)) (Or.inl (C.w 29 rfl)) (by decide) (t := .boolean) (t' := .boolean) (by decide) (by decide)))
  have F43 := F28.other W38 (Or.inr (slot_ne (Or.inl (C.w 27 rfl)) (Or.inl (C.w 29 rfl)) (by decide) (t := .boolean) (t' := .boolean) (by decide) (by decide)))
  have F44 := F30.other W38 (Or.inr (slot_ne (Or.inl (C.w 31 rfl)) (Or.inl (C.w 29 rfl)) (by decide) (t := .boolean) (t' := .boolean) (by decide) (by decide)))
  have F45 := F31.other W38 (Or.inr (slot_ne (Or.inl (C.w 33 rfl)) (Or.inl (C.w 29 rfl)) (by decide) (t := .boolean) (t' := .boolean) (by decide) (by decide)))
  have F46 := F32.other W38 (Or.inr (slot_ne (Or.inl (C.w 35 rfl)) (Or.inl (C.w 29 rfl)) (by decide) (t := .boolean) (t' := .boolean) (by decide) (by decide)))
  have F47 := F33.other W38 (Or.inr (slot_ne (Or.inl (C.w 37 rfl)) (Or.inl (C.w 29 rfl)) (by decide) (t := .boolean) (t' := .boolean) (by decide) (by decide)))
  have K48 := K34.wr W38 (Or.inl (List.mem_of_getElem? (i := 0) rfl))
  refine go_goto C X36 d7_158 (pc' := 236) (by decide) (by decide) ?_
  refine go_iload C X36 238 rfl d7_236 rfl ?_
  exact go_retN C X36 (by simp) (z' := 0) rfl d7_238 ⟨rfl, K48, E40, F41, F42, F43, F39, F44, F45, F46, F47⟩ (by decide) (by decide)
theorem ef_own_u6_95 (m : MethodId) (a : Addr)  : entryFrame m #[(.ref a), (.int (58 : Int32))] 3 = mkF m 0 #[rv a, iv (58 : Int32), un] [] := by
  first | (simp [entryFrame, mkF, argsToLocals, Value.category]; done) | rfl
set_option maxRecDepth 65536 in
set_option maxHeartbeats 40000000 in
theorem own_u6_95 (l : Launch) (Z : State) (a0 : Array Value) (hw : ∀ d ∈ tables_1, d.before a0 Z = true) (a : Addr)  (h : Heap) (n0 : Nat) (hn0 : Old Z n0 h) (E0 : Exa Z h a "com/example/plantilla/plantilla/UrlValue") (FF0 : Fld Z h a "com/example/plantilla/plantilla/UrlValue" "start" "J" (.long (0 : Int64))) (FF1 : Fld Z h a "com/example/plantilla/plantilla/UrlValue" "begun" "Z" (.int (0 : Int32))) (FF2 : Fld Z h a "com/example/plantilla/plantilla/UrlValue" "schemeLike" "Z" (.int (1 : Int32))) (FF3 : Fld Z h a "com/example/plantilla/plantilla/UrlValue" "delimited" "Z" (.int (0 : Int32))) (FF4 : Fld Z h a "com/example/plantilla/plantilla/UrlValue" "query" "Z" (.int (0 : Int32))) (FF5 : Fld Z h a "com/example/plantilla/plantilla/UrlValue" "reference" "Z" (.int (0 : Int32))) (FF6 : Fld Z h a "com/example/plantilla/plantilla/UrlValue" "holding" "Z" (.int (0 : Int32))) (FF7 : Fld Z h a "com/example/plantilla/plantilla/UrlValue" "referenceOpen" "Z" (.int (0 : Int32))) (ga : n0 ≤ a)  :
    Con l Z (⟨"com/example/plantilla/plantilla/UrlValue", "read", "(C)Z"⟩ : MethodName) prog_44_method_8_code 3 (some .boolean) ({ frames := 1, cells := 0, slots := 0, locals := 16 } : Room) #[(.ref a), (.int (58 : Int32))] h n0 (fun v h' => v = some (.int (0 : Int32)) ∧ Keep h h' [a] ∧ Exa Z h' a "com/example/plantilla/plantilla/UrlValue" ∧ Fld Z h' a "com/example/plantilla/plantilla/UrlValue" "start" "J" (.long (0 : Int64)) ∧ Fld Z h' a "com/example/plantilla/plantilla/UrlValue" "begun" "Z" (.int (1 : Int32)) ∧ Fld Z h' a "com/example/plantilla/plantilla/UrlValue" "schemeLike" "Z" (.int (1 : Int32)) ∧ Fld Z h' a "com/example/plantilla/plantilla/UrlValue" "delimited" "Z" (.int (1 : Int32)) ∧ Fld Z h' a "com/example/plantilla/plantilla/UrlValue" "query" "Z" (.int (0 : Int32)) ∧ Fld Z h' a "com/example/plantilla/plantilla/UrlValue" "reference" "Z" (.int (0 : Int32)) ∧ Fld Z h' a "com/example/plantilla/plantilla/UrlValue" "holding" "Z" (.int (0 : Int32)) ∧ Fld Z h' a "com/example/plantilla/plantilla/UrlValue" "referenceOpen" "Z" (.int (0 : Int32))) := by
  refine con_of hw (plainFor_of_name pn_com_example_plantilla_plantilla_UrlValue) hn0 ?_
  intro p e s m below meth c T0 C X0
  refine Go.cast (congrArg T0.setTop (ef_own_u6_95 m a)) ?_
  refine go_aloadN C X0 1 rfl d6_0 rfl rfl ?_
  refine go_getF C X0 (C.w 34 rfl) Via.refl FF6 (pc' := 4) rfl d6_1 (fun T1 X2 => ?_)
  refine go_if_eq C X2 d6_4 (pc' := 7) (pc2 := 30) rfl (by decide) (by decide) (fun (c4 : (0 : Int32) = (0 : Int32)) => ?_) (fun (c4 : ¬ (0 : Int32) = (0 : Int32)) => False.elim (by first | omega | exact absurd c4 (by decide)))
  refine go_iconst C X2 31 rfl d6_30 (z := 0) rfl ?_
  refine go_istoreN C X2 32 rfl d6_31 #[rv a, iv (58 : Int32), iv (0 : Int32)] rfl ?_
  refine go_iloadN C X2 33 rfl d6_32 rfl ?_
  refine go_if_eq C X2 d6_33 (pc' := 36) (pc2 := 40) rfl (by decide) (by decide) (fun (c33 : (0 : Int32) = (0 : Int32)) => ?_) (fun (c33 : ¬ (0 : Int32) = (0 : Int32)) => False.elim (by first | omega | exact absurd c33 (by decide)))
  refine go_aloadN C X2 41 rfl d6_40 rfl rfl ?_
  refine go_iloadN C X2 42 rfl d6_41 rfl ?_
  refine go_iconst C X2 43 rfl d6_42 (z := 1) rfl ?_
  refine go_private C X2 E0 (C.w 43 rfl) (C.w 44 rfl) (Jvm.Kit.selects_private (by decide) (C.w 9 rfl) (C.w 45 rfl) (C.w 44 rfl)) (C.w 45 rfl) (C.w 10 rfl) (C.w 46 rfl) (own_u7_96 l Z a0 C.ws a h n0 X2.old E0 FF0 FF1 FF2 FF3 FF4 FF5 FF6 FF7 ga ) (argsL := [(.int (58 : Int32)), (.int (1 : Int32))]) (rest := []) (lenOf pd_6 rfl) rfl (by decide) (by decide) (Nat.le_of_ble_eq_true rfl) (by decide) (by decide) rfl rfl (pc' := 46) rfl d6_43 ?_
  rintro T3 h5 _ ⟨rfl, Kq6, Eq6, Fq60, Fq61, Fq62, Fq63, Fq64, Fq65, Fq66, Fq67⟩ X4
  show Go p e below _ (T3.setTop (mkF m 46 #[rv a, iv (58 : Int32), iv (0 : Int32)] [(.int (0 : Int32))]))
  have E7 := E0.keep Kq6
  have K8 := (Keep.refl h [a]).trans Kq6 (allS (Or.inl (List.mem_of_getElem? (i := 0) rfl)) all0)
  refine go_pop C X4 47 rfl d6_46 rfl ?_
  refine go_aloadN C X4 48 rfl d6_47 rfl rfl ?_
  refine go_dup C X4 49 rfl d6_48 rfl ?_
  refine go_getF C X4 (C.w 34 rfl) Via.refl Fq66 (pc' := 52) rfl d6_49 (fun T9 X10 => ?_)
  refine go_aloadN C X10 53 rfl d6_52 rfl rfl ?_
  refine go_getF C X10 (C.w 28 rfl) Via.refl Fq63 (pc' := 56) rfl d6_53 (fun T11 X12 => ?_)
  refine go_if_ne C X12 d6_56 (pc' := 59) (pc2 := 77) rfl (by decide) (by decide) (fun (c56 : ¬ (1 : Int32) = (0 : Int32)) => ?_) (fun (c56 : (1 : Int32) = (0 : Int32)) => False.elim (by first | omega | exact absurd c56 (by decide)))
  refine go_iconst C X12 78 rfl d6_77 (z := 0) rfl ?_
  refine go_iandL C X12 79 rfl d6_78 (z := (0)) rfl ?_
  refine go_putFN C X12 (C.w 34 rfl) Via.refl Fq66 Eq6 (Or.inl (C.w 35 rfl)) (C.w 9 rfl) ga (ty := .boolean) (by decide) (v' := (.int (0 : Int32))) rfl rfl (pc' := 82) rfl d6_79 (fun T13 h15 W16 X14 => ?_)
  have F17 := Fq66.same W16
  have E18 := Eq6.wr W16
  have F19 := Fq60.other W16 (Or.inr (slot_ne (Or.inl (C.w 23 rfl)) (Or.inl (C.w 35 rfl)) (by decide) (t := .long) (t' := .boolean) (by decide) (by decide)))
  have F20 := Fq61.other W16 (Or.inr (slot_ne (Or.inl (C.w 25 rfl)) (Or.inl (C.w 35 rfl)) (by decide) (t := .boolean) (t' := .boolean) (by decide) (by decide)))
  have F21 := Fq62.other W16 (Or.inr (slot_ne (Or.inl (C.w 27 rfl)) (Or.inl (C.w 35 rfl)) (by decide) (t := .boolean) (t' := .boolean) (by decide) (by decide)))
  have F22 := Fq63.other W16 (Or.inr (slot_ne (Or.inl (C.w 29 rfl)) (Or.inl (C.w 35 rfl)) (by decide) (t := .boolean) (t' := .boolean) (by decide) (by decide)))
  have F23 := Fq64.other W16 (Or.inr (slot_ne (Or.inl (C.w 31 rfl)) (Or.inl (C.w 35 rfl)) (by decide) (t := .boolean) (t' := .boolean) (by decide) (by decide)))
  have F24 := Fq65.other W16 (Or.inr (slot_ne (Or.inl (C.w 33 rfl)) (Or.inl (C.w 35 rfl)) (by decide) (t := .boolean) (t' := .boolean) (by decide) (by decide)))
  have F25 := Fq67.other W16 (Or.inr (slot_ne (Or.inl (C.w 37 rfl)) (Or.inl (C.w 35 rfl)) (by decide) (t := .boolean) (t' := .boolean) (by decide) (by decide)))
  have K26 := K8.wr W16 (Or.inl (List.mem_of_getElem? (i := 0) rfl))
  refine go_iloadN C X14 83 rfl d6_82 rfl ?_
  exact go_retN C X14 (by simp) (z' := 0) rfl d6_83 ⟨rfl, K26, E18, F19, F20, F21, F22, F23, F24, F17, F25⟩ (by decide) (by decide)
theorem d2_28 : decode method_4_code 28 = .ok (.invokevirtual 32, 3) := by decide +kernel
theorem d2_31 : decode method_4_code 31 = .ok (.pop, 1) := by decide +kernel
theorem d2_32 : decode method_4_code 32 = .ok (.goto 141, 3) := by decide +kernel
theorem d2_13 : decode method_4_code 13 = .ok (.aload_n 2, 1) := by decide +kernel
theorem ef_own_u10_97 (m : MethodId) (a : Addr)  : entryFrame m #[(.ref a)] 1 = mkF m 0 #[rv a] [] := by
  first | (simp [entryFrame, mkF, argsToLocals, Value.category]; done) | rfl
set_option maxRecDepth 65536 in
set_option maxHeartbeats 40000000 in
theorem own_u10_97 (l : Launch) (Z : State) (a0 : Array Value) (hw : ∀ d ∈ tables_1, d.before a0 Z = true) (a : Addr)  (h : Heap) (n0 : Nat) (hn0 : Old Z n0 h) (E0 : Exa Z h a "com/example/plantilla/plantilla/UrlValue") (FF0 : Fld Z h a "com/example/plantilla/plantilla/UrlValue" "start" "J" (.long (0 : Int64))) (FF1 : Fld Z h a "com/example/plantilla/plantilla/UrlValue" "begun" "Z" (.int (0 : Int32))) (FF2 : Fld Z h a "com/example/plantilla/plantilla/UrlValue" "schemeLike" "Z" (.int (1 : Int32))) (FF3 : Fld Z h a "com/example/plantilla/plantilla/UrlValue" "delimited" "Z" (.int (0 : Int32))) (FF4 : Fld Z h a "com/example/plantilla/plantilla/UrlValue" "query" "Z" (.int (0 : Int32))) (FF5 : Fld Z h a "com/example/plantilla/plantilla/UrlValue" "reference" "Z" (.int (0 : Int32))) (FF6 : Fld Z h a "com/example/plantilla/plantilla/UrlValue" "holding" "Z" (.int (0 : Int32))) (FF7 : Fld Z h a "com/example/plantilla/plantilla/UrlValue" "referenceOpen" "Z" (.int (0 : Int32))) (ga : n0 ≤ a)  :
    Con l Z (⟨"com/example/plantilla/plantilla/UrlValue", "voidHeldValue", "()V"⟩ : MethodName) prog_44_method_10_code 1 none ({ frames := 0, cells := 0, slots := 0, locals := 0 } : Room) #[(.ref a)] h n0 (fun v h' => v = none ∧ Keep h h' [a] ∧ Exa Z h' a "com/example/plantilla/plantilla/UrlValue" ∧ Fld Z h' a "com/example/plantilla/plantilla/UrlValue" "start" "J" (.long (0 : Int64)) ∧ Fld Z h' a "com/example/plantilla/plantilla/UrlValue" "begun" "Z" (.int (0 : Int32)) ∧ Fld Z h' a "com/example/plantilla/plantilla/UrlValue" "schemeLike" "Z" (.int (1 : Int32)) ∧ Fld Z h' a "com/example/plantilla/plantilla/UrlValue" "delimited" "Z" (.int (1 : Int32)) ∧ Fld Z h' a "com/example/plantilla/plantilla/UrlValue" "query" "Z" (.int (0 : Int32)) ∧ Fld Z h' a "com/example/plantilla/plantilla/UrlValue" "reference" "Z" (.int (0 : Int32)) ∧ Fld Z h' a "com/example/plantilla/plantilla/UrlValue" "holding" "Z" (.int (0 : Int32)) ∧ Fld Z h' a "com/example/plantilla/plantilla/UrlValue" "referenceOpen" "Z" (.int (0 : Int32))) := by
  refine con_of hw (plainFor_of_name pn_com_example_plantilla_plantilla_UrlValue) hn0 ?_
  intro p e s m below meth c T0 C X0
  refine Go.cast (congrArg T0.setTop (ef_own_u10_97 m a)) ?_
  refine go_aloadN C X0 1 rfl d10_0 rfl rfl ?_
  refine go_iconst C X0 2 rfl d10_1 (z := 0) rfl ?_
  refine go_putFN C X0 (C.w 34 rfl) Via.refl FF6 E0 (Or.inl (C.w 35 rfl)) (C.w 9 rfl) ga (ty := .boolean) (by decide) (v' := (.int (0 : Int32))) rfl rfl (pc' := 5) rfl d10_2 (fun T1 h3 W4 X2 => ?_)
  have F5 := FF6.same W4
  have E6 := E0.wr W4
  have F7 := FF0.other W4 (Or.inr (slot_ne (Or.inl (C.w 23 rfl)) (Or.inl (C.w 35 rfl)) (by decide) (t := .long) (t' := .boolean) (by decide) (by decide)))
  have F8 := FF1.other W4 (Or.inr (slot_ne (Or.inl (C.w 25 rfl)) (Or.inl (C.w 35 rfl)) (by decide) (t := .boolean) (t' := .boolean) (by decide) (by decide)))
  have F9 := FF2.other W4 (Or.inr (slot_ne (Or.inl (C.w 27 rfl)) (Or.inl (C.w 35 rfl)) (by decide) (t := .boolean) (t' := .boolean) (by decide) (by decide)))
  have F10 := FF3.other W4 (Or.inr (slot_ne (Or.inl (C.w 29 rfl)) (Or.inl (C.w 35 rfl)) (by decide) (t := .boolean) (t' := .boolean) (by decide) (by decide)))
  have F11 := FF4.other W4 (Or.inr (slot_ne (Or.inl (C.w 31 rfl)) (Or.inl (C.w 35 rfl)) (by decide) (t := .boolean) (t' := .boolean) (by decide) (by decide)))
  have F12 := FF5.other W4 (Or.inr (slot_ne (Or.inl (C.w 33 rfl)) (Or.inl (C.w 35 rfl)) (by decide) (t := .boolean) (t' := .boolean) (by decide) (by decide)))
  have F13 := FF7.other W4 (Or.inr (slot_ne (Or.inl (C.w 37 rfl)) (Or.inl (C.w 35 rfl)) (by decide) (t := .boolean) (t' := .boolean) (by decide) (by decide)))
  have K14 := (Keep.refl h [a]).wr W4 (Or.inl (List.mem_of_getElem? (i := 0) rfl))
  refine go_aloadN C X2 6 rfl d10_5 rfl rfl ?_
  refine go_iconst C X2 7 rfl d10_6 (z := 1) rfl ?_
  refine go_putFN C X2 (C.w 28 rfl) Via.refl F10 E6 (Or.inl (C.w 29 rfl)) (C.w 9 rfl) ga (ty := .boolean) (by decide) (v' := (.int (1 : Int32))) rfl rfl (pc' := 10) rfl d10_7 (fun T15 h17 W18 X16 => ?_)
  have F19 := F10.same W18
  have E20 := E6.wr W18
  have F21 := F7.other W18 (Or.inr (slot_ne (Or.inl (C.w 23 rfl)) (Or.inl (C.w 29 rfl)) (by decide) (t := .long) (t' := .boolean) (by decide) (by decide)))
  have F22 := F8.other W18 (Or.inr (slot_ne (Or.inl (C.w 25 rfl)) (Or.inl (C.w 29 rfl)) (by decide) (t := .boolean) (t' := .boolean) (by decide) (by decide)))
  have F23 := F9.other W18 (Or.inr (slot_ne (Or.inl (C.w 27 rfl)) (Or.inl (C.w 29 rfl)) (by decide) (t := .boolean) (t' := .boolean) (by decide) (by decide)))
  have F24 := F11.other W18 (Or.inr (slot_ne (Or.inl (C.w 31 rfl)) (Or.inl (C.w 29 rfl)) (by decide) (t := .boolean) (t' := .boolean) (by decide) (by decide)))
  have F25 := F12.other W18 (Or.inr (slot_ne (Or.inl (C.w 33 rfl)) (Or.inl (C.w 29 rfl)) (by decide) (t := .boolean) (t' := .boolean) (by decide) (by decide)))
  have F26 := F5.other W18 (Or.inr (slot_ne (Or.inl (C.w 35 rfl)) (Or.inl (C.w 29 rfl)) (by decide) (t := .boolean) (t' := .boolean) (by decide) (by decide)))
  have F27 := F13.other W18 (Or.inr (slot_ne (Or.inl (C.w 37 rfl)) (Or.inl (C.w 29 rfl)) (by decide) (t := .boolean) (t' := .boolean) (by decide) (by decide)))
  have K28 := K14.wr W18 (Or.inl (List.mem_of_getElem? (i := 0) rfl))
  exact go_ret0 C X16 d10_10 ⟨rfl, K28, E20, F21, F22, F23, F19, F24, F25, F26, F27⟩ (by decide) (by decide)
theorem d2_14 : decode method_4_code 14 = .ok (.invokevirtual 29, 3) := by decide +kernel
theorem d2_17 : decode method_4_code 17 = .ok (.goto 156, 3) := by decide +kernel
theorem pn_com_example_plantilla_plantilla_UrlValueSameAsPinLaw : plainName "com/example/plantilla/plantilla/UrlValueSameAsPinLaw" = true := by first | (simp [plainName, overriddenIn]; done) | decide +kernel
theorem ef_own_build (m : MethodId) (k : Int32) (cc : Int32)  : entryFrame m #[(.int k), (.int cc)] 3 = mkF m 0 #[iv k, iv cc, un] [] := by
  first | (simp [entryFrame, mkF, argsToLocals, Value.category]; done) | rfl
set_option maxRecDepth 65536 in
set_option maxHeartbeats 40000000 in
theorem own_build (l : Launch) (Z : State) (a0 : Array Value) (hw : ∀ d ∈ tables_1, d.before a0 Z = true) (k : Int32) (cc : Int32) (cs : Int32) (fv : Value) (h : Heap) (n0 : Nat) (hn0 : Old Z n0 h) (hEL : EW Z a0 consts_1) (hc : ((97 ≤ cc.toInt ∧ cc.toInt ≤ 122) ∨ (65 ≤ cc.toInt ∧ cc.toInt ≤ 90))) (hk0 : 0 ≤ k.toInt) (hk1 : k.toInt ≤ 10) (hcs : ¬ cs = 0) (S1 : Sta Z Z.heap "java/lang/String" "COMPACT_STRINGS" "Z" (.int cs)) (hfv : fv.isRef = true) (S2 : Sta Z Z.heap "jdk/internal/util/Preconditions" "SIOOBE_FORMATTER" "Ljava/util/function/BiFunction;" fv) :
    ConW l Z consts_1 (⟨"com/example/plantilla/plantilla/UrlValueSameAsPinLaw", "build", "(IC)Lcom/example/plantilla/plantilla/UrlValue;"⟩ : MethodName) method_4_code 3 (some (.object "com/example/plantilla/plantilla/UrlValue")) ({ frames := 5, cells := 3, slots := 60, locals := 70 } : Room) #[(.int k), (.int cc)] h n0 (fun v h' => ∃ w1 : Addr, v = some (.ref w1) ∧ h.size ≤ w1 ∧ Keep h h' [] ∧ Exa Z h' w1 "com/example/plantilla/plantilla/UrlValue" ∧ Fld Z h' w1 "com/example/plantilla/plantilla/UrlValue" "start" "J" (.long (own_st k cc)) ∧ Fld Z h' w1 "com/example/plantilla/plantilla/UrlValue" "begun" "Z" (.int (own_bg k)) ∧ Fld Z h' w1 "com/example/plantilla/plantilla/UrlValue" "schemeLike" "Z" (.int (own_sc k)) ∧ Fld Z h' w1 "com/example/plantilla/plantilla/UrlValue" "delimited" "Z" (.int (own_dl k)) ∧ Fld Z h' w1 "com/example/plantilla/plantilla/UrlValue" "query" "Z" (.int (own_qu k)) ∧ Fld Z h' w1 "com/example/plantilla/plantilla/UrlValue" "reference" "Z" (.int (own_rf k)) ∧ Fld Z h' w1 "com/example/plantilla/plantilla/UrlValue" "holding" "Z" (.int (own_hd k)) ∧ Fld Z h' w1 "com/example/plantilla/plantilla/UrlValue" "referenceOpen" "Z" (.int (own_ro k))) := by
  refine conW_of hw (plainFor_of_name pn_com_example_plantilla_plantilla_UrlValueSameAsPinLaw) hn0 ?_
  intro p e sv0 s m below meth c T0 C WI0 X0
  refine Go.cast (congrArg T0.setTop (ef_own_build m k cc)) ?_
  refine go_new C X0 (C.w 8 rfl) (C.w 9 rfl) (C.w 10 rfl) (by decide) (by decide) (pc' := 3) rfl d2_0 (fun T1 h3 w1 ha_w1 ga_w1 E4 E5 D6 X2 => ?_)
  have sz_w1 : h.size ≤ w1 := Nat.le_trans (Keep.refl h []).1 (Nat.le_of_eq ha_w1.symm)
  have WI7 := WI0.ext E4
  have K8 := (Keep.refl h []).ext E4
  have F9 : Fld Z h3 w1 "com/example/plantilla/plantilla/UrlValue" "start" "J" (.long (0 : Int64)) := D6 (Or.inl (C.w 23 rfl)) (ty := .long) (by decide)
  have F10 : Fld Z h3 w1 "com/example/plantilla/plantilla/UrlValue" "begun" "Z" (.int (0 : Int32)) := D6 (Or.inl (C.w 25 rfl)) (ty := .boolean) (by decide)
  have F11 : Fld Z h3 w1 "com/example/plantilla/plantilla/UrlValue" "schemeLike" "Z" (.int (0 : Int32)) := D6 (Or.inl (C.w 27 rfl)) (ty := .boolean) (by decide)
  have F12 : Fld Z h3 w1 "com/example/plantilla/plantilla/UrlValue" "delimited" "Z" (.int (0 : Int32)) := D6 (Or.inl (C.w 29 rfl)) (ty := .boolean) (by decide)
  have F13 : Fld Z h3 w1 "com/example/plantilla/plantilla/UrlValue" "query" "Z" (.int (0 : Int32)) := D6 (Or.inl (C.w 31 rfl)) (ty := .boolean) (by decide)
  have F14 : Fld Z h3 w1 "com/example/plantilla/plantilla/UrlValue" "reference" "Z" (.int (0 : Int32)) := D6 (Or.inl (C.w 33 rfl)) (ty := .boolean) (by decide)
  have F15 : Fld Z h3 w1 "com/example/plantilla/plantilla/UrlValue" "holding" "Z" (.int (0 : Int32)) := D6 (Or.inl (C.w 35 rfl)) (ty := .boolean) (by decide)
  have F16 : Fld Z h3 w1 "com/example/plantilla/plantilla/UrlValue" "referenceOpen" "Z" (.int (0 : Int32)) := D6 (Or.inl (C.w 37 rfl)) (ty := .boolean) (by decide)
  refine go_dup C X2 4 rfl d2_3 rfl ?_
  refine go_special C X2 (C.w 11 rfl) (C.w 12 rfl) (C.w 10 rfl) (C.w 13 rfl) rfl (own_u3_2 l Z a0 C.ws w1 h3 n0 X2.old E5 F9 F10 F11 F12 F13 F14 F15 F16 ga_w1 ) (argsL := []) (rest := [(.ref w1)]) (lenOf pd_3 rfl) rfl (by decide) (by decide) (Nat.le_of_ble_eq_true rfl) (by decide) (by decide) rfl rfl (pc' := 7) rfl d2_4 ?_
  rintro T17 h19 _ ⟨rfl, Kq20, Eq20, Fq200, Fq201, Fq202, Fq203, Fq204, Fq205, Fq206, Fq207⟩ X18
  show Go p e below _ (T17.setTop (mkF m 7 #[iv k, iv cc, un] [(.ref w1)]))
  have WI21 := WI7.keep Kq20 (sfS (safeE C E5 (by decide) (by decide)) sf0)
  have E22 := E5.keep Kq20
  have K23 := K8.trans Kq20 (allS (Or.inr sz_w1) all0)
  refine go_astoreN C X18 8 rfl d2_7 rfl #[iv k, iv cc, rv w1] rfl ?_
  refine go_iloadN C X18 9 rfl d2_8 rfl ?_
  refine go_iconst C X18 10 rfl d2_9 (z := 1) rfl ?_
  refine go_icmp_ne C X18 d2_10 (pc' := 13) (pc2 := 20) rfl (by decide) (by decide) (fun (c10 : ¬ k = (1 : Int32)) => ?_) (fun (c10 : k = (1 : Int32)) => ?_)
  · refine go_iloadN C X18 21 rfl d2_20 rfl ?_
    refine go_iconst C X18 22 rfl d2_21 (z := 2) rfl ?_
    refine go_icmp_ne C X18 d2_22 (pc' := 25) (pc2 := 35) rfl (by decide) (by decide) (fun (c22 : ¬ k = (2 : Int32)) => ?_) (fun (c22 : k = (2 : Int32)) => ?_)
    · refine go_iloadN C X18 36 rfl d2_35 rfl ?_
      refine go_iconst C X18 37 rfl d2_36 (z := 3) rfl ?_
      refine go_icmp_ne C X18 d2_37 (pc' := 40) (pc2 := 50) rfl (by decide) (by decide) (fun (c37 : ¬ k = (3 : Int32)) => ?_) (fun (c37 : k = (3 : Int32)) => ?_)
      · refine go_iloadN C X18 51 rfl d2_50 rfl ?_
        refine go_iconst C X18 52 rfl d2_51 (z := 4) rfl ?_
        refine go_icmp_ne C X18 d2_52 (pc' := 55) (pc2 := 65) rfl (by decide) (by decide) (fun (c52 : ¬ k = (4 : Int32)) => ?_) (fun (c52 : k = (4 : Int32)) => ?_)
        · refine go_iloadN C X18 66 rfl d2_65 rfl ?_
          refine go_iconst C X18 67 rfl d2_66 (z := 5) rfl ?_
          refine go_icmp_ne C X18 d2_67 (pc' := 70) (pc2 := 80) rfl (by decide) (by decide) (fun (c67 : ¬ k = (5 : Int32)) => ?_) (fun (c67 : k = (5 : Int32)) => ?_)
          · refine go_iloadN C X18 81 rfl d2_80 rfl ?_
            refine go_bipush C X18 83 rfl d2_81 (z := 6) rfl ?_
            refine go_icmp_ne C X18 d2_83 (pc' := 86) (pc2 := 103) rfl (by decide) (by decide) (fun (c83 : ¬ k = (6 : Int32)) => ?_) (fun (c83 : k = (6 : Int32)) => ?_)
            · refine go_iloadN C X18 104 rfl d2_103 rfl ?_
              refine go_bipush C X18 106 rfl d2_104 (z := 7) rfl ?_
              refine go_icmp_ne C X18 d2_106 (pc' := 109) (pc2 := 118) rfl (by decide) (by decide) (fun (c106 : ¬ k = (7 : Int32)) => ?_) (fun (c106 : k = (7 : Int32)) => ?_)
              · refine go_iloadN C X18 119 rfl d2_118 rfl ?_
                refine go_bipush C X18 121 rfl d2_119 (z := 8) rfl ?_
                refine go_icmp_ne C X18 d2_121 (pc' := 124) (pc2 := 136) rfl (by decide) (by decide) (fun (c121 : ¬ k = (8 : Int32)) => ?_) (fun (c121 : k = (8 : Int32)) => ?_)
                · refine go_iloadN C X18 137 rfl d2_136 rfl ?_
                  refine go_bipush C X18 139 rfl d2_137 (z := 9) rfl ?_
                  refine go_icmp_ne C X18 d2_139 (pc' := 142) (pc2 := 156) rfl (by decide) (by decide) (fun (c139 : ¬ k = (9 : Int32)) => ?_) (fun (c139 : k = (9 : Int32)) => ?_)
                  · refine go_iloadN C X18 157 rfl d2_156 rfl ?_
                    refine go_bipush C X18 159 rfl d2_157 (z := 10) rfl ?_
                    refine go_icmp_ne C X18 d2_159 (pc' := 162) (pc2 := 173) rfl (by decide) (by decide) (fun (c159 : ¬ k = (10 : Int32)) => ?_) (fun (c159 : k = (10 : Int32)) => ?_)
                    · refine go_aloadN C X18 174 rfl d2_173 rfl rfl ?_
                      exact go_retAW C X18 WI21 hEL d2_174 rfl rfl (by obtain rfl : k = 0 := i_eq (by have q0 := i_ne c10; have z0 : (1 : Int32).toInt = 1 := rfl; have q1 := i_ne c22; have z1 : (2 : Int32).toInt = 2 := rfl; have q2 := i_ne c37; have z2 : (3 : Int32).toInt = 3 := rfl; have q3 := i_ne c52; have z3 : (4 : Int32).toInt = 4 := rfl; have q4 := i_ne c67; have z4 : (5 : Int32).toInt = 5 := rfl; have q5 := i_ne c83; have z5 : (6 : Int32).toInt = 6 := rfl; have q6 := i_ne c106; have z6 : (7 : Int32).toInt = 7 := rfl; have q7 := i_ne c121; have z7 : (8 : Int32).toInt = 8 := rfl; have q8 := i_ne c139; have z8 : (9 : Int32).toInt = 9 := rfl; have q9 := i_ne c159; have z9 : (10 : Int32).toInt = 10 := rfl; have : (0 : Int32).toInt = 0 := rfl; omega); exact ⟨w1, rfl, sz_w1, K23, Eq20, (by rw [own_st_0]; exact Fq200), (by rw [own_bg_0]; exact Fq201), (by rw [own_sc_0]; exact Fq202), (by rw [own_dl_0]; exact Fq203), (by rw [own_qu_0]; exact Fq204), (by rw [own_rf_0]; exact Fq205), (by rw [own_hd_0]; exact Fq206), (by rw [own_ro_0]; exact Fq207)⟩) (by decide) (by decide)
                    · refine go_aloadN C X18 163 rfl d2_162 rfl rfl ?_
                      refine go_bipush C X18 165 rfl d2_163 (z := 33) rfl ?_
                      refine go_virtual C X18 Eq20 (C.w 38 rfl) (C.w 39 rfl) (notFace_of_selects (args := #[]) (mvT C.hZ (C.w 41 rfl))) (C.w 41 rfl) (C.w 40 rfl) (C.w 10 rfl) (C.w 42 rfl) (own_u6_4 l Z a0 C.ws w1 h19 n0 X18.old Eq20 Fq200 Fq201 Fq202 Fq203 Fq204 Fq205 Fq206 Fq207 ga_w1 ) (argsL := [(.int (33 : Int32))]) (rest := []) (lenOf pd_0 rfl) rfl (by decide) (by decide) (Nat.le_of_ble_eq_true rfl) (by decide) (by decide) rfl rfl (pc' := 168) rfl d2_165 ?_
                      rintro T24 h26 _ ⟨rfl, Kq27, Eq27, Fq270, Fq271, Fq272, Fq273, Fq274, Fq275, Fq276, Fq277⟩ X25
                      show Go p e below _ (T24.setTop (mkF m 168 #[iv k, iv cc, rv w1] [(.int (0 : Int32))]))
                      have WI28 := WI21.keep Kq27 (sfS (safeE C Eq20 (by decide) (by decide)) sf0)
                      have E29 := Eq20.keep Kq27
                      have K30 := K23.trans Kq27 (allS (Or.inr sz_w1) all0)
                      refine go_pop C X25 169 rfl d2_168 rfl ?_
                      refine go_aloadN C X25 170 rfl d2_169 rfl rfl ?_
                      refine go_virtual C X25 Eq27 (C.w 55 rfl) (C.w 56 rfl) (notFace_of_selects (args := #[]) (mvT C.hZ (C.w 58 rfl))) (C.w 58 rfl) (C.w 57 rfl) (C.w 10 rfl) (C.w 59 rfl) (own_u10_9 l Z a0 C.ws w1 h26 n0 X25.old Eq27 Fq270 Fq271 Fq272 Fq273 Fq274 Fq275 Fq276 Fq277 ga_w1 ) (argsL := []) (rest := []) (lenOf pd_3 rfl) rfl (by decide) (by decide) (Nat.le_of_ble_eq_true rfl) (by decide) (by decide) rfl rfl (pc' := 173) rfl d2_170 ?_
                      rintro T31 h33 _ ⟨rfl, Kq34, Eq34, Fq340, Fq341, Fq342, Fq343, Fq344, Fq345, Fq346, Fq347⟩ X32
                      show Go p e below _ (T31.setTop (mkF m 173 #[iv k, iv cc, rv w1] []))
                      have WI35 := WI28.keep Kq34 (sfS (safeE C Eq27 (by decide) (by decide)) sf0)
                      have E36 := Eq27.keep Kq34
                      have K37 := K30.trans Kq34 (allS (Or.inr sz_w1) all0)
                      refine go_aloadN C X32 174 rfl d2_173 rfl rfl ?_
                      exact go_retAW C X32 WI35 hEL d2_174 rfl rfl (by subst c159; exact ⟨w1, rfl, sz_w1, K37, Eq34, (by rw [own_st_10]; exact Fq340), (by rw [own_bg_10]; exact Fq341), (by rw [own_sc_10]; exact Fq342), (by rw [own_dl_10]; exact Fq343), (by rw [own_qu_10]; exact Fq344), (by rw [own_rf_10]; exact Fq345), (by rw [own_hd_10]; exact Fq346), (by rw [own_ro_10]; exact Fq347)⟩) (by decide) (by decide)
                  · refine go_aloadN C X18 143 rfl d2_142 rfl rfl ?_
                    refine go_ldcH C X18 WI21 hEL (C.w 132 rfl) (own_wS C.ws) (List.mem_of_getElem? (i := 0) rfl) (vs := [(.int (97 : Int32)), (.int (97 : Int32)), (.int (97 : Int32)), (.int (97 : Int32)), (.int (97 : Int32)), (.int (97 : Int32)), (.int (97 : Int32)), (.int (97 : Int32)), (.int (97 : Int32)), (.int (97 : Int32)), (.int (97 : Int32)), (.int (97 : Int32))]) (z := 12) (own_lit46) (by decide) (by decide) (q := 48) own_len46 (by decide) (by decide) (by decide) (pc' := 145) rfl d2_143 ?_
                    intro s T38 h40 sa sb C WI47 E41 E42 F43 F44 A45 SF46 SFT48 X39
                    have E49 := Eq20.ext E41
                    have F50 := Fq200.ext E41
                    have F51 := Fq201.ext E41
                    have F52 := Fq202.ext E41
                    have F53 := Fq203.ext E41
                    have F54 := Fq204.ext E41
                    have F55 := Fq205.ext E41
                    have F56 := Fq206.ext E41
                    have F57 := Fq207.ext E41
                    have K58 := K23.ext E41
                    have ne_w1_sa := (SF46 w1 (safeE C E49 (by decide) (by decide))).1
                    have ne_w1_sb := (SF46 w1 (safeE C E49 (by decide) (by decide))).2
                    refine go_virtual C X39 E49 (C.w 96 rfl) (C.w 97 rfl) (notFace_of_selects (args := #[]) (mvT C.hZ (C.w 99 rfl))) (C.w 99 rfl) (C.w 98 rfl) (C.w 10 rfl) (C.w 100 rfl) (own_u18_10 l Z a0 C.ws w1 sa sb cs fv h40 n0 X39.old E49 F50 F51 F52 F53 F54 F55 F56 F57 ga_w1 E42 F43 F44 A45 ne_w1_sa ne_w1_sb hcs S1 hfv S2) (argsL := [(.ref sa)]) (rest := []) (lenOf pd_14 rfl) rfl (by decide) (by decide) (Nat.le_of_ble_eq_true rfl) (by decide) (by decide) rfl rfl (pc' := 148) rfl d2_145 ?_
                    rintro T59 h61 _ ⟨rfl, Kq62, Eq62, Fq620, Fq621, Fq622, Fq623, Fq624, Fq625, Fq626, Fq627⟩ X60
                    show Go p e below _ (T59.setTop (mkF m 148 #[iv k, iv cc, rv w1] [(.ref sa)]))
                    have WI63 := WI47.keep Kq62 (sfS (safeE C E49 (by decide) (by decide)) sf0)
                    have E64 := E49.keep Kq62
                    have E65 := E42.keep Kq62
                    have F66 := F43.keep Kq62 (ninS (Ne.symm ne_w1_sa) nin0)
                    have F67 := F44.keep Kq62 (ninS (Ne.symm ne_w1_sa) nin0)
                    have A68 := A45.keep Kq62 (ninS (Ne.symm ne_w1_sb) nin0)
                    have K69 := K58.trans Kq62 (allS (Or.inr sz_w1) all0)
                    refine go_pop C X60 149 rfl d2_148 rfl ?_
                    refine go_aloadN C X60 150 rfl d2_149 rfl rfl ?_
                    refine go_virtual C X60 Eq62 (C.w 55 rfl) (C.w 56 rfl) (notFace_of_selects (args := #[]) (mvT C.hZ (C.w 58 rfl))) (C.w 58 rfl) (C.w 57 rfl) (C.w 10 rfl) (C.w 59 rfl) (own_u10_68 l Z a0 C.ws w1 h61 n0 X60.old Eq62 Fq620 Fq621 Fq622 Fq623 Fq624 Fq625 Fq626 Fq627 ga_w1 ) (argsL := []) (rest := []) (lenOf pd_3 rfl) rfl (by decide) (by decide) (Nat.le_of_ble_eq_true rfl) (by decide) (by decide) rfl rfl (pc' := 153) rfl d2_150 ?_
                    rintro T70 h72 _ ⟨rfl, Kq73, Eq73, Fq730, Fq731, Fq732, Fq733, Fq734, Fq735, Fq736, Fq737⟩ X71
                    show Go p e below _ (T70.setTop (mkF m 153 #[iv k, iv cc, rv w1] []))
                    have WI74 := WI63.keep Kq73 (sfS (safeE C Eq62 (by decide) (by decide)) sf0)
                    have E75 := Eq62.keep Kq73
                    have E76 := E65.keep Kq73
                    have F77 := F66.keep Kq73 (ninS (Ne.symm ne_w1_sa) nin0)
                    have F78 := F67.keep Kq73 (ninS (Ne.symm ne_w1_sa) nin0)
                    have A79 := A68.keep Kq73 (ninS (Ne.symm ne_w1_sb) nin0)
                    have K80 := K69.trans Kq73 (allS (Or.inr sz_w1) all0)
                    refine go_goto C X71 d2_153 (pc' := 173) (by decide) (by decide) ?_
                    refine go_aloadN C X71 174 rfl d2_173 rfl rfl ?_
                    exact go_retAW C X71 WI74 hEL d2_174 rfl rfl (by subst c139; exact ⟨w1, rfl, sz_w1, K80, Eq73, (by rw [own_st_9]; exact Fq730), (by rw [own_bg_9]; exact Fq731), (by rw [own_sc_9]; exact Fq732), (by rw [own_dl_9]; exact Fq733), (by rw [own_qu_9]; exact Fq734), (by rw [own_rf_9]; exact Fq735), (by rw [own_hd_9]; exact Fq736), (by rw [own_ro_9]; exact Fq737)⟩) (by decide) (by decide)
                · refine go_aloadN C X18 125 rfl d2_124 rfl rfl ?_
                  refine go_iloadN C X18 126 rfl d2_125 rfl ?_
                  have hsz_126 := X18.sz
                  have lt_w1_126 := Eq20.lt
                  refine go_callS C X18 (C.w 72 rfl) (C.w 73 rfl) (C.w 74 rfl) (C.w 75 rfl) (own_vo l Z a0 C.ws cc cs fv h19 n0 X18.old hc hcs S1 hfv S2) (argsL := [(.int cc)]) (rest := [(.ref w1)]) (lenOf pd_15 rfl) rfl (by decide) (by decide) (Nat.le_of_ble_eq_true rfl) (by decide) (by decide) rfl rfl (pc' := 129) rfl d2_126 ?_
                  rintro T81 h83 _ ⟨sa, sb, rfl, K8, E8, G8, G9, A8, sz8a, sz8b⟩ X82
                  show Go p e below _ (T81.setTop (mkF m 129 #[iv k, iv cc, rv w1] [(.ref sa), (.ref w1)]))
                  have ne_w1_sa : w1 ≠ sa := Nat.ne_of_lt (Nat.lt_of_lt_of_le lt_w1_126 sz8a)
                  have ga_sa : n0 ≤ sa := Nat.le_trans hsz_126 sz8a
                  have sz_sa : h.size ≤ sa := Nat.le_trans K23.1 sz8a
                  have ne_w1_sb : w1 ≠ sb := Nat.ne_of_lt (Nat.lt_of_lt_of_le lt_w1_126 sz8b)
                  have ga_sb : n0 ≤ sb := Nat.le_trans hsz_126 sz8b
                  have sz_sb : h.size ≤ sb := Nat.le_trans K23.1 sz8b
                  have WI84 := WI21.keep K8 sf0
                  have E85 := Eq20.keep K8
                  have F86 := Fq200.keep K8 nin0
                  have F87 := Fq201.keep K8 nin0
                  have F88 := Fq202.keep K8 nin0
                  have F89 := Fq203.keep K8 nin0
                  have F90 := Fq204.keep K8 nin0
                  have F91 := Fq205.keep K8 nin0
                  have F92 := Fq206.keep K8 nin0
                  have F93 := Fq207.keep K8 nin0
                  have K94 := K23.trans K8 all0
                  refine go_virtual C X82 E85 (C.w 96 rfl) (C.w 97 rfl) (notFace_of_selects (args := #[]) (mvT C.hZ (C.w 99 rfl))) (C.w 99 rfl) (C.w 98 rfl) (C.w 10 rfl) (C.w 100 rfl) (own_u18_69 l Z a0 C.ws w1 sa cc sb cs fv h83 n0 X82.old hc E85 F86 F87 F88 F89 F90 F91 F92 F93 ga_w1 E8 G8 G9 A8 ne_w1_sa ne_w1_sb hcs S1 hfv S2) (argsL := [(.ref sa)]) (rest := []) (lenOf pd_14 rfl) rfl (by decide) (by decide) (Nat.le_of_ble_eq_true rfl) (by decide) (by decide) rfl rfl (pc' := 132) rfl d2_129 ?_
                  rintro T95 h97 _ ⟨rfl, Kq98, Eq98, Fq980, Fq981, Fq982, Fq983, Fq984, Fq985, Fq986, Fq987⟩ X96
                  show Go p e below _ (T95.setTop (mkF m 132 #[iv k, iv cc, rv w1] [(.ref sa)]))
                  have WI99 := WI84.keep Kq98 (sfS (safeE C E85 (by decide) (by decide)) sf0)
                  have E100 := E85.keep Kq98
                  have E101 := E8.keep Kq98
                  have F102 := G8.keep Kq98 (ninS (Ne.symm ne_w1_sa) nin0)
                  have F103 := G9.keep Kq98 (ninS (Ne.symm ne_w1_sa) nin0)
                  have A104 := A8.keep Kq98 (ninS (Ne.symm ne_w1_sb) nin0)
                  have K105 := K94.trans Kq98 (allS (Or.inr sz_w1) all0)
                  refine go_pop C X96 133 rfl d2_132 rfl ?_
                  refine go_goto C X96 d2_133 (pc' := 173) (by decide) (by decide) ?_
                  refine go_aloadN C X96 174 rfl d2_173 rfl rfl ?_
                  exact go_retAW C X96 WI99 hEL d2_174 rfl rfl (by subst c121; exact ⟨w1, rfl, sz_w1, K105, Eq98, (by rw [own_st_8]; exact Fq980), (by rw [own_bg_8]; exact Fq981), (by rw [own_sc_8]; exact Fq982), (by rw [own_dl_8]; exact Fq983), (by rw [own_qu_8]; exact Fq984), (by rw [own_rf_8]; exact Fq985), (by rw [own_hd_8]; exact Fq986), (by rw [own_ro_8]; exact Fq987)⟩) (by decide) (by decide)
              · refine go_aloadN C X18 110 rfl d2_109 rfl rfl ?_
                refine go_iloadN C X18 111 rfl d2_110 rfl ?_
                refine go_virtual C X18 Eq20 (C.w 38 rfl) (C.w 39 rfl) (notFace_of_selects (args := #[]) (mvT C.hZ (C.w 41 rfl))) (C.w 41 rfl) (C.w 40 rfl) (C.w 10 rfl) (C.w 42 rfl) (own_u6_81 l Z a0 C.ws w1 cc h19 n0 X18.old hc Eq20 Fq200 Fq201 Fq202 Fq203 Fq204 Fq205 Fq206 Fq207 ga_w1 ) (argsL := [(.int cc)]) (rest := []) (lenOf pd_0 rfl) rfl (by decide) (by decide) (Nat.le_of_ble_eq_true rfl) (by decide) (by decide) rfl rfl (pc' := 114) rfl d2_111 ?_
                rintro T106 h108 _ ⟨rfl, Kq109, Eq109, Fq1090, Fq1091, Fq1092, Fq1093, Fq1094, Fq1095, Fq1096, Fq1097⟩ X107
                show Go p e below _ (T106.setTop (mkF m 114 #[iv k, iv cc, rv w1] [(.int (0 : Int32))]))
                have WI110 := WI21.keep Kq109 (sfS (safeE C Eq20 (by decide) (by decide)) sf0)
                have E111 := Eq20.keep Kq109
                have K112 := K23.trans Kq109 (allS (Or.inr sz_w1) all0)
                refine go_pop C X107 115 rfl d2_114 rfl ?_
                refine go_goto C X107 d2_115 (pc' := 173) (by decide) (by decide) ?_
                refine go_aloadN C X107 174 rfl d2_173 rfl rfl ?_
                exact go_retAW C X107 WI110 hEL d2_174 rfl rfl (by subst c106; exact ⟨w1, rfl, sz_w1, K112, Eq109, (by rw [own_st_7]; exact Fq1090), (by rw [own_bg_7]; exact Fq1091), (by rw [own_sc_7]; exact Fq1092), (by rw [own_dl_7]; exact Fq1093), (by rw [own_qu_7]; exact Fq1094), (by rw [own_rf_7]; exact Fq1095), (by rw [own_hd_7]; exact Fq1096), (by rw [own_ro_7]; exact Fq1097)⟩) (by decide) (by decide)
            · refine go_aloadN C X18 87 rfl d2_86 rfl rfl ?_
              refine go_bipush C X18 89 rfl d2_87 (z := 38) rfl ?_
              refine go_virtual C X18 Eq20 (C.w 38 rfl) (C.w 39 rfl) (notFace_of_selects (args := #[]) (mvT C.hZ (C.w 41 rfl))) (C.w 41 rfl) (C.w 40 rfl) (C.w 10 rfl) (C.w 42 rfl) (own_u6_83 l Z a0 C.ws w1 h19 n0 X18.old Eq20 Fq200 Fq201 Fq202 Fq203 Fq204 Fq205 Fq206 Fq207 ga_w1 ) (argsL := [(.int (38 : Int32))]) (rest := []) (lenOf pd_0 rfl) rfl (by decide) (by decide) (Nat.le_of_ble_eq_true rfl) (by decide) (by decide) rfl rfl (pc' := 92) rfl d2_89 ?_
              rintro T113 h115 _ ⟨rfl, Kq116, Eq116, Fq1160, Fq1161, Fq1162, Fq1163, Fq1164, Fq1165, Fq1166, Fq1167⟩ X114
              show Go p e below _ (T113.setTop (mkF m 92 #[iv k, iv cc, rv w1] [(.int (0 : Int32))]))
              have WI117 := WI21.keep Kq116 (sfS (safeE C Eq20 (by decide) (by decide)) sf0)
              have E118 := Eq20.keep Kq116
              have K119 := K23.trans Kq116 (allS (Or.inr sz_w1) all0)
              refine go_pop C X114 93 rfl d2_92 rfl ?_
              refine go_aloadN C X114 94 rfl d2_93 rfl rfl ?_
              refine go_bipush C X114 96 rfl d2_94 (z := 33) rfl ?_
              refine go_virtual C X114 Eq116 (C.w 38 rfl) (C.w 39 rfl) (notFace_of_selects (args := #[]) (mvT C.hZ (C.w 41 rfl))) (C.w 41 rfl) (C.w 40 rfl) (C.w 10 rfl) (C.w 42 rfl) (own_u6_88 l Z a0 C.ws w1 h115 n0 X114.old Eq116 Fq1160 Fq1161 Fq1162 Fq1163 Fq1164 Fq1165 Fq1166 Fq1167 ga_w1 ) (argsL := [(.int (33 : Int32))]) (rest := []) (lenOf pd_0 rfl) rfl (by decide) (by decide) (Nat.le_of_ble_eq_true rfl) (by decide) (by decide) rfl rfl (pc' := 99) rfl d2_96 ?_
              rintro T120 h122 _ ⟨rfl, Kq123, Eq123, Fq1230, Fq1231, Fq1232, Fq1233, Fq1234, Fq1235, Fq1236, Fq1237⟩ X121
              show Go p e below _ (T120.setTop (mkF m 99 #[iv k, iv cc, rv w1] [(.int (0 : Int32))]))
              have WI124 := WI117.keep Kq123 (sfS (safeE C Eq116 (by decide) (by decide)) sf0)
              have E125 := Eq116.keep Kq123
              have K126 := K119.trans Kq123 (allS (Or.inr sz_w1) all0)
              refine go_pop C X121 100 rfl d2_99 rfl ?_
              refine go_goto C X121 d2_100 (pc' := 173) (by decide) (by decide) ?_
              refine go_aloadN C X121 174 rfl d2_173 rfl rfl ?_
              exact go_retAW C X121 WI124 hEL d2_174 rfl rfl (by subst c83; exact ⟨w1, rfl, sz_w1, K126, Eq123, (by rw [own_st_6]; exact Fq1230), (by rw [own_bg_6]; exact Fq1231), (by rw [own_sc_6]; exact Fq1232), (by rw [own_dl_6]; exact Fq1233), (by rw [own_qu_6]; exact Fq1234), (by rw [own_rf_6]; exact Fq1235), (by rw [own_hd_6]; exact Fq1236), (by rw [own_ro_6]; exact Fq1237)⟩) (by decide) (by decide)
          · refine go_aloadN C X18 71 rfl d2_70 rfl rfl ?_
            refine go_bipush C X18 73 rfl d2_71 (z := 38) rfl ?_
            refine go_virtual C X18 Eq20 (C.w 38 rfl) (C.w 39 rfl) (notFace_of_selects (args := #[]) (mvT C.hZ (C.w 41 rfl))) (C.w 41 rfl) (C.w 40 rfl) (C.w 10 rfl) (C.w 42 rfl) (own_u6_83 l Z a0 C.ws w1 h19 n0 X18.old Eq20 Fq200 Fq201 Fq202 Fq203 Fq204 Fq205 Fq206 Fq207 ga_w1 ) (argsL := [(.int (38 : Int32))]) (rest := []) (lenOf pd_0 rfl) rfl (by decide) (by decide) (Nat.le_of_ble_eq_true rfl) (by decide) (by decide) rfl rfl (pc' := 76) rfl d2_73 ?_
            rintro T127 h129 _ ⟨rfl, Kq130, Eq130, Fq1300, Fq1301, Fq1302, Fq1303, Fq1304, Fq1305, Fq1306, Fq1307⟩ X128
            show Go p e below _ (T127.setTop (mkF m 76 #[iv k, iv cc, rv w1] [(.int (0 : Int32))]))
            have WI131 := WI21.keep Kq130 (sfS (safeE C Eq20 (by decide) (by decide)) sf0)
            have E132 := Eq20.keep Kq130
            have K133 := K23.trans Kq130 (allS (Or.inr sz_w1) all0)
            refine go_pop C X128 77 rfl d2_76 rfl ?_
            refine go_goto C X128 d2_77 (pc' := 173) (by decide) (by decide) ?_
            refine go_aloadN C X128 174 rfl d2_173 rfl rfl ?_
            exact go_retAW C X128 WI131 hEL d2_174 rfl rfl (by subst c67; exact ⟨w1, rfl, sz_w1, K133, Eq130, (by rw [own_st_5]; exact Fq1300), (by rw [own_bg_5]; exact Fq1301), (by rw [own_sc_5]; exact Fq1302), (by rw [own_dl_5]; exact Fq1303), (by rw [own_qu_5]; exact Fq1304), (by rw [own_rf_5]; exact Fq1305), (by rw [own_hd_5]; exact Fq1306), (by rw [own_ro_5]; exact Fq1307)⟩) (by decide) (by decide)
        · refine go_aloadN C X18 56 rfl d2_55 rfl rfl ?_
          refine go_bipush C X18 58 rfl d2_56 (z := 33) rfl ?_
          refine go_virtual C X18 Eq20 (C.w 38 rfl) (C.w 39 rfl) (notFace_of_selects (args := #[]) (mvT C.hZ (C.w 41 rfl))) (C.w 41 rfl) (C.w 40 rfl) (C.w 10 rfl) (C.w 42 rfl) (own_u6_4 l Z a0 C.ws w1 h19 n0 X18.old Eq20 Fq200 Fq201 Fq202 Fq203 Fq204 Fq205 Fq206 Fq207 ga_w1 ) (argsL := [(.int (33 : Int32))]) (rest := []) (lenOf pd_0 rfl) rfl (by decide) (by decide) (Nat.le_of_ble_eq_true rfl) (by decide) (by decide) rfl rfl (pc' := 61) rfl d2_58 ?_
          rintro T134 h136 _ ⟨rfl, Kq137, Eq137, Fq1370, Fq1371, Fq1372, Fq1373, Fq1374, Fq1375, Fq1376, Fq1377⟩ X135
          show Go p e below _ (T134.setTop (mkF m 61 #[iv k, iv cc, rv w1] [(.int (0 : Int32))]))
          have WI138 := WI21.keep Kq137 (sfS (safeE C Eq20 (by decide) (by decide)) sf0)
          have E139 := Eq20.keep Kq137
          have K140 := K23.trans Kq137 (allS (Or.inr sz_w1) all0)
          refine go_pop C X135 62 rfl d2_61 rfl ?_
          refine go_goto C X135 d2_62 (pc' := 173) (by decide) (by decide) ?_
          refine go_aloadN C X135 174 rfl d2_173 rfl rfl ?_
          exact go_retAW C X135 WI138 hEL d2_174 rfl rfl (by subst c52; exact ⟨w1, rfl, sz_w1, K140, Eq137, (by rw [own_st_4]; exact Fq1370), (by rw [own_bg_4]; exact Fq1371), (by rw [own_sc_4]; exact Fq1372), (by rw [own_dl_4]; exact Fq1373), (by rw [own_qu_4]; exact Fq1374), (by rw [own_rf_4]; exact Fq1375), (by rw [own_hd_4]; exact Fq1376), (by rw [own_ro_4]; exact Fq1377)⟩) (by decide) (by decide)
      · refine go_aloadN C X18 41 rfl d2_40 rfl rfl ?_
        refine go_bipush C X18 43 rfl d2_41 (z := 63) rfl ?_
        refine go_virtual C X18 Eq20 (C.w 38 rfl) (C.w 39 rfl) (notFace_of_selects (args := #[]) (mvT C.hZ (C.w 41 rfl))) (C.w 41 rfl) (C.w 40 rfl) (C.w 10 rfl) (C.w 42 rfl) (own_u6_93 l Z a0 C.ws w1 h19 n0 X18.old Eq20 Fq200 Fq201 Fq202 Fq203 Fq204 Fq205 Fq206 Fq207 ga_w1 ) (argsL := [(.int (63 : Int32))]) (rest := []) (lenOf pd_0 rfl) rfl (by decide) (by decide) (Nat.le_of_ble_eq_true rfl) (by decide) (by decide) rfl rfl (pc' := 46) rfl d2_43 ?_
        rintro T141 h143 _ ⟨rfl, Kq144, Eq144, Fq1440, Fq1441, Fq1442, Fq1443, Fq1444, Fq1445, Fq1446, Fq1447⟩ X142
        show Go p e below _ (T141.setTop (mkF m 46 #[iv k, iv cc, rv w1] [(.int (0 : Int32))]))
        have WI145 := WI21.keep Kq144 (sfS (safeE C Eq20 (by decide) (by decide)) sf0)
        have E146 := Eq20.keep Kq144
        have K147 := K23.trans Kq144 (allS (Or.inr sz_w1) all0)
        refine go_pop C X142 47 rfl d2_46 rfl ?_
        refine go_goto C X142 d2_47 (pc' := 173) (by decide) (by decide) ?_
        refine go_aloadN C X142 174 rfl d2_173 rfl rfl ?_
        exact go_retAW C X142 WI145 hEL d2_174 rfl rfl (by subst c37; exact ⟨w1, rfl, sz_w1, K147, Eq144, (by rw [own_st_3]; exact Fq1440), (by rw [own_bg_3]; exact Fq1441), (by rw [own_sc_3]; exact Fq1442), (by rw [own_dl_3]; exact Fq1443), (by rw [own_qu_3]; exact Fq1444), (by rw [own_rf_3]; exact Fq1445), (by rw [own_hd_3]; exact Fq1446), (by rw [own_ro_3]; exact Fq1447)⟩) (by decide) (by decide)
    · refine go_aloadN C X18 26 rfl d2_25 rfl rfl ?_
      refine go_bipush C X18 28 rfl d2_26 (z := 58) rfl ?_
      refine go_virtual C X18 Eq20 (C.w 38 rfl) (C.w 39 rfl) (notFace_of_selects (args := #[]) (mvT C.hZ (C.w 41 rfl))) (C.w 41 rfl) (C.w 40 rfl) (C.w 10 rfl) (C.w 42 rfl) (own_u6_95 l Z a0 C.ws w1 h19 n0 X18.old Eq20 Fq200 Fq201 Fq202 Fq203 Fq204 Fq205 Fq206 Fq207 ga_w1 ) (argsL := [(.int (58 : Int32))]) (rest := []) (lenOf pd_0 rfl) rfl (by decide) (by decide) (Nat.le_of_ble_eq_true rfl) (by decide) (by decide) rfl rfl (pc' := 31) rfl d2_28 ?_
      rintro T148 h150 _ ⟨rfl, Kq151, Eq151, Fq1510, Fq1511, Fq1512, Fq1513, Fq1514, Fq1515, Fq1516, Fq1517⟩ X149
      show Go p e below _ (T148.setTop (mkF m 31 #[iv k, iv cc, rv w1] [(.int (0 : Int32))]))
      have WI152 := WI21.keep Kq151 (sfS (safeE C Eq20 (by decide) (by decide)) sf0)
      have E153 := Eq20.keep Kq151
      have K154 := K23.trans Kq151 (allS (Or.inr sz_w1) all0)
      refine go_pop C X149 32 rfl d2_31 rfl ?_
      refine go_goto C X149 d2_32 (pc' := 173) (by decide) (by decide) ?_
      refine go_aloadN C X149 174 rfl d2_173 rfl rfl ?_
      exact go_retAW C X149 WI152 hEL d2_174 rfl rfl (by subst c22; exact ⟨w1, rfl, sz_w1, K154, Eq151, (by rw [own_st_2]; exact Fq1510), (by rw [own_bg_2]; exact Fq1511), (by rw [own_sc_2]; exact Fq1512), (by rw [own_dl_2]; exact Fq1513), (by rw [own_qu_2]; exact Fq1514), (by rw [own_rf_2]; exact Fq1515), (by rw [own_hd_2]; exact Fq1516), (by rw [own_ro_2]; exact Fq1517)⟩) (by decide) (by decide)
  · refine go_aloadN C X18 14 rfl d2_13 rfl rfl ?_
    refine go_virtual C X18 Eq20 (C.w 55 rfl) (C.w 56 rfl) (notFace_of_selects (args := #[]) (mvT C.hZ (C.w 58 rfl))) (C.w 58 rfl) (C.w 57 rfl) (C.w 10 rfl) (C.w 59 rfl) (own_u10_97 l Z a0 C.ws w1 h19 n0 X18.old Eq20 Fq200 Fq201 Fq202 Fq203 Fq204 Fq205 Fq206 Fq207 ga_w1 ) (argsL := []) (rest := []) (lenOf pd_3 rfl) rfl (by decide) (by decide) (Nat.le_of_ble_eq_true rfl) (by decide) (by decide) rfl rfl (pc' := 17) rfl d2_14 ?_
    rintro T155 h157 _ ⟨rfl, Kq158, Eq158, Fq1580, Fq1581, Fq1582, Fq1583, Fq1584, Fq1585, Fq1586, Fq1587⟩ X156
    show Go p e below _ (T155.setTop (mkF m 17 #[iv k, iv cc, rv w1] []))
    have WI159 := WI21.keep Kq158 (sfS (safeE C Eq20 (by decide) (by decide)) sf0)
    have E160 := Eq20.keep Kq158
    have K161 := K23.trans Kq158 (allS (Or.inr sz_w1) all0)
    refine go_goto C X156 d2_17 (pc' := 173) (by decide) (by decide) ?_
    refine go_aloadN C X156 174 rfl d2_173 rfl rfl ?_
    exact go_retAW C X156 WI159 hEL d2_174 rfl rfl (by subst c10; exact ⟨w1, rfl, sz_w1, K161, Eq158, (by rw [own_st_1]; exact Fq1580), (by rw [own_bg_1]; exact Fq1581), (by rw [own_sc_1]; exact Fq1582), (by rw [own_dl_1]; exact Fq1583), (by rw [own_qu_1]; exact Fq1584), (by rw [own_rf_1]; exact Fq1585), (by rw [own_hd_1]; exact Fq1586), (by rw [own_ro_1]; exact Fq1587)⟩) (by decide) (by decide)
theorem own_let1 {l : Int32} (h0 : 0 ≤ l.toInt) (h1 : l.toInt < 26) : ((97 ≤ (nar .char ((97 + l).toUInt32.toUInt16.toUInt32.toInt32)).toInt ∧ (nar .char ((97 + l).toUInt32.toUInt16.toUInt32.toInt32)).toInt ≤ 122) ∨ (65 ≤ (nar .char ((97 + l).toUInt32.toUInt16.toUInt32.toInt32)).toInt ∧ (nar .char ((97 + l).toUInt32.toUInt16.toUInt32.toInt32)).toInt ≤ 90)) ∧ (own_code (nar .char ((97 + l).toUInt32.toUInt16.toUInt32.toInt32))).toInt = l.toInt % 26 + 1 := by
  have e := i_add (a := 97) (b := l) (x := 97) rfl rfl (by omega) (by omega)
  rw [own_ic (by omega) (by omega), own_nc (by omega) (by omega)]
  refine ⟨Or.inl ⟨by omega, by omega⟩, ?_⟩
  unfold own_code
  rw [if_pos (by omega)]
  have e1 := i_sub (b := 97) (y := 97) e rfl (by omega) (by omega)
  have e2 := i_add (b := 1) (y := 1) e1 rfl (by omega) (by omega)
  omega
theorem own_let2 {l : Int32} (h0 : 26 ≤ l.toInt) (h1 : l.toInt < 52) : ((97 ≤ (nar .char ((65 + (l - 26)).toUInt32.toUInt16.toUInt32.toInt32)).toInt ∧ (nar .char ((65 + (l - 26)).toUInt32.toUInt16.toUInt32.toInt32)).toInt ≤ 122) ∨ (65 ≤ (nar .char ((65 + (l - 26)).toUInt32.toUInt16.toUInt32.toInt32)).toInt ∧ (nar .char ((65 + (l - 26)).toUInt32.toUInt16.toUInt32.toInt32)).toInt ≤ 90)) ∧ (own_code (nar .char ((65 + (l - 26)).toUInt32.toUInt16.toUInt32.toInt32))).toInt = l.toInt % 26 + 1 := by
  have e0 := i_sub (a := l) (b := 26) (y := 26) rfl rfl (by omega) (by omega)
  have e := i_add (a := 65) (x := 65) rfl e0 (by omega) (by omega)
  rw [own_ic (by omega) (by omega), own_nc (by omega) (by omega)]
  refine ⟨Or.inr ⟨by omega, by omega⟩, ?_⟩
  unfold own_code
  rw [if_neg (by omega)]
  have e1 := i_sub (b := 65) (y := 65) e rfl (by omega) (by omega)
  have e2 := i_add (b := 1) (y := 1) e1 rfl (by omega) (by omega)
  omega
theorem d1_0 : decode method_3_code 0 = .ok (.iload_n 0, 1) := by decide +kernel
theorem d1_1 : decode method_3_code 1 = .ok (.bipush 26, 2) := by decide +kernel
theorem d1_3 : decode method_3_code 3 = .ok (.if_icmp .ge 11, 3) := by decide +kernel
theorem d1_14 : decode method_3_code 14 = .ok (.bipush 65, 2) := by decide +kernel
theorem d1_16 : decode method_3_code 16 = .ok (.iload_n 0, 1) := by decide +kernel
theorem d1_17 : decode method_3_code 17 = .ok (.bipush 26, 2) := by decide +kernel
theorem d1_19 : decode method_3_code 19 = .ok (.isub, 1) := by decide +kernel
theorem d1_20 : decode method_3_code 20 = .ok (.iadd, 1) := by decide +kernel
theorem d1_21 : decode method_3_code 21 = .ok (.i2c, 1) := by decide +kernel
theorem d1_22 : decode method_3_code 22 = .ok (.ireturn, 1) := by decide +kernel
theorem d1_6 : decode method_3_code 6 = .ok (.bipush 97, 2) := by decide +kernel
theorem d1_8 : decode method_3_code 8 = .ok (.iload_n 0, 1) := by decide +kernel
theorem d1_9 : decode method_3_code 9 = .ok (.iadd, 1) := by decide +kernel
theorem d1_10 : decode method_3_code 10 = .ok (.i2c, 1) := by decide +kernel
theorem d1_11 : decode method_3_code 11 = .ok (.goto 11, 3) := by decide +kernel
theorem ef_own_letter (m : MethodId) (l1 : Int32)  : entryFrame m #[(.int l1)] 1 = mkF m 0 #[iv l1] [] := by
  first | (simp [entryFrame, mkF, argsToLocals, Value.category]; done) | rfl
set_option maxRecDepth 65536 in
set_option maxHeartbeats 40000000 in
theorem own_letter (l : Launch) (Z : State) (a0 : Array Value) (hw : ∀ d ∈ tables_1, d.before a0 Z = true) (l1 : Int32)  (h : Heap) (n0 : Nat) (hn0 : Old Z n0 h) (hl0 : 0 ≤ l1.toInt) (hl1 : l1.toInt < 52) :
    Con l Z (⟨"com/example/plantilla/plantilla/UrlValueSameAsPinLaw", "letter", "(I)C"⟩ : MethodName) method_3_code 1 (some .char) ({ frames := 0, cells := 0, slots := 0, locals := 0 } : Room) #[(.int l1)] h n0 (fun v h' => ∃ cc : Int32, v = some (.int cc) ∧ (((97 ≤ cc.toInt ∧ cc.toInt ≤ 122) ∨ (65 ≤ cc.toInt ∧ cc.toInt ≤ 90)) ∧ (own_code cc).toInt = l1.toInt % 26 + 1) ∧ h = h') := by
  refine con_of hw (plainFor_of_name pn_com_example_plantilla_plantilla_UrlValueSameAsPinLaw) hn0 ?_
  intro p e s m below meth c T0 C X0
  refine Go.cast (congrArg T0.setTop (ef_own_letter m l1)) ?_
  refine go_iloadN C X0 1 rfl d1_0 rfl ?_
  refine go_bipush C X0 3 rfl d1_1 (z := 26) rfl ?_
  refine go_icmp_ge C X0 d1_3 (pc' := 6) (pc2 := 14) rfl (by decide) (by decide) (fun (c3 : 26 ≤ l1.toInt) => ?_) (fun (c3 : l1.toInt < 26) => ?_)
  · refine go_bipush C X0 16 rfl d1_14 (z := 65) rfl ?_
    refine go_iloadN C X0 17 rfl d1_16 rfl ?_
    refine go_bipush C X0 19 rfl d1_17 (z := 26) rfl ?_
    refine go_isub C X0 20 rfl d1_19 ?_
    refine go_iadd C X0 21 rfl d1_20 ?_
    refine go_i2c C X0 22 rfl d1_21 ?_
    exact go_retN C X0 (by simp) rfl d1_22 ⟨_, rfl, own_let2 c3 hl1, rfl⟩ (by decide) (by decide)
  · refine go_bipush C X0 8 rfl d1_6 (z := 97) rfl ?_
    refine go_iloadN C X0 9 rfl d1_8 rfl ?_
    refine go_iadd C X0 10 rfl d1_9 ?_
    refine go_i2c C X0 11 rfl d1_10 ?_
    refine go_goto C X0 d1_11 (pc' := 22) (by decide) (by decide) ?_
    exact go_retN C X0 (by simp) rfl d1_22 ⟨_, rfl, own_let1 hl0 c3, rfl⟩ (by decide) (by decide)
def own_pr (k l : Int32) : Int32 := if k = 0 then 130 else if k = 1 then 134 else if k = 2 then 135 else if k = 3 then 143 else if k = 4 then 1 else if k = 5 then 81 else if k = 6 then 17 else if k = 7 then ((l % 26 + 1) + 1) * 128 + 3 else if k = 8 then ((l % 26 + 1) + 1) * 128 + 35 else if k = 9 then 7 else 5
theorem d8_0 : decode method_5_code 0 = .ok (.iload_n 1, 1) := by decide +kernel
theorem d8_1 : decode method_5_code 1 = .ok (.bipush 26, 2) := by decide +kernel
theorem d8_3 : decode method_5_code 3 = .ok (.irem, 1) := by decide +kernel
theorem d8_4 : decode method_5_code 4 = .ok (.iconst 1, 1) := by decide +kernel
theorem d8_5 : decode method_5_code 5 = .ok (.iadd, 1) := by decide +kernel
theorem d8_6 : decode method_5_code 6 = .ok (.istore_n 2, 1) := by decide +kernel
theorem d8_7 : decode method_5_code 7 = .ok (.iload_n 0, 1) := by decide +kernel
theorem d8_8 : decode method_5_code 8 = .ok (.ifCond .ne 7, 3) := by decide +kernel
theorem d8_15 : decode method_5_code 15 = .ok (.iload_n 0, 1) := by decide +kernel
theorem d8_16 : decode method_5_code 16 = .ok (.iconst 1, 1) := by decide +kernel
theorem d8_17 : decode method_5_code 17 = .ok (.if_icmp .ne 7, 3) := by decide +kernel
theorem d8_24 : decode method_5_code 24 = .ok (.iload_n 0, 1) := by decide +kernel
theorem d8_25 : decode method_5_code 25 = .ok (.iconst 2, 1) := by decide +kernel
theorem d8_26 : decode method_5_code 26 = .ok (.if_icmp .ne 7, 3) := by decide +kernel
theorem d8_33 : decode method_5_code 33 = .ok (.iload_n 0, 1) := by decide +kernel
theorem d8_34 : decode method_5_code 34 = .ok (.iconst 3, 1) := by decide +kernel
theorem d8_35 : decode method_5_code 35 = .ok (.if_icmp .ne 7, 3) := by decide +kernel
theorem d8_42 : decode method_5_code 42 = .ok (.iload_n 0, 1) := by decide +kernel
theorem d8_43 : decode method_5_code 43 = .ok (.iconst 4, 1) := by decide +kernel
theorem d8_44 : decode method_5_code 44 = .ok (.if_icmp .ne 5, 3) := by decide +kernel
theorem d8_49 : decode method_5_code 49 = .ok (.iload_n 0, 1) := by decide +kernel
theorem d8_50 : decode method_5_code 50 = .ok (.iconst 5, 1) := by decide +kernel
theorem d8_51 : decode method_5_code 51 = .ok (.if_icmp .ne 6, 3) := by decide +kernel
theorem d8_57 : decode method_5_code 57 = .ok (.iload_n 0, 1) := by decide +kernel
theorem d8_58 : decode method_5_code 58 = .ok (.bipush 6, 2) := by decide +kernel
theorem d8_60 : decode method_5_code 60 = .ok (.if_icmp .ne 6, 3) := by decide +kernel
theorem d8_66 : decode method_5_code 66 = .ok (.iload_n 0, 1) := by decide +kernel
theorem d8_67 : decode method_5_code 67 = .ok (.bipush 7, 2) := by decide +kernel
theorem d8_69 : decode method_5_code 69 = .ok (.if_icmp .ne 13, 3) := by decide +kernel
theorem d8_82 : decode method_5_code 82 = .ok (.iload_n 0, 1) := by decide +kernel
theorem d8_83 : decode method_5_code 83 = .ok (.bipush 8, 2) := by decide +kernel
theorem d8_85 : decode method_5_code 85 = .ok (.if_icmp .ne 14, 3) := by decide +kernel
theorem d8_99 : decode method_5_code 99 = .ok (.iload_n 0, 1) := by decide +kernel
theorem d8_100 : decode method_5_code 100 = .ok (.bipush 9, 2) := by decide +kernel
theorem d8_102 : decode method_5_code 102 = .ok (.if_icmp .ne 6, 3) := by decide +kernel
theorem d8_108 : decode method_5_code 108 = .ok (.iconst 5, 1) := by decide +kernel
theorem d8_109 : decode method_5_code 109 = .ok (.ireturn, 1) := by decide +kernel
theorem d8_105 : decode method_5_code 105 = .ok (.bipush 7, 2) := by decide +kernel
theorem d8_107 : decode method_5_code 107 = .ok (.ireturn, 1) := by decide +kernel
theorem d8_88 : decode method_5_code 88 = .ok (.iload_n 2, 1) := by decide +kernel
theorem d8_89 : decode method_5_code 89 = .ok (.iconst 1, 1) := by decide +kernel
theorem d8_90 : decode method_5_code 90 = .ok (.iadd, 1) := by decide +kernel
theorem d8_91 : decode method_5_code 91 = .ok (.sipush 128, 3) := by decide +kernel
theorem d8_94 : decode method_5_code 94 = .ok (.imul, 1) := by decide +kernel
theorem d8_95 : decode method_5_code 95 = .ok (.bipush 35, 2) := by decide +kernel
theorem d8_97 : decode method_5_code 97 = .ok (.iadd, 1) := by decide +kernel
theorem d8_98 : decode method_5_code 98 = .ok (.ireturn, 1) := by decide +kernel
theorem d8_72 : decode method_5_code 72 = .ok (.iload_n 2, 1) := by decide +kernel
theorem d8_73 : decode method_5_code 73 = .ok (.iconst 1, 1) := by decide +kernel
theorem d8_74 : decode method_5_code 74 = .ok (.iadd, 1) := by decide +kernel
theorem d8_75 : decode method_5_code 75 = .ok (.sipush 128, 3) := by decide +kernel
theorem d8_78 : decode method_5_code 78 = .ok (.imul, 1) := by decide +kernel
theorem d8_79 : decode method_5_code 79 = .ok (.iconst 3, 1) := by decide +kernel
theorem d8_80 : decode method_5_code 80 = .ok (.iadd, 1) := by decide +kernel
theorem d8_81 : decode method_5_code 81 = .ok (.ireturn, 1) := by decide +kernel
theorem d8_63 : decode method_5_code 63 = .ok (.bipush 17, 2) := by decide +kernel
theorem d8_65 : decode method_5_code 65 = .ok (.ireturn, 1) := by decide +kernel
theorem d8_54 : decode method_5_code 54 = .ok (.bipush 81, 2) := by decide +kernel
theorem d8_56 : decode method_5_code 56 = .ok (.ireturn, 1) := by decide +kernel
theorem d8_47 : decode method_5_code 47 = .ok (.iconst 1, 1) := by decide +kernel
theorem d8_48 : decode method_5_code 48 = .ok (.ireturn, 1) := by decide +kernel
theorem d8_38 : decode method_5_code 38 = .ok (.sipush 143, 3) := by decide +kernel
theorem d8_41 : decode method_5_code 41 = .ok (.ireturn, 1) := by decide +kernel
theorem d8_29 : decode method_5_code 29 = .ok (.sipush 135, 3) := by decide +kernel
theorem d8_32 : decode method_5_code 32 = .ok (.ireturn, 1) := by decide +kernel
theorem d8_20 : decode method_5_code 20 = .ok (.sipush 134, 3) := by decide +kernel
theorem d8_23 : decode method_5_code 23 = .ok (.ireturn, 1) := by decide +kernel
theorem d8_11 : decode method_5_code 11 = .ok (.sipush 130, 3) := by decide +kernel
theorem d8_14 : decode method_5_code 14 = .ok (.ireturn, 1) := by decide +kernel
theorem ef_own_print (m : MethodId) (k : Int32) (l1 : Int32)  : entryFrame m #[(.int k), (.int l1)] 3 = mkF m 0 #[iv k, iv l1, un] [] := by
  first | (simp [entryFrame, mkF, argsToLocals, Value.category]; done) | rfl
set_option maxRecDepth 65536 in
set_option maxHeartbeats 40000000 in
theorem own_print (l : Launch) (Z : State) (a0 : Array Value) (hw : ∀ d ∈ tables_1, d.before a0 Z = true) (k : Int32) (l1 : Int32)  (h : Heap) (n0 : Nat) (hn0 : Old Z n0 h)  :
    Con l Z (⟨"com/example/plantilla/plantilla/UrlValueSameAsPinLaw", "print", "(II)I"⟩ : MethodName) method_5_code 3 (some .int) ({ frames := 0, cells := 0, slots := 0, locals := 0 } : Room) #[(.int k), (.int l1)] h n0 (fun v h' => v = some (.int (own_pr k l1)) ∧ h = h') := by
  refine con_of hw (plainFor_of_name pn_com_example_plantilla_plantilla_UrlValueSameAsPinLaw) hn0 ?_
  intro p e s m below meth c T0 C X0
  refine Go.cast (congrArg T0.setTop (ef_own_print m k l1)) ?_
  refine go_iloadN C X0 1 rfl d8_0 rfl ?_
  refine go_bipush C X0 3 rfl d8_1 (z := 26) rfl ?_
  refine go_irem C X0 4 rfl d8_3 (by decide) ?_
  refine go_iconst C X0 5 rfl d8_4 (z := 1) rfl ?_
  refine go_iadd C X0 6 rfl d8_5 ?_
  refine go_istoreN C X0 7 rfl d8_6 #[iv k, iv l1, iv ((l1 % (26 : Int32)) + (1 : Int32))] rfl ?_
  refine go_iloadN C X0 8 rfl d8_7 rfl ?_
  refine go_if_ne C X0 d8_8 (pc' := 11) (pc2 := 15) rfl (by decide) (by decide) (fun (c8 : ¬ k = (0 : Int32)) => ?_) (fun (c8 : k = (0 : Int32)) => ?_)
  · refine go_iloadN C X0 16 rfl d8_15 rfl ?_
    refine go_iconst C X0 17 rfl d8_16 (z := 1) rfl ?_
    refine go_icmp_ne C X0 d8_17 (pc' := 20) (pc2 := 24) rfl (by decide) (by decide) (fun (c17 : ¬ k = (1 : Int32)) => ?_) (fun (c17 : k = (1 : Int32)) => ?_)
    · refine go_iloadN C X0 25 rfl d8_24 rfl ?_
      refine go_iconst C X0 26 rfl d8_25 (z := 2) rfl ?_
      refine go_icmp_ne C X0 d8_26 (pc' := 29) (pc2 := 33) rfl (by decide) (by decide) (fun (c26 : ¬ k = (2 : Int32)) => ?_) (fun (c26 : k = (2 : Int32)) => ?_)
      · refine go_iloadN C X0 34 rfl d8_33 rfl ?_
        refine go_iconst C X0 35 rfl d8_34 (z := 3) rfl ?_
        refine go_icmp_ne C X0 d8_35 (pc' := 38) (pc2 := 42) rfl (by decide) (by decide) (fun (c35 : ¬ k = (3 : Int32)) => ?_) (fun (c35 : k = (3 : Int32)) => ?_)
        · refine go_iloadN C X0 43 rfl d8_42 rfl ?_
          refine go_iconst C X0 44 rfl d8_43 (z := 4) rfl ?_
          refine go_icmp_ne C X0 d8_44 (pc' := 47) (pc2 := 49) rfl (by decide) (by decide) (fun (c44 : ¬ k = (4 : Int32)) => ?_) (fun (c44 : k = (4 : Int32)) => ?_)
          · refine go_iloadN C X0 50 rfl d8_49 rfl ?_
            refine go_iconst C X0 51 rfl d8_50 (z := 5) rfl ?_
            refine go_icmp_ne C X0 d8_51 (pc' := 54) (pc2 := 57) rfl (by decide) (by decide) (fun (c51 : ¬ k = (5 : Int32)) => ?_) (fun (c51 : k = (5 : Int32)) => ?_)
            · refine go_iloadN C X0 58 rfl d8_57 rfl ?_
              refine go_bipush C X0 60 rfl d8_58 (z := 6) rfl ?_
              refine go_icmp_ne C X0 d8_60 (pc' := 63) (pc2 := 66) rfl (by decide) (by decide) (fun (c60 : ¬ k = (6 : Int32)) => ?_) (fun (c60 : k = (6 : Int32)) => ?_)
              · refine go_iloadN C X0 67 rfl d8_66 rfl ?_
                refine go_bipush C X0 69 rfl d8_67 (z := 7) rfl ?_
                refine go_icmp_ne C X0 d8_69 (pc' := 72) (pc2 := 82) rfl (by decide) (by decide) (fun (c69 : ¬ k = (7 : Int32)) => ?_) (fun (c69 : k = (7 : Int32)) => ?_)
                · refine go_iloadN C X0 83 rfl d8_82 rfl ?_
                  refine go_bipush C X0 85 rfl d8_83 (z := 8) rfl ?_
                  refine go_icmp_ne C X0 d8_85 (pc' := 88) (pc2 := 99) rfl (by decide) (by decide) (fun (c85 : ¬ k = (8 : Int32)) => ?_) (fun (c85 : k = (8 : Int32)) => ?_)
                  · refine go_iloadN C X0 100 rfl d8_99 rfl ?_
                    refine go_bipush C X0 102 rfl d8_100 (z := 9) rfl ?_
                    refine go_icmp_ne C X0 d8_102 (pc' := 105) (pc2 := 108) rfl (by decide) (by decide) (fun (c102 : ¬ k = (9 : Int32)) => ?_) (fun (c102 : k = (9 : Int32)) => ?_)
                    · refine go_iconst C X0 109 rfl d8_108 (z := 5) rfl ?_
                      exact go_retI C X0 d8_109 ⟨by unfold own_pr; rw [if_neg c8, if_neg c17, if_neg c26, if_neg c35, if_neg c44, if_neg c51, if_neg c60, if_neg c69, if_neg c85, if_neg c102], rfl⟩ (by decide) (by decide)
                    · refine go_bipush C X0 107 rfl d8_105 (z := 7) rfl ?_
                      exact go_retI C X0 d8_107 ⟨by unfold own_pr; rw [if_neg c8, if_neg c17, if_neg c26, if_neg c35, if_neg c44, if_neg c51, if_neg c60, if_neg c69, if_neg c85, if_pos c102], rfl⟩ (by decide) (by decide)
                  · refine go_iloadN C X0 89 rfl d8_88 rfl ?_
                    refine go_iconst C X0 90 rfl d8_89 (z := 1) rfl ?_
                    refine go_iadd C X0 91 rfl d8_90 ?_
                    refine go_sipush C X0 94 rfl d8_91 (z := 128) rfl ?_
                    refine go_imul C X0 95 rfl d8_94 ?_
                    refine go_bipush C X0 97 rfl d8_95 (z := 35) rfl ?_
                    refine go_iadd C X0 98 rfl d8_97 ?_
                    exact go_retI C X0 d8_98 ⟨by unfold own_pr; rw [if_neg c8, if_neg c17, if_neg c26, if_neg c35, if_neg c44, if_neg c51, if_neg c60, if_neg c69, if_pos c85], rfl⟩ (by decide) (by decide)
                · refine go_iloadN C X0 73 rfl d8_72 rfl ?_
                  refine go_iconst C X0 74 rfl d8_73 (z := 1) rfl ?_
                  refine go_iadd C X0 75 rfl d8_74 ?_
                  refine go_sipush C X0 78 rfl d8_75 (z := 128) rfl ?_
                  refine go_imul C X0 79 rfl d8_78 ?_
                  refine go_iconst C X0 80 rfl d8_79 (z := 3) rfl ?_
                  refine go_iadd C X0 81 rfl d8_80 ?_
                  exact go_retI C X0 d8_81 ⟨by unfold own_pr; rw [if_neg c8, if_neg c17, if_neg c26, if_neg c35, if_neg c44, if_neg c51, if_neg c60, if_pos c69], rfl⟩ (by decide) (by decide)
              · refine go_bipush C X0 65 rfl d8_63 (z := 17) rfl ?_
                exact go_retI C X0 d8_65 ⟨by unfold own_pr; rw [if_neg c8, if_neg c17, if_neg c26, if_neg c35, if_neg c44, if_neg c51, if_pos c60], rfl⟩ (by decide) (by decide)
            · refine go_bipush C X0 56 rfl d8_54 (z := 81) rfl ?_
              exact go_retI C X0 d8_56 ⟨by unfold own_pr; rw [if_neg c8, if_neg c17, if_neg c26, if_neg c35, if_neg c44, if_pos c51], rfl⟩ (by decide) (by decide)
          · refine go_iconst C X0 48 rfl d8_47 (z := 1) rfl ?_
            exact go_retI C X0 d8_48 ⟨by unfold own_pr; rw [if_neg c8, if_neg c17, if_neg c26, if_neg c35, if_pos c44], rfl⟩ (by decide) (by decide)
        · refine go_sipush C X0 41 rfl d8_38 (z := 143) rfl ?_
          exact go_retI C X0 d8_41 ⟨by unfold own_pr; rw [if_neg c8, if_neg c17, if_neg c26, if_pos c35], rfl⟩ (by decide) (by decide)
      · refine go_sipush C X0 32 rfl d8_29 (z := 135) rfl ?_
        exact go_retI C X0 d8_32 ⟨by unfold own_pr; rw [if_neg c8, if_neg c17, if_pos c26], rfl⟩ (by decide) (by decide)
    · refine go_sipush C X0 23 rfl d8_20 (z := 134) rfl ?_
      exact go_retI C X0 d8_23 ⟨by unfold own_pr; rw [if_neg c8, if_pos c17], rfl⟩ (by decide) (by decide)
  · refine go_sipush C X0 14 rfl d8_11 (z := 130) rfl ?_
    exact go_retI C X0 d8_14 ⟨by unfold own_pr; rw [if_pos c8], rfl⟩ (by decide) (by decide)
def own_sm (x y : Int64) (a1 a2 b1 b2 c1 c2 d1 d2 e1 e2 f1 f2 g1 g2 : Int32) : Int32 := if x = y then if a1 = a2 then if b1 = b2 then if c1 = c2 then if d1 = d2 then if e1 = e2 then if f1 = f2 then if g1 = g2 then 1 else 0 else 0 else 0 else 0 else 0 else 0 else 0 else 0
theorem d9_0 : decode prog_44_method_4_code 0 = .ok (.aload_n 0, 1) := by decide +kernel
theorem d9_1 : decode prog_44_method_4_code 1 = .ok (.getfield 18, 3) := by decide +kernel
theorem d9_4 : decode prog_44_method_4_code 4 = .ok (.aload_n 1, 1) := by decide +kernel
theorem d9_5 : decode prog_44_method_4_code 5 = .ok (.getfield 18, 3) := by decide +kernel
theorem d9_8 : decode prog_44_method_4_code 8 = .ok (.lcmp, 1) := by decide +kernel
theorem d9_9 : decode prog_44_method_4_code 9 = .ok (.ifCond .ne 84, 3) := by decide +kernel
theorem d9_93 : decode prog_44_method_4_code 93 = .ok (.iconst 0, 1) := by decide +kernel
theorem d9_94 : decode prog_44_method_4_code 94 = .ok (.ireturn, 1) := by decide +kernel
theorem d9_12 : decode prog_44_method_4_code 12 = .ok (.aload_n 0, 1) := by decide +kernel
theorem d9_13 : decode prog_44_method_4_code 13 = .ok (.getfield 22, 3) := by decide +kernel
theorem d9_16 : decode prog_44_method_4_code 16 = .ok (.aload_n 1, 1) := by decide +kernel
theorem d9_17 : decode prog_44_method_4_code 17 = .ok (.getfield 22, 3) := by decide +kernel
theorem d9_20 : decode prog_44_method_4_code 20 = .ok (.if_icmp .ne 73, 3) := by decide +kernel
theorem d9_23 : decode prog_44_method_4_code 23 = .ok (.aload_n 0, 1) := by decide +kernel
theorem d9_24 : decode prog_44_method_4_code 24 = .ok (.getfield 26, 3) := by decide +kernel
theorem d9_27 : decode prog_44_method_4_code 27 = .ok (.aload_n 1, 1) := by decide +kernel
theorem d9_28 : decode prog_44_method_4_code 28 = .ok (.getfield 26, 3) := by decide +kernel
theorem d9_31 : decode prog_44_method_4_code 31 = .ok (.if_icmp .ne 62, 3) := by decide +kernel
theorem d9_34 : decode prog_44_method_4_code 34 = .ok (.aload_n 0, 1) := by decide +kernel
theorem d9_35 : decode prog_44_method_4_code 35 = .ok (.getfield 29, 3) := by decide +kernel
theorem d9_38 : decode prog_44_method_4_code 38 = .ok (.aload_n 1, 1) := by decide +kernel
theorem d9_39 : decode prog_44_method_4_code 39 = .ok (.getfield 29, 3) := by decide +kernel
theorem d9_42 : decode prog_44_method_4_code 42 = .ok (.if_icmp .ne 51, 3) := by decide +kernel
theorem d9_45 : decode prog_44_method_4_code 45 = .ok (.aload_n 0, 1) := by decide +kernel
theorem d9_46 : decode prog_44_method_4_code 46 = .ok (.getfield 32, 3) := by decide +kernel
theorem d9_49 : decode prog_44_method_4_code 49 = .ok (.aload_n 1, 1) := by decide +kernel
theorem d9_50 : decode prog_44_method_4_code 50 = .ok (.getfield 32, 3) := by decide +kernel
theorem d9_53 : decode prog_44_method_4_code 53 = .ok (.if_icmp .ne 40, 3) := by decide +kernel
theorem d9_56 : decode prog_44_method_4_code 56 = .ok (.aload_n 0, 1) := by decide +kernel
theorem d9_57 : decode prog_44_method_4_code 57 = .ok (.getfield 35, 3) := by decide +kernel
theorem d9_60 : decode prog_44_method_4_code 60 = .ok (.aload_n 1, 1) := by decide +kernel
theorem d9_61 : decode prog_44_method_4_code 61 = .ok (.getfield 35, 3) := by decide +kernel
theorem d9_64 : decode prog_44_method_4_code 64 = .ok (.if_icmp .ne 29, 3) := by decide +kernel
theorem d9_67 : decode prog_44_method_4_code 67 = .ok (.aload_n 0, 1) := by decide +kernel
theorem d9_68 : decode prog_44_method_4_code 68 = .ok (.getfield 38, 3) := by decide +kernel
theorem d9_71 : decode prog_44_method_4_code 71 = .ok (.aload_n 1, 1) := by decide +kernel
theorem d9_72 : decode prog_44_method_4_code 72 = .ok (.getfield 38, 3) := by decide +kernel
theorem d9_75 : decode prog_44_method_4_code 75 = .ok (.if_icmp .ne 18, 3) := by decide +kernel
theorem d9_78 : decode prog_44_method_4_code 78 = .ok (.aload_n 0, 1) := by decide +kernel
theorem d9_79 : decode prog_44_method_4_code 79 = .ok (.getfield 41, 3) := by decide +kernel
theorem d9_82 : decode prog_44_method_4_code 82 = .ok (.aload_n 1, 1) := by decide +kernel
theorem d9_83 : decode prog_44_method_4_code 83 = .ok (.getfield 41, 3) := by decide +kernel
theorem d9_86 : decode prog_44_method_4_code 86 = .ok (.if_icmp .ne 7, 3) := by decide +kernel
theorem d9_89 : decode prog_44_method_4_code 89 = .ok (.iconst 1, 1) := by decide +kernel
theorem d9_90 : decode prog_44_method_4_code 90 = .ok (.goto 4, 3) := by decide +kernel
theorem ef_own_same (m : MethodId) (a : Addr) (b : Addr)  : entryFrame m #[(.ref a), (.ref b)] 2 = mkF m 0 #[rv a, rv b] [] := by
  first | (simp [entryFrame, mkF, argsToLocals, Value.category]; done) | rfl
set_option maxRecDepth 65536 in
set_option maxHeartbeats 40000000 in
theorem own_same (l : Launch) (Z : State) (a0 : Array Value) (hw : ∀ d ∈ tables_1, d.before a0 Z = true) (a : Addr) (b : Addr) (x1 x2 : Int64) (a1 a2 b1 b2 c1 c2 d1 d2 e1 e2 f1 f2 g1 g2 : Int32) (h : Heap) (n0 : Nat) (hn0 : Old Z n0 h) (FF0 : Fld Z h a "com/example/plantilla/plantilla/UrlValue" "start" "J" (.long x1)) (GG0 : Fld Z h b "com/example/plantilla/plantilla/UrlValue" "start" "J" (.long x2)) (FF1 : Fld Z h a "com/example/plantilla/plantilla/UrlValue" "begun" "Z" (.int a1)) (GG1 : Fld Z h b "com/example/plantilla/plantilla/UrlValue" "begun" "Z" (.int a2)) (FF2 : Fld Z h a "com/example/plantilla/plantilla/UrlValue" "schemeLike" "Z" (.int b1)) (GG2 : Fld Z h b "com/example/plantilla/plantilla/UrlValue" "schemeLike" "Z" (.int b2)) (FF3 : Fld Z h a "com/example/plantilla/plantilla/UrlValue" "delimited" "Z" (.int c1)) (GG3 : Fld Z h b "com/example/plantilla/plantilla/UrlValue" "delimited" "Z" (.int c2)) (FF4 : Fld Z h a "com/example/plantilla/plantilla/UrlValue" "query" "Z" (.int d1)) (GG4 : Fld Z h b "com/example/plantilla/plantilla/UrlValue" "query" "Z" (.int d2)) (FF5 : Fld Z h a "com/example/plantilla/plantilla/UrlValue" "reference" "Z" (.int e1)) (GG5 : Fld Z h b "com/example/plantilla/plantilla/UrlValue" "reference" "Z" (.int e2)) (FF6 : Fld Z h a "com/example/plantilla/plantilla/UrlValue" "holding" "Z" (.int f1)) (GG6 : Fld Z h b "com/example/plantilla/plantilla/UrlValue" "holding" "Z" (.int f2)) (FF7 : Fld Z h a "com/example/plantilla/plantilla/UrlValue" "referenceOpen" "Z" (.int g1)) (GG7 : Fld Z h b "com/example/plantilla/plantilla/UrlValue" "referenceOpen" "Z" (.int g2)) :
    Con l Z (⟨"com/example/plantilla/plantilla/UrlValue", "sameAs", "(Lcom/example/plantilla/plantilla/UrlValue;)Z"⟩ : MethodName) prog_44_method_4_code 2 (some .boolean) ({ frames := 0, cells := 0, slots := 0, locals := 0 } : Room) #[(.ref a), (.ref b)] h n0 (fun v h' => v = some (.int (own_sm x1 x2 a1 a2 b1 b2 c1 c2 d1 d2 e1 e2 f1 f2 g1 g2)) ∧ h = h') := by
  refine con_of hw (plainFor_of_name pn_com_example_plantilla_plantilla_UrlValue) hn0 ?_
  intro p e s m below meth c T0 C X0
  refine Go.cast (congrArg T0.setTop (ef_own_same m a b)) ?_
  refine go_aloadN C X0 1 rfl d9_0 rfl rfl ?_
  refine go_getF C X0 (C.w 22 rfl) Via.refl FF0 (pc' := 4) rfl d9_1 (fun T1 X2 => ?_)
  refine go_aloadN C X2 5 rfl d9_4 rfl rfl ?_
  refine go_getF C X2 (C.w 22 rfl) Via.refl GG0 (pc' := 8) rfl d9_5 (fun T3 X4 => ?_)
  refine go_lif_ne C X4 (pc1 := 9) rfl d9_8 d9_9 (pc' := 12) (pc2 := 93) rfl (by decide) (by decide) (fun (c9 : ¬ x1 = x2) => ?_) (fun (c9 : x1 = x2) => ?_)
  · refine go_iconst C X4 94 rfl d9_93 (z := 0) rfl ?_
    exact go_retN C X4 (by simp) (z' := 0) rfl d9_94 ⟨by unfold own_sm; rw [if_neg c9], rfl⟩ (by decide) (by decide)
  · refine go_aloadN C X4 13 rfl d9_12 rfl rfl ?_
    refine go_getF C X4 (C.w 24 rfl) Via.refl FF1 (pc' := 16) rfl d9_13 (fun T5 X6 => ?_)
    refine go_aloadN C X6 17 rfl d9_16 rfl rfl ?_
    refine go_getF C X6 (C.w 24 rfl) Via.refl GG1 (pc' := 20) rfl d9_17 (fun T7 X8 => ?_)
    refine go_icmp_ne C X8 d9_20 (pc' := 23) (pc2 := 93) rfl (by decide) (by decide) (fun (c20 : ¬ a1 = a2) => ?_) (fun (c20 : a1 = a2) => ?_)
    · refine go_iconst C X8 94 rfl d9_93 (z := 0) rfl ?_
      exact go_retN C X8 (by simp) (z' := 0) rfl d9_94 ⟨by unfold own_sm; rw [if_pos c9, if_neg c20], rfl⟩ (by decide) (by decide)
    · refine go_aloadN C X8 24 rfl d9_23 rfl rfl ?_
      refine go_getF C X8 (C.w 26 rfl) Via.refl FF2 (pc' := 27) rfl d9_24 (fun T9 X10 => ?_)
      refine go_aloadN C X10 28 rfl d9_27 rfl rfl ?_
      refine go_getF C X10 (C.w 26 rfl) Via.refl GG2 (pc' := 31) rfl d9_28 (fun T11 X12 => ?_)
      refine go_icmp_ne C X12 d9_31 (pc' := 34) (pc2 := 93) rfl (by decide) (by decide) (fun (c31 : ¬ b1 = b2) => ?_) (fun (c31 : b1 = b2) => ?_)
      · refine go_iconst C X12 94 rfl d9_93 (z := 0) rfl ?_
        exact go_retN C X12 (by simp) (z' := 0) rfl d9_94 ⟨by unfold own_sm; rw [if_pos c9, if_pos c20, if_neg c31], rfl⟩ (by decide) (by decide)
      · refine go_aloadN C X12 35 rfl d9_34 rfl rfl ?_
        refine go_getF C X12 (C.w 28 rfl) Via.refl FF3 (pc' := 38) rfl d9_35 (fun T13 X14 => ?_)
        refine go_aloadN C X14 39 rfl d9_38 rfl rfl ?_
        refine go_getF C X14 (C.w 28 rfl) Via.refl GG3 (pc' := 42) rfl d9_39 (fun T15 X16 => ?_)
        refine go_icmp_ne C X16 d9_42 (pc' := 45) (pc2 := 93) rfl (by decide) (by decide) (fun (c42 : ¬ c1 = c2) => ?_) (fun (c42 : c1 = c2) => ?_)
        · refine go_iconst C X16 94 rfl d9_93 (z := 0) rfl ?_
          exact go_retN C X16 (by simp) (z' := 0) rfl d9_94 ⟨by unfold own_sm; rw [if_pos c9, if_pos c20, if_pos c31, if_neg c42], rfl⟩ (by decide) (by decide)
        · refine go_aloadN C X16 46 rfl d9_45 rfl rfl ?_
          refine go_getF C X16 (C.w 30 rfl) Via.refl FF4 (pc' := 49) rfl d9_46 (fun T17 X18 => ?_)
          refine go_aloadN C X18 50 rfl d9_49 rfl rfl ?_
          refine go_getF C X18 (C.w 30 rfl) Via.refl GG4 (pc' := 53) rfl d9_50 (fun T19 X20 => ?_)
          refine go_icmp_ne C X20 d9_53 (pc' := 56) (pc2 := 93) rfl (by decide) (by decide) (fun (c53 : ¬ d1 = d2) => ?_) (fun (c53 : d1 = d2) => ?_)
          · refine go_iconst C X20 94 rfl d9_93 (z := 0) rfl ?_
            exact go_retN C X20 (by simp) (z' := 0) rfl d9_94 ⟨by unfold own_sm; rw [if_pos c9, if_pos c20, if_pos c31, if_pos c42, if_neg c53], rfl⟩ (by decide) (by decide)
          · refine go_aloadN C X20 57 rfl d9_56 rfl rfl ?_
            refine go_getF C X20 (C.w 32 rfl) Via.refl FF5 (pc' := 60) rfl d9_57 (fun T21 X22 => ?_)
            refine go_aloadN C X22 61 rfl d9_60 rfl rfl ?_
            refine go_getF C X22 (C.w 32 rfl) Via.refl GG5 (pc' := 64) rfl d9_61 (fun T23 X24 => ?_)
            refine go_icmp_ne C X24 d9_64 (pc' := 67) (pc2 := 93) rfl (by decide) (by decide) (fun (c64 : ¬ e1 = e2) => ?_) (fun (c64 : e1 = e2) => ?_)
            · refine go_iconst C X24 94 rfl d9_93 (z := 0) rfl ?_
              exact go_retN C X24 (by simp) (z' := 0) rfl d9_94 ⟨by unfold own_sm; rw [if_pos c9, if_pos c20, if_pos c31, if_pos c42, if_pos c53, if_neg c64], rfl⟩ (by decide) (by decide)
            · refine go_aloadN C X24 68 rfl d9_67 rfl rfl ?_
              refine go_getF C X24 (C.w 34 rfl) Via.refl FF6 (pc' := 71) rfl d9_68 (fun T25 X26 => ?_)
              refine go_aloadN C X26 72 rfl d9_71 rfl rfl ?_
              refine go_getF C X26 (C.w 34 rfl) Via.refl GG6 (pc' := 75) rfl d9_72 (fun T27 X28 => ?_)
              refine go_icmp_ne C X28 d9_75 (pc' := 78) (pc2 := 93) rfl (by decide) (by decide) (fun (c75 : ¬ f1 = f2) => ?_) (fun (c75 : f1 = f2) => ?_)
              · refine go_iconst C X28 94 rfl d9_93 (z := 0) rfl ?_
                exact go_retN C X28 (by simp) (z' := 0) rfl d9_94 ⟨by unfold own_sm; rw [if_pos c9, if_pos c20, if_pos c31, if_pos c42, if_pos c53, if_pos c64, if_neg c75], rfl⟩ (by decide) (by decide)
              · refine go_aloadN C X28 79 rfl d9_78 rfl rfl ?_
                refine go_getF C X28 (C.w 36 rfl) Via.refl FF7 (pc' := 82) rfl d9_79 (fun T29 X30 => ?_)
                refine go_aloadN C X30 83 rfl d9_82 rfl rfl ?_
                refine go_getF C X30 (C.w 36 rfl) Via.refl GG7 (pc' := 86) rfl d9_83 (fun T31 X32 => ?_)
                refine go_icmp_ne C X32 d9_86 (pc' := 89) (pc2 := 93) rfl (by decide) (by decide) (fun (c86 : ¬ g1 = g2) => ?_) (fun (c86 : g1 = g2) => ?_)
                · refine go_iconst C X32 94 rfl d9_93 (z := 0) rfl ?_
                  exact go_retN C X32 (by simp) (z' := 0) rfl d9_94 ⟨by unfold own_sm; rw [if_pos c9, if_pos c20, if_pos c31, if_pos c42, if_pos c53, if_pos c64, if_pos c75, if_neg c86], rfl⟩ (by decide) (by decide)
                · refine go_iconst C X32 90 rfl d9_89 (z := 1) rfl ?_
                  refine go_goto C X32 d9_90 (pc' := 94) (by decide) (by decide) ?_
                  exact go_retN C X32 (by simp) (z' := 1) rfl d9_94 ⟨by unfold own_sm; rw [if_pos c9, if_pos c20, if_pos c31, if_pos c42, if_pos c53, if_pos c64, if_pos c75, if_pos c86], rfl⟩ (by decide) (by decide)
theorem own_if {p q : Prop} [Decidable p] [Decidable q] : (if p then (if q then (1 : Int32) else 0) else 0) = if p ∧ q then 1 else 0 := by
  by_cases hp : p <;> by_cases hq : q <;> simp [hp, hq]
theorem own_kf {k : Int32} (h0 : 0 ≤ k.toInt) (h1 : k.toInt ≤ 10) : ∃ j : Fin 11, k = Int32.ofNat j.val := by
  have e := clamp_eq h0
  refine ⟨⟨k.toNatClampNeg, by omega⟩, i_eq ?_⟩
  have q : (Int32.ofNat k.toNatClampNeg).toInt = (k.toNatClampNeg : Int) := Int32.toInt_ofNat_of_lt (by show k.toNatClampNeg < 2147483648; omega)
  exact e.symm.trans q.symm
theorem own_inj : ∀ j1 j2 : Fin 11, own_fl (Int32.ofNat j1.val) = own_fl (Int32.ofNat j2.val) ↔ (own_bg (Int32.ofNat j1.val) = own_bg (Int32.ofNat j2.val) ∧ own_sc (Int32.ofNat j1.val) = own_sc (Int32.ofNat j2.val) ∧ own_dl (Int32.ofNat j1.val) = own_dl (Int32.ofNat j2.val) ∧ own_qu (Int32.ofNat j1.val) = own_qu (Int32.ofNat j2.val) ∧ own_rf (Int32.ofNat j1.val) = own_rf (Int32.ofNat j2.val) ∧ own_hd (Int32.ofNat j1.val) = own_hd (Int32.ofNat j2.val) ∧ own_ro (Int32.ofNat j1.val) = own_ro (Int32.ofNat j2.val)) := by decide +kernel
theorem own_flb : ∀ j : Fin 11, 0 ≤ (own_fl (Int32.ofNat j.val)).toInt ∧ (own_fl (Int32.ofNat j.val)).toInt < 128 := by decide +kernel
theorem own_k11 {k : Int32} (h0 : 0 ≤ k.toInt) (h1 : k.toInt ≤ 10) : k = 0 ∨ k = 1 ∨ k = 2 ∨ k = 3 ∨ k = 4 ∨ k = 5 ∨ k = 6 ∨ k = 7 ∨ k = 8 ∨ k = 9 ∨ k = 10 := by
  have q : k.toInt = 0 ∨ k.toInt = 1 ∨ k.toInt = 2 ∨ k.toInt = 3 ∨ k.toInt = 4 ∨ k.toInt = 5 ∨ k.toInt = 6 ∨ k.toInt = 7 ∨ k.toInt = 8 ∨ k.toInt = 9 ∨ k.toInt = 10 := by omega
  rcases q with q | q | q | q | q | q | q | q | q | q | q
  · exact Or.inl (i_eq q)
  · exact Or.inr (Or.inl (i_eq q))
  · exact Or.inr (Or.inr (Or.inl (i_eq q)))
  · exact Or.inr (Or.inr (Or.inr (Or.inl (i_eq q))))
  · exact Or.inr (Or.inr (Or.inr (Or.inr (Or.inl (i_eq q)))))
  · exact Or.inr (Or.inr (Or.inr (Or.inr (Or.inr (Or.inl (i_eq q))))))
  · exact Or.inr (Or.inr (Or.inr (Or.inr (Or.inr (Or.inr (Or.inl (i_eq q)))))))
  · exact Or.inr (Or.inr (Or.inr (Or.inr (Or.inr (Or.inr (Or.inr (Or.inl (i_eq q))))))))
  · exact Or.inr (Or.inr (Or.inr (Or.inr (Or.inr (Or.inr (Or.inr (Or.inr (Or.inl (i_eq q)))))))))
  · exact Or.inr (Or.inr (Or.inr (Or.inr (Or.inr (Or.inr (Or.inr (Or.inr (Or.inr (Or.inl (i_eq q))))))))))
  · exact Or.inr (Or.inr (Or.inr (Or.inr (Or.inr (Or.inr (Or.inr (Or.inr (Or.inr (Or.inr ((i_eq q)))))))))))
theorem own_pr_i {k l cc : Int32} (h0 : 0 ≤ k.toInt) (h1 : k.toInt ≤ 10) (l0 : 0 ≤ l.toInt) (l1 : l.toInt < 52) (hcd : (own_code cc).toInt = l.toInt % 26 + 1) : (own_pr k l).toInt = ((own_st k cc).toInt + 1) * 128 + (own_fl k).toInt := by
  have e1 := i_rem (a := l) (b := 26) (y := 26) rfl rfl l0
  have e2 := i_add (b := 1) (y := 1) e1 rfl (by omega) (by omega)
  have e3 := i_add (b := 1) (y := 1) e2 rfl (by omega) (by omega)
  have e4 := i_mul (b := 128) (y := 128) e3 rfl (by omega) (by omega)
  have e5 := i_add (b := 3) (y := 3) e4 rfl (by omega) (by omega)
  have e6 := i_add (b := 35) (y := 35) e4 rfl (by omega) (by omega)
  have ec := own_cd_i (c := cc)
  rcases own_k11 h0 h1 with rfl | rfl | rfl | rfl | rfl | rfl | rfl | rfl | rfl | rfl | rfl
  · have q : (130 : Int32).toInt = ((0 : Int64).toInt + 1) * 128 + (2 : Int32).toInt := by decide
    exact q
  · have q : (134 : Int32).toInt = ((0 : Int64).toInt + 1) * 128 + (6 : Int32).toInt := by decide
    exact q
  · have q : (135 : Int32).toInt = ((0 : Int64).toInt + 1) * 128 + (7 : Int32).toInt := by decide
    exact q
  · have q : (143 : Int32).toInt = ((0 : Int64).toInt + 1) * 128 + (15 : Int32).toInt := by decide
    exact q
  · rfl
  · rfl
  · rfl
  · show (((l % 26 + 1) + 1) * 128 + 3).toInt = ((own_cd cc).toInt + 1) * 128 + 3
    omega
  · show (((l % 26 + 1) + 1) * 128 + 35).toInt = ((own_cd cc).toInt + 1) * 128 + 35
    omega
  · rfl
  · rfl
theorem own_fin {k1 k2 l1 l2 c1 c2 : Int32} (h0 : 0 ≤ k1.toInt) (h1 : k1.toInt ≤ 10) (g0 : 0 ≤ k2.toInt) (g1 : k2.toInt ≤ 10) (l10 : 0 ≤ l1.toInt) (l11 : l1.toInt < 52) (l20 : 0 ≤ l2.toInt) (l21 : l2.toInt < 52) (hc1 : (own_code c1).toInt = l1.toInt % 26 + 1) (hc2 : (own_code c2).toInt = l2.toInt % 26 + 1) :
    own_sm (own_st k1 c1) (own_st k2 c2) (own_bg k1) (own_bg k2) (own_sc k1) (own_sc k2) (own_dl k1) (own_dl k2) (own_qu k1) (own_qu k2) (own_rf k1) (own_rf k2) (own_hd k1) (own_hd k2) (own_ro k1) (own_ro k2) = if own_pr k1 l1 = own_pr k2 l2 then 1 else 0 := by
  have p1 := own_pr_i h0 h1 l10 l11 hc1
  have p2 := own_pr_i g0 g1 l20 l21 hc2
  have inj : own_fl k1 = own_fl k2 ↔ (own_bg k1 = own_bg k2 ∧ own_sc k1 = own_sc k2 ∧ own_dl k1 = own_dl k2 ∧ own_qu k1 = own_qu k2 ∧ own_rf k1 = own_rf k2 ∧ own_hd k1 = own_hd k2 ∧ own_ro k1 = own_ro k2) := by
    obtain ⟨j1, e1⟩ := own_kf h0 h1
    obtain ⟨j2, e2⟩ := own_kf g0 g1
    rw [e1, e2]
    exact own_inj j1 j2
  have b1 : 0 ≤ (own_fl k1).toInt ∧ (own_fl k1).toInt < 128 := by
    obtain ⟨j1, e1⟩ := own_kf h0 h1
    rw [e1]; exact own_flb j1
  have b2 : 0 ≤ (own_fl k2).toInt ∧ (own_fl k2).toInt < 128 := by
    obtain ⟨j2, e2⟩ := own_kf g0 g1
    rw [e2]; exact own_flb j2
  unfold own_sm
  rw [own_if, own_if, own_if, own_if, own_if, own_if, own_if]
  refine ite_congr (propext ⟨fun q => ?_, fun q => ?_⟩) (fun _ => rfl) (fun _ => rfl)
  · have f := congrArg Int32.toInt (inj.mpr q.2)
    have s := congrArg Int64.toInt q.1
    exact i_eq (by omega)
  · have r := congrArg Int32.toInt q
    exact ⟨l_eq (by omega), inj.mp (i_eq (by omega))⟩
theorem own_rm (x y : Int32) (h : 1 ≤ y.toInt) : 0 ≤ ((x &&& 2147483647) % y).toInt ∧ ((x &&& 2147483647) % y).toInt < y.toInt := by
  have e := c_mask x 2147483647 31 (by decide) (by decide)
  have e2 := i_rem (b := y) e rfl (by omega)
  rw [e2]
  exact ⟨Int.emod_nonneg _ (by omega), Int.emod_lt_of_pos _ (by omega)⟩
theorem pd_16 : parseMethodDescriptor "(IC)Lcom/example/plantilla/plantilla/UrlValue;" = some ⟨[.int, .char], some (.object "com/example/plantilla/plantilla/UrlValue")⟩ := by decide +kernel
theorem pd_17 : parseMethodDescriptor "(II)I" = some ⟨[.int, .int], some .int⟩ := by decide +kernel
theorem pd_18 : parseMethodDescriptor "(Lcom/example/plantilla/plantilla/UrlValue;)Z" = some ⟨[(.object "com/example/plantilla/plantilla/UrlValue")], some .boolean⟩ := by decide +kernel
theorem ef_own_law (m : MethodId) (x1 : Int32) (x2 : Int32) (x3 : Int32) (x4 : Int32)  : entryFrame m #[(.int x1), (.int x2), (.int x3), (.int x4)] maxLocals = mkF m 0 #[iv x1, iv x2, iv x3, iv x4, un, un, un, un, un, un, un] [] := by
  first | (simp [entryFrame, mkF, argsToLocals, Value.category, maxLocals]; done) | rfl
set_option maxRecDepth 65536 in
set_option maxHeartbeats 40000000 in
theorem own_law (l : Launch) (Z : State) (a0 : Array Value) (hw : ∀ d ∈ tables_1, d.before a0 Z = true) (x1 : Int32) (x2 : Int32) (x3 : Int32) (x4 : Int32) (cs : Int32) (fv : Value) (h : Heap) (n0 : Nat) (hn0 : Old Z n0 h) (hEL : EW Z a0 consts_1) (hcs : ¬ cs = 0) (S1 : Sta Z Z.heap "java/lang/String" "COMPACT_STRINGS" "Z" (.int cs)) (hfv : fv.isRef = true) (S2 : Sta Z Z.heap "jdk/internal/util/Preconditions" "SIOOBE_FORMATTER" "Ljava/util/function/BiFunction;" fv) :
    ConW l Z consts_1 x code maxLocals ret room_1 #[(.int x1), (.int x2), (.int x3), (.int x4)] h n0 (fun v h' => v = some (.int 1)) := by
  refine conW_of hw (plainFor_of_name pn_com_example_plantilla_plantilla_UrlValueSameAsPinLaw) hn0 ?_
  intro p e sv0 s m below meth c T0 C WI0 X0
  refine Go.cast (congrArg T0.setTop (ef_own_law m x1 x2 x3 x4)) ?_
  refine go_iloadN C X0 1 rfl at_0 rfl ?_
  refine go_ldcInt C X0 (C.w 0 rfl) (pc' := 3) rfl at_1 ?_
  refine go_iand C X0 4 rfl at_3 ?_
  refine go_bipush C X0 6 rfl at_4 (z := 11) rfl ?_
  refine go_irem C X0 7 rfl at_6 (by decide) ?_
  refine go_istore C X0 9 rfl at_7 #[iv x1, iv x2, iv x3, iv x4, iv ((x1 &&& (2147483647 : Int32)) % (11 : Int32)), un, un, un, un, un, un] rfl ?_
  have hk1 : 0 ≤ ((x1 &&& 2147483647) % 11).toInt ∧ ((x1 &&& 2147483647) % 11).toInt < 11 := own_rm x1 11 (by decide)
  generalize e_k1 : ((x1 &&& (2147483647 : Int32)) % (11 : Int32)) = k1 at hk1 ⊢
  refine go_iloadN C X0 10 rfl at_9 rfl ?_
  refine go_ldcInt C X0 (C.w 0 rfl) (pc' := 12) rfl at_10 ?_
  refine go_iand C X0 13 rfl at_12 ?_
  refine go_bipush C X0 15 rfl at_13 (z := 11) rfl ?_
  refine go_irem C X0 16 rfl at_15 (by decide) ?_
  refine go_istore C X0 18 rfl at_16 #[iv x1, iv x2, iv x3, iv x4, iv k1, iv ((x2 &&& (2147483647 : Int32)) % (11 : Int32)), un, un, un, un, un] rfl ?_
  have hk2 : 0 ≤ ((x2 &&& 2147483647) % 11).toInt ∧ ((x2 &&& 2147483647) % 11).toInt < 11 := own_rm x2 11 (by decide)
  generalize e_k2 : ((x2 &&& (2147483647 : Int32)) % (11 : Int32)) = k2 at hk2 ⊢
  refine go_iloadN C X0 19 rfl at_18 rfl ?_
  refine go_ldcInt C X0 (C.w 0 rfl) (pc' := 21) rfl at_19 ?_
  refine go_iand C X0 22 rfl at_21 ?_
  refine go_bipush C X0 24 rfl at_22 (z := 52) rfl ?_
  refine go_irem C X0 25 rfl at_24 (by decide) ?_
  refine go_istore C X0 27 rfl at_25 #[iv x1, iv x2, iv x3, iv x4, iv k1, iv k2, iv ((x3 &&& (2147483647 : Int32)) % (52 : Int32)), un, un, un, un] rfl ?_
  have hl_1 : 0 ≤ ((x3 &&& 2147483647) % 52).toInt ∧ ((x3 &&& 2147483647) % 52).toInt < 52 := own_rm x3 52 (by decide)
  generalize e_l_1 : ((x3 &&& (2147483647 : Int32)) % (52 : Int32)) = l_1 at hl_1 ⊢
  refine go_iloadN C X0 28 rfl at_27 rfl ?_
  refine go_ldcInt C X0 (C.w 0 rfl) (pc' := 30) rfl at_28 ?_
  refine go_iand C X0 31 rfl at_30 ?_
  refine go_bipush C X0 33 rfl at_31 (z := 52) rfl ?_
  refine go_irem C X0 34 rfl at_33 (by decide) ?_
  refine go_istore C X0 36 rfl at_34 #[iv x1, iv x2, iv x3, iv x4, iv k1, iv k2, iv l_1, iv ((x4 &&& (2147483647 : Int32)) % (52 : Int32)), un, un, un] rfl ?_
  have hl_2 : 0 ≤ ((x4 &&& 2147483647) % 52).toInt ∧ ((x4 &&& 2147483647) % 52).toInt < 52 := own_rm x4 52 (by decide)
  generalize e_l_2 : ((x4 &&& (2147483647 : Int32)) % (52 : Int32)) = l_2 at hl_2 ⊢
  refine go_iload C X0 38 rfl at_36 rfl ?_
  refine go_iload C X0 40 rfl at_38 rfl ?_
  refine go_callS C X0 (C.w 1 rfl) (C.w 2 rfl) (C.w 3 rfl) (C.w 4 rfl) (own_letter l Z a0 C.ws l_1 h n0 X0.old hl_1.1 hl_1.2) (argsL := [(.int l_1)]) (rest := [(.int k1)]) (lenOf pd_13 rfl) rfl (by decide) (by decide) (Nat.le_of_ble_eq_true rfl) (by decide) (by decide) rfl rfl (pc' := 43) rfl at_40 ?_
  rintro T1 _ _ ⟨cc1, rfl, hl1, rfl⟩ X2
  show Go p e below _ (T1.setTop (mkF m 43 #[iv x1, iv x2, iv x3, iv x4, iv k1, iv k2, iv l_1, iv l_2, un, un, un] [(.int cc1), (.int k1)]))
  refine go_callSW C X2 WI0 hEL (C.w 5 rfl) (C.w 6 rfl) (C.w 3 rfl) (C.w 7 rfl) (own_build l Z a0 C.ws k1 cc1 cs fv h n0 X2.old hEL hl1.1 hk1.1 (Int.le_of_lt_add_one hk1.2) hcs S1 hfv S2) (argsL := [(.int k1), (.int cc1)]) (rest := []) (lenOf pd_16 rfl) rfl (by decide) (by decide) (Nat.le_of_ble_eq_true rfl) (by decide) (by decide) rfl rfl (pc' := 46) rfl at_43 ?_
  rintro s T4 h6 _ ⟨u1, rfl, sz9_1, Kb1, Eb1, Fb1_0, Fb1_1, Fb1_2, Fb1_3, Fb1_4, Fb1_5, Fb1_6, Fb1_7⟩ C WI7 X5
  show Go p e below _ (T4.setTop (mkF m 46 #[iv x1, iv x2, iv x3, iv x4, iv k1, iv k2, iv l_1, iv l_2, un, un, un] [(.ref u1)]))
  refine go_astore C X5 48 rfl at_46 rfl #[iv x1, iv x2, iv x3, iv x4, iv k1, iv k2, iv l_1, iv l_2, rv u1, un, un] rfl ?_
  refine go_iload C X5 50 rfl at_48 rfl ?_
  refine go_iload C X5 52 rfl at_50 rfl ?_
  refine go_callS C X5 (C.w 1 rfl) (C.w 2 rfl) (C.w 3 rfl) (C.w 4 rfl) (own_letter l Z a0 C.ws l_2 h6 n0 X5.old hl_2.1 hl_2.2) (argsL := [(.int l_2)]) (rest := [(.int k2)]) (lenOf pd_13 rfl) rfl (by decide) (by decide) (Nat.le_of_ble_eq_true rfl) (by decide) (by decide) rfl rfl (pc' := 55) rfl at_52 ?_
  rintro T8 _ _ ⟨cc2, rfl, hl2, rfl⟩ X9
  show Go p e below _ (T8.setTop (mkF m 55 #[iv x1, iv x2, iv x3, iv x4, iv k1, iv k2, iv l_1, iv l_2, rv u1, un, un] [(.int cc2), (.int k2)]))
  refine go_callSW C X9 WI7 hEL (C.w 5 rfl) (C.w 6 rfl) (C.w 3 rfl) (C.w 7 rfl) (own_build l Z a0 C.ws k2 cc2 cs fv h6 n0 X9.old hEL hl2.1 hk2.1 (Int.le_of_lt_add_one hk2.2) hcs S1 hfv S2) (argsL := [(.int k2), (.int cc2)]) (rest := []) (lenOf pd_16 rfl) rfl (by decide) (by decide) (Nat.le_of_ble_eq_true rfl) (by decide) (by decide) rfl rfl (pc' := 58) rfl at_55 ?_
  rintro s T11 h13 _ ⟨u2, rfl, sz9_2, Kb2, Eb2, Fb2_0, Fb2_1, Fb2_2, Fb2_3, Fb2_4, Fb2_5, Fb2_6, Fb2_7⟩ C WI14 X12
  show Go p e below _ (T11.setTop (mkF m 58 #[iv x1, iv x2, iv x3, iv x4, iv k1, iv k2, iv l_1, iv l_2, rv u1, un, un] [(.ref u2)]))
  have E15 := Eb1.keep Kb2
  have F16 := Fb1_0.keep Kb2 nin0
  have F17 := Fb1_1.keep Kb2 nin0
  have F18 := Fb1_2.keep Kb2 nin0
  have F19 := Fb1_3.keep Kb2 nin0
  have F20 := Fb1_4.keep Kb2 nin0
  have F21 := Fb1_5.keep Kb2 nin0
  have F22 := Fb1_6.keep Kb2 nin0
  have F23 := Fb1_7.keep Kb2 nin0
  refine go_astore C X12 60 rfl at_58 rfl #[iv x1, iv x2, iv x3, iv x4, iv k1, iv k2, iv l_1, iv l_2, rv u1, rv u2, un] rfl ?_
  have hf12 := own_fin hk1.1 (Int.le_of_lt_add_one hk1.2) hk2.1 (Int.le_of_lt_add_one hk2.2) hl_1.1 hl_1.2 hl_2.1 hl_2.2 hl1.2 hl2.2
  have hf21 := own_fin hk2.1 (Int.le_of_lt_add_one hk2.2) hk1.1 (Int.le_of_lt_add_one hk1.2) hl_2.1 hl_2.2 hl_1.1 hl_1.2 hl2.2 hl1.2
  refine go_iload C X12 62 rfl at_60 rfl ?_
  refine go_iload C X12 64 rfl at_62 rfl ?_
  refine go_callS C X12 (C.w 47 rfl) (C.w 48 rfl) (C.w 3 rfl) (C.w 49 rfl) (own_print l Z a0 C.ws k1 l_1 h13 n0 X12.old ) (argsL := [(.int k1), (.int l_1)]) (rest := []) (lenOf pd_17 rfl) rfl (by decide) (by decide) (Nat.le_of_ble_eq_true rfl) (by decide) (by decide) rfl rfl (pc' := 67) rfl at_64 ?_
  rintro T24 _ _ ⟨rfl, rfl⟩ X25
  show Go p e below _ (T24.setTop (mkF m 67 #[iv x1, iv x2, iv x3, iv x4, iv k1, iv k2, iv l_1, iv l_2, rv u1, rv u2, un] [(.int (own_pr k1 l_1))]))
  refine go_iload C X25 69 rfl at_67 rfl ?_
  refine go_iload C X25 71 rfl at_69 rfl ?_
  refine go_callS C X25 (C.w 47 rfl) (C.w 48 rfl) (C.w 3 rfl) (C.w 49 rfl) (own_print l Z a0 C.ws k2 l_2 h13 n0 X25.old ) (argsL := [(.int k2), (.int l_2)]) (rest := [(.int (own_pr k1 l_1))]) (lenOf pd_17 rfl) rfl (by decide) (by decide) (Nat.le_of_ble_eq_true rfl) (by decide) (by decide) rfl rfl (pc' := 74) rfl at_71 ?_
  rintro T27 _ _ ⟨rfl, rfl⟩ X28
  show Go p e below _ (T27.setTop (mkF m 74 #[iv x1, iv x2, iv x3, iv x4, iv k1, iv k2, iv l_1, iv l_2, rv u1, rv u2, un] [(.int (own_pr k2 l_2)), (.int (own_pr k1 l_1))]))
  refine go_icmp_ne C X28 at_74 (pc' := 77) (pc2 := 81) rfl (by decide) (by decide) (fun (c74 : ¬ (own_pr k1 l_1) = (own_pr k2 l_2)) => ?_) (fun (c74 : (own_pr k1 l_1) = (own_pr k2 l_2)) => ?_)
  · refine go_iconst C X28 82 rfl at_81 (z := 0) rfl ?_
    refine go_istore C X28 84 rfl at_82 #[iv x1, iv x2, iv x3, iv x4, iv k1, iv k2, iv l_1, iv l_2, rv u1, rv u2, iv (0 : Int32)] rfl ?_
    refine go_aload C X28 86 rfl at_84 rfl rfl ?_
    refine go_aload C X28 88 rfl at_86 rfl rfl ?_
    refine go_virtual C X28 E15 (C.w 50 rfl) (C.w 51 rfl) (notFace_of_selects (args := #[]) (mvT C.hZ (C.w 53 rfl))) (C.w 53 rfl) (C.w 52 rfl) (C.w 10 rfl) (C.w 54 rfl) (own_same l Z a0 C.ws u1 u2 (own_st k1 cc1) (own_st k2 cc2) (own_bg k1) (own_bg k2) (own_sc k1) (own_sc k2) (own_dl k1) (own_dl k2) (own_qu k1) (own_qu k2) (own_rf k1) (own_rf k2) (own_hd k1) (own_hd k2) (own_ro k1) (own_ro k2) h13 n0 X28.old F16 Fb2_0 F17 Fb2_1 F18 Fb2_2 F19 Fb2_3 F20 Fb2_4 F21 Fb2_5 F22 Fb2_6 F23 Fb2_7) (argsL := [(.ref u2)]) (rest := []) (lenOf pd_18 rfl) rfl (by decide) (by decide) (Nat.le_of_ble_eq_true rfl) (by decide) (by decide) rfl rfl (pc' := 91) rfl at_88 ?_
    rintro T30 _ _ ⟨rfl, rfl⟩ X31
    show Go p e below _ (T30.setTop (mkF m 91 #[iv x1, iv x2, iv x3, iv x4, iv k1, iv k2, iv l_1, iv l_2, rv u1, rv u2, iv (0 : Int32)] [(.int (own_sm (own_st k1 cc1) (own_st k2 cc2) (own_bg k1) (own_bg k2) (own_sc k1) (own_sc k2) (own_dl k1) (own_dl k2) (own_qu k1) (own_qu k2) (own_rf k1) (own_rf k2) (own_hd k1) (own_hd k2) (own_ro k1) (own_ro k2)))]))
    rw [hf12, if_neg c74]
    refine go_iload C X31 93 rfl at_91 rfl ?_
    refine go_icmp_ne C X31 at_93 (pc' := 96) (pc2 := 112) rfl (by decide) (by decide) (fun (c93 : ¬ (0 : Int32) = (0 : Int32)) => False.elim (by first | omega | exact absurd c93 (by decide))) (fun (c93 : (0 : Int32) = (0 : Int32)) => ?_)
    refine go_aload C X31 98 rfl at_96 rfl rfl ?_
    refine go_aload C X31 100 rfl at_98 rfl rfl ?_
    refine go_virtual C X31 Eb2 (C.w 50 rfl) (C.w 51 rfl) (notFace_of_selects (args := #[]) (mvT C.hZ (C.w 53 rfl))) (C.w 53 rfl) (C.w 52 rfl) (C.w 10 rfl) (C.w 54 rfl) (own_same l Z a0 C.ws u2 u1 (own_st k2 cc2) (own_st k1 cc1) (own_bg k2) (own_bg k1) (own_sc k2) (own_sc k1) (own_dl k2) (own_dl k1) (own_qu k2) (own_qu k1) (own_rf k2) (own_rf k1) (own_hd k2) (own_hd k1) (own_ro k2) (own_ro k1) h13 n0 X31.old Fb2_0 F16 Fb2_1 F17 Fb2_2 F18 Fb2_3 F19 Fb2_4 F20 Fb2_5 F21 Fb2_6 F22 Fb2_7 F23) (argsL := [(.ref u1)]) (rest := []) (lenOf pd_18 rfl) rfl (by decide) (by decide) (Nat.le_of_ble_eq_true rfl) (by decide) (by decide) rfl rfl (pc' := 103) rfl at_100 ?_
    rintro T33 _ _ ⟨rfl, rfl⟩ X34
    show Go p e below _ (T33.setTop (mkF m 103 #[iv x1, iv x2, iv x3, iv x4, iv k1, iv k2, iv l_1, iv l_2, rv u1, rv u2, iv (0 : Int32)] [(.int (own_sm (own_st k2 cc2) (own_st k1 cc1) (own_bg k2) (own_bg k1) (own_sc k2) (own_sc k1) (own_dl k2) (own_dl k1) (own_qu k2) (own_qu k1) (own_rf k2) (own_rf k1) (own_hd k2) (own_hd k1) (own_ro k2) (own_ro k1)))]))
    rw [hf21, if_neg (fun q => c74 q.symm)]
    refine go_iload C X34 105 rfl at_103 rfl ?_
    refine go_icmp_ne C X34 at_105 (pc' := 108) (pc2 := 112) rfl (by decide) (by decide) (fun (c105 : ¬ (0 : Int32) = (0 : Int32)) => False.elim (by first | omega | exact absurd c105 (by decide))) (fun (c105 : (0 : Int32) = (0 : Int32)) => ?_)
    refine go_iconst C X34 109 rfl at_108 (z := 1) rfl ?_
    refine go_goto C X34 at_109 (pc' := 113) (by decide) (by decide) ?_
    exact go_retNW C X34 WI14 hEL (by simp) (z' := 1) rfl at_113 rfl (by decide) (by decide)
  · refine go_iconst C X28 78 rfl at_77 (z := 1) rfl ?_
    refine go_goto C X28 at_78 (pc' := 82) (by decide) (by decide) ?_
    refine go_istore C X28 84 rfl at_82 #[iv x1, iv x2, iv x3, iv x4, iv k1, iv k2, iv l_1, iv l_2, rv u1, rv u2, iv (1 : Int32)] rfl ?_
    refine go_aload C X28 86 rfl at_84 rfl rfl ?_
    refine go_aload C X28 88 rfl at_86 rfl rfl ?_
    refine go_virtual C X28 E15 (C.w 50 rfl) (C.w 51 rfl) (notFace_of_selects (args := #[]) (mvT C.hZ (C.w 53 rfl))) (C.w 53 rfl) (C.w 52 rfl) (C.w 10 rfl) (C.w 54 rfl) (own_same l Z a0 C.ws u1 u2 (own_st k1 cc1) (own_st k2 cc2) (own_bg k1) (own_bg k2) (own_sc k1) (own_sc k2) (own_dl k1) (own_dl k2) (own_qu k1) (own_qu k2) (own_rf k1) (own_rf k2) (own_hd k1) (own_hd k2) (own_ro k1) (own_ro k2) h13 n0 X28.old F16 Fb2_0 F17 Fb2_1 F18 Fb2_2 F19 Fb2_3 F20 Fb2_4 F21 Fb2_5 F22 Fb2_6 F23 Fb2_7) (argsL := [(.ref u2)]) (rest := []) (lenOf pd_18 rfl) rfl (by decide) (by decide) (Nat.le_of_ble_eq_true rfl) (by decide) (by decide) rfl rfl (pc' := 91) rfl at_88 ?_
    rintro T36 _ _ ⟨rfl, rfl⟩ X37
    show Go p e below _ (T36.setTop (mkF m 91 #[iv x1, iv x2, iv x3, iv x4, iv k1, iv k2, iv l_1, iv l_2, rv u1, rv u2, iv (1 : Int32)] [(.int (own_sm (own_st k1 cc1) (own_st k2 cc2) (own_bg k1) (own_bg k2) (own_sc k1) (own_sc k2) (own_dl k1) (own_dl k2) (own_qu k1) (own_qu k2) (own_rf k1) (own_rf k2) (own_hd k1) (own_hd k2) (own_ro k1) (own_ro k2)))]))
    rw [hf12, if_pos c74]
    refine go_iload C X37 93 rfl at_91 rfl ?_
    refine go_icmp_ne C X37 at_93 (pc' := 96) (pc2 := 112) rfl (by decide) (by decide) (fun (c93 : ¬ (1 : Int32) = (1 : Int32)) => False.elim (by first | omega | exact absurd c93 (by decide))) (fun (c93 : (1 : Int32) = (1 : Int32)) => ?_)
    refine go_aload C X37 98 rfl at_96 rfl rfl ?_
    refine go_aload C X37 100 rfl at_98 rfl rfl ?_
    refine go_virtual C X37 Eb2 (C.w 50 rfl) (C.w 51 rfl) (notFace_of_selects (args := #[]) (mvT C.hZ (C.w 53 rfl))) (C.w 53 rfl) (C.w 52 rfl) (C.w 10 rfl) (C.w 54 rfl) (own_same l Z a0 C.ws u2 u1 (own_st k2 cc2) (own_st k1 cc1) (own_bg k2) (own_bg k1) (own_sc k2) (own_sc k1) (own_dl k2) (own_dl k1) (own_qu k2) (own_qu k1) (own_rf k2) (own_rf k1) (own_hd k2) (own_hd k1) (own_ro k2) (own_ro k1) h13 n0 X37.old Fb2_0 F16 Fb2_1 F17 Fb2_2 F18 Fb2_3 F19 Fb2_4 F20 Fb2_5 F21 Fb2_6 F22 Fb2_7 F23) (argsL := [(.ref u1)]) (rest := []) (lenOf pd_18 rfl) rfl (by decide) (by decide) (Nat.le_of_ble_eq_true rfl) (by decide) (by decide) rfl rfl (pc' := 103) rfl at_100 ?_
    rintro T39 _ _ ⟨rfl, rfl⟩ X40
    show Go p e below _ (T39.setTop (mkF m 103 #[iv x1, iv x2, iv x3, iv x4, iv k1, iv k2, iv l_1, iv l_2, rv u1, rv u2, iv (1 : Int32)] [(.int (own_sm (own_st k2 cc2) (own_st k1 cc1) (own_bg k2) (own_bg k1) (own_sc k2) (own_sc k1) (own_dl k2) (own_dl k1) (own_qu k2) (own_qu k1) (own_rf k2) (own_rf k1) (own_hd k2) (own_hd k1) (own_ro k2) (own_ro k1)))]))
    rw [hf21, if_pos c74.symm]
    refine go_iload C X40 105 rfl at_103 rfl ?_
    refine go_icmp_ne C X40 at_105 (pc' := 108) (pc2 := 112) rfl (by decide) (by decide) (fun (c105 : ¬ (1 : Int32) = (1 : Int32)) => False.elim (by first | omega | exact absurd c105 (by decide))) (fun (c105 : (1 : Int32) = (1 : Int32)) => ?_)
    refine go_iconst C X40 109 rfl at_108 (z := 1) rfl ?_
    refine go_goto C X40 at_109 (pc' := 113) (by decide) (by decide) ?_
    exact go_retNW C X40 WI14 hEL (by simp) (z' := 1) rfl at_113 rfl (by decide) (by decide)
set_option maxRecDepth 65536 in
set_option maxHeartbeats 40000000 in
theorem comes_1 {Post : Tables → Env → Array Value → State → Outcome → State → Prop} (hpost : ∀ tb e args s v u, (limb_1_1.after args s (.returned v) u = true ∧ limb_1_2.after args s (.returned v) u = true ∧ True) → FramedW s (.returned v) u (Jvm.fieldLocs frame_1_writes args s ++ Jvm.arrayLocs frame_1_arrays args s ++ Jvm.staticLocs frame_1_statics s) 24 1152 → Post tb e args s (.returned v) u) :
    ArmFor flags0 classFile x code maxLocals ret World_1 tables_1 room_1 Calls_1 rest_1 Pre_1 Post := by
  intro l hfl _ _ p e ha hc hk s m args below hf hA hF happ hP
  obtain ⟨hcalls, hrest, hpre⟩ := hP
  obtain ⟨-, -, -, hnamed, -, -, -, hat⟩ := (Spec.applies_iff hf).mp happ
  obtain ⟨hg, hn⟩ := and_e (Cond.before_iff.mp (show (Jvm.Cond.and given_1 narrow_1).before args s = true from hpre))
  obtain ⟨g1, g2⟩ := and_e hg
  obtain ⟨g3, g4⟩ := and_e g2
  obtain ⟨g5, g6⟩ := and_e g4
  obtain ⟨g7, g8⟩ := and_e g6
  obtain ⟨w0, w1, w2, w3, rfl⟩ : ∃ w0 w1 w2 w3 : Value, args = #[w0, w1, w2, w3] := by
    have hs : args.size = 4 := by simpa [Cond.value, given_1] using g1
    obtain ⟨L⟩ := args
    match L, hs with
    | [w0, w1, w2, w3], _ => exact ⟨w0, w1, w2, w3, rfl⟩
  have hw := fun d (hd : d ∈ tables_1) => atoms_spec (ws := Jvm.Cond.code x code maxLocals ret :: tables_1) hat d (List.mem_cons_of_mem _ hd)
  have hfit : Fit s := fun {y c} hc i hi => by
    obtain ⟨ha, rfl⟩ := Array.getElem?_eq_some_iff.mp hc
    have q := List.all_eq_true.mp ((Array.all_eq_true_iff_forall_mem.mp hF) _ (Array.getElem_mem ha)) i (List.mem_range.mpr hi)
    simpa [Array.getElem?_eq_getElem hi] using q
  obtain ⟨hsets, hown0⟩ := atoms_of _ (rest_1_c_eq ▸ (show rest_1_c.before _ s = true from hrest))
  have hr0 := Cond.before_iff.mp hown0
  obtain ⟨i0, ei0⟩ := is_v g3
  obtain rfl : w0 = (.int i0) := Option.some.inj ei0
  obtain ⟨i1, ei1⟩ := is_v g5
  obtain rfl : w1 = (.int i1) := Option.some.inj ei1
  obtain ⟨i2, ei2⟩ := is_v g7
  obtain rfl : w2 = (.int i2) := Option.some.inj ei2
  obtain ⟨i3, ei3⟩ := is_v g8
  obtain rfl : w3 = (.int i3) := Option.some.inj ei3
  have n3 := not_v (Cond.before_iff.mp (hsets _ (List.mem_of_getElem? (i := 2) rfl)))
  obtain ⟨cs, ecs⟩ := is_v (Cond.before_iff.mp (hsets _ (List.mem_of_getElem? (i := 1) rfl)))
  have S1 : Sta s s.heap "java/lang/String" "COMPACT_STRINGS" "Z" (.int cs) := Sta.start ecs (Or.inl (hsets _ (List.mem_of_getElem? (i := 0) rfl)))
  obtain ⟨fv, efv, hfv⟩ := isR_v (Cond.before_iff.mp (hsets _ (List.mem_of_getElem? (i := 8) rfl)))
  have S2 : Sta s s.heap "jdk/internal/util/Preconditions" "SIOOBE_FORMATTER" "Ljava/util/function/BiFunction;" fv := Sta.start efv (Or.inl (hsets _ (List.mem_of_getElem? (i := 7) rfl)))
  have hcs : ¬ (cs = (0 : Int32)) := gotF (Cond.eq_ints ecs (Term.int_eval (0))) n3
  have hEL : EW s #[.int i0, .int i1, .int i2, .int i3] consts_1 := EW.cons (hw _ (List.mem_of_getElem? (i := 132) rfl)) own_lit46.1 EW.nil
  obtain ⟨hcst, _⟩ := hcalls
  have hCH : CHv s consts_1 s.vm s.heap := CHv.start hEL (fun p hp => hcst p hp) (hsets _ (List.mem_of_getElem? (i := 2) rfl)) (hw _ (List.mem_of_getElem? (i := 86) rfl)) (hw _ (List.mem_of_getElem? (i := 82) rfl))
  obtain ⟨n, o, h1, h2, h3, _, L, rfl, ⟨N, rfl⟩, -, hq⟩ := own_law l s _ hw i0 i1 i2 i3 cs fv s.heap s.heap.size (Old.start s) hEL hcs S1 hfv S2 tables_1 p e ha hc hk s m _ below hf ((Spec.applies_iff_loose hf).mp happ).1 ⟨rfl, State.Warmed39.refl s, rfl, hCH⟩ trivial
  refine ⟨n, _, h1, h2, h3, hpost _ _ _ _ _ _ ⟨Cond.after_iff.mpr rfl, Cond.after_iff.mpr (eq_i res_at (Term.int_eval (1)) rfl), trivial⟩ ⟨hq.1, hq.2.1, hq.2.2.1, (hq.2.2.2.sift fun y hy => Or.inr (N y hy)).mono (by decide) (by decide)⟩⟩
theorem main_1_1 : Claimed_1_1 := comes_1 fun _ _ _ _ _ _ h hF => ⟨h.1, hF⟩
theorem main_1_2 : Claimed_1_2 := comes_1 fun _ _ _ _ _ _ h hF => ⟨h.2.1, hF⟩

end Jvm.Pilot.@@N@@
namespace Jvm.Pilot.@@N@@
open Jvm Jvm.ClassFile Sem Op Lib Jvm.Free Jvm.Stand Jvm.Pilot.@@N@@.Jvm.D
/-! MADE BY PROGRAM (witnessworld.py) out of the Statement's table words and the real class files: 18 classes; the members and pool entries that the words name. The judged class is class 1, her method 1. -/
namespace start1
open Jvm.ClassFile
def u (s : String) : CpInfo := .utf8 (stringToUtf16 s)
/-- a pool by its gaps: so many unusable entries, then the entry; so many at the end -/
def gap : Nat → List CpInfo → List CpInfo
  | 0, r => r
  | n + 1, r => .unusable :: gap n r
def poolList (es : List (Nat × CpInfo)) (last : Nat) : List CpInfo := es.foldr (fun e r => gap e.1 (e.2 :: r)) (gap last [])
def pool (es : List (Nat × CpInfo)) (last : Nat) : Array CpInfo := ⟨poolList es last⟩
def fileOf (pool : Array CpInfo) (this : Nat) (attrs : Array Attribute := #[]) (ms : Array MethodInfo := #[]) (fl : Nat := 33) (sup : Nat := 0) (ifs : Array Nat := #[]) (fds : Array FieldInfo := #[]) : ClassFile where
  minorVersion := 0
  majorVersion := 65
  constantPool := pool
  accessFlags := fl
  thisClass := this
  superClass := sup
  interfaces := ifs
  fields := fds
  methods := ms
  attributes := attrs
def plain (name : String) (sup : Option ClassId) : Class where
  name := name
  kind := .ordinary
  loader := none
  accessFlags := 33
  super := sup
  interfaces := #[]
  cf := none
  fields := #[]
  methods := #[]
  instanceTypes := #[]
  staticTypes := #[]
  resolved := #[]
  callSites := []
  init := .initialized
  statics := none
  mirror := none

def pool0 : Array CpInfo := pool [(5, u "<init>"), (0, u "()V"), (1, .class_ 10), (1, u "java/lang/Object")] 113

def k0c0 : Code := { maxStack := 0, maxLocals := 1, code := object_method_1_code, exceptionTable := #[], attributes := #[] }
def k0m0 : Method := { name := "<init>", desc := "()V", sig := { parameters := [], returnType := none }, accessFlags := 1, code := some k0c0 }
/-- java/lang/Object -/
def k0 : Class := { plain "java/lang/Object" none with
  accessFlags := 33
  interfaces := #[]
  cf := some (fileOf pool0 8 #[] #[{ accessFlags := 1, nameIndex := 5, descriptorIndex := 6, attributes := #[] }] 33 0 #[] #[])
  fields := #[]
  methods := #[k0m0]
  instanceTypes := #[]
  staticTypes := #[]
  resolved := Array.replicate 124 none
  statics := none }

def pool1 : Array CpInfo := pool [(2, .class_ 4), (0, .nameAndType 5 6), (0, u "java/lang/Object"), (0, u "<init>"), (0, u "()V"), (0, .integer 2147483647), (0, .methodref 9 10), (0, .class_ 11), (0, .nameAndType 12 13), (0, u "com/example/plantilla/plantilla/UrlValueSameAsPinLaw"), (0, u "letter"), (0, u "(I)C"), (0, .methodref 9 15), (0, .nameAndType 16 17), (0, u "build"), (0, u "(IC)Lcom/example/plantilla/plantilla/UrlValue;"), (0, .methodref 9 19), (0, .nameAndType 20 21), (0, u "print"), (0, u "(II)I"), (0, .methodref 23 24), (0, .class_ 25), (0, .nameAndType 26 27), (0, u "com/example/plantilla/plantilla/UrlValue"), (0, u "sameAs"), (0, u "(Lcom/example/plantilla/plantilla/UrlValue;)Z"), (0, .methodref 23 3), (0, .methodref 23 30), (0, .nameAndType 31 6), (0, u "voidHeldValue"), (0, .methodref 23 33), (0, .nameAndType 34 35), (0, u "read"), (0, u "(C)Z"), (0, .methodref 37 38), (0, .class_ 39), (0, .nameAndType 40 41), (0, u "java/lang/String"), (0, u "valueOf"), (0, u "(C)Ljava/lang/String;"), (0, .methodref 23 43), (0, .nameAndType 44 45), (0, u "written"), (0, u "(Ljava/lang/String;)Ljava/lang/String;"), (0, .string 47), (0, u "aaaaaaaaaaaa"), (2, u "law"), (0, u "(IIII)Z")] 3

def k1m0 : Method := { name := "<init>", desc := "()V", sig := { parameters := [], returnType := none }, accessFlags := 1, code := none }
def k1c1 : Code := { maxStack := 3, maxLocals := 11, code := code, exceptionTable := #[], attributes := #[] }
def k1m1 : Method := { name := "law", desc := "(IIII)Z", sig := { parameters := [.int, .int, .int, .int], returnType := some .boolean }, accessFlags := 9, code := some k1c1 }
def k1c2 : Code := { maxStack := 3, maxLocals := 1, code := method_3_code, exceptionTable := #[], attributes := #[] }
def k1m2 : Method := { name := "letter", desc := "(I)C", sig := { parameters := [.int], returnType := some .char }, accessFlags := 10, code := some k1c2 }
def k1c3 : Code := { maxStack := 2, maxLocals := 3, code := method_4_code, exceptionTable := #[], attributes := #[] }
def k1m3 : Method := { name := "build", desc := "(IC)Lcom/example/plantilla/plantilla/UrlValue;", sig := { parameters := [.int, .char], returnType := some (.object "com/example/plantilla/plantilla/UrlValue") }, accessFlags := 10, code := some k1c3 }
def k1c4 : Code := { maxStack := 2, maxLocals := 3, code := method_5_code, exceptionTable := #[], attributes := #[] }
def k1m4 : Method := { name := "print", desc := "(II)I", sig := { parameters := [.int, .int], returnType := some .int }, accessFlags := 10, code := some k1c4 }
/-- com/example/plantilla/plantilla/UrlValueSameAsPinLaw -/
def k1 : Class := { plain "com/example/plantilla/plantilla/UrlValueSameAsPinLaw" (some 0) with
  accessFlags := 49
  interfaces := #[]
  cf := some (fileOf pool1 9 #[] #[{ accessFlags := 1, nameIndex := 5, descriptorIndex := 6, attributes := #[] }, { accessFlags := 9, nameIndex := 50, descriptorIndex := 51, attributes := #[] }, { accessFlags := 10, nameIndex := 12, descriptorIndex := 13, attributes := #[] }, { accessFlags := 10, nameIndex := 16, descriptorIndex := 17, attributes := #[] }, { accessFlags := 10, nameIndex := 20, descriptorIndex := 21, attributes := #[] }] 49 2 #[] #[])
  fields := #[]
  methods := #[k1m0, k1m1, k1m2, k1m3, k1m4]
  instanceTypes := #[]
  staticTypes := #[]
  resolved := Array.replicate 55 none
  statics := none }

def pool2 : Array CpInfo := pool [(1, .methodref 2 3), (0, .class_ 4), (0, .nameAndType 5 6), (0, u "java/lang/Object"), (0, u "<init>"), (0, u "()V"), (0, .methodref 8 9), (0, .class_ 10), (0, .nameAndType 11 6), (0, u "com/example/plantilla/plantilla/UrlValue"), (0, u "reset"), (4, .class_ 17), (0, u "com/example/plantilla/plantilla/PackedName"), (0, .fieldref 8 19), (0, .nameAndType 20 21), (0, u "start"), (0, u "J"), (0, .fieldref 8 23), (0, .nameAndType 24 25), (0, u "begun"), (0, u "Z"), (0, .fieldref 8 27), (0, .nameAndType 28 25), (0, u "schemeLike"), (0, .fieldref 8 30), (0, .nameAndType 31 25), (0, u "delimited"), (0, .fieldref 8 33), (0, .nameAndType 34 25), (0, u "query"), (0, .fieldref 8 36), (0, .nameAndType 37 25), (0, u "reference"), (0, .fieldref 8 39), (0, .nameAndType 40 25), (0, u "holding"), (0, .fieldref 8 42), (0, .nameAndType 43 25), (0, u "referenceOpen"), (4, .methodref 8 49), (0, .nameAndType 50 6), (0, u "voidHeldValue"), (0, .methodref 8 52), (0, .nameAndType 53 54), (0, u "take"), (0, u "(CZ)Z"), (2, u "JAVASCRIPT"), (3, u "(Ljava/lang/String;)Ljava/lang/String;"), (0, .methodref 63 64), (0, .class_ 65), (0, .nameAndType 66 67), (0, u "java/lang/String"), (0, u "length"), (0, u "()I"), (0, .methodref 63 69), (0, .nameAndType 70 71), (0, u "charAt"), (0, u "(I)C"), (7, .methodref 8 80), (0, .nameAndType 81 82), (0, u "isAsciiLetter"), (0, u "(C)Z"), (0, .methodref 8 84), (0, .nameAndType 85 82), (0, u "isDigit"), (0, .methodref 8 87), (0, .nameAndType 88 82), (0, u "isSchemeCharacter"), (0, .methodref 16 90), (0, .nameAndType 91 92), (0, u "appended"), (0, u "(JC)J"), (2, u "SAFE_SCHEMES"), (0, u "[J"), (22, u "INVALID"), (0, u "Ljava/lang/String;"), (3, u "sameAs"), (0, u "(Lcom/example/plantilla/plantilla/UrlValue;)Z"), (1, u "read"), (1, u "written")] 3

def k2c0 : Code := { maxStack := 1, maxLocals := 1, code := prog_44_method_1_code, exceptionTable := #[], attributes := #[] }
def k2m0 : Method := { name := "<init>", desc := "()V", sig := { parameters := [], returnType := none }, accessFlags := 0, code := some k2c0 }
def k2c1 : Code := { maxStack := 3, maxLocals := 1, code := prog_44_method_3_code, exceptionTable := #[], attributes := #[] }
def k2m1 : Method := { name := "reset", desc := "()V", sig := { parameters := [], returnType := none }, accessFlags := 0, code := some k2c1 }
def k2c2 : Code := { maxStack := 4, maxLocals := 2, code := prog_44_method_4_code, exceptionTable := #[], attributes := #[] }
def k2m2 : Method := { name := "sameAs", desc := "(Lcom/example/plantilla/plantilla/UrlValue;)Z", sig := { parameters := [(.object "com/example/plantilla/plantilla/UrlValue")], returnType := some .boolean }, accessFlags := 0, code := some k2c2 }
def k2c3 : Code := { maxStack := 3, maxLocals := 3, code := prog_44_method_8_code, exceptionTable := #[], attributes := #[] }
def k2m3 : Method := { name := "read", desc := "(C)Z", sig := { parameters := [.char], returnType := some .boolean }, accessFlags := 0, code := some k2c3 }
def k2c4 : Code := { maxStack := 2, maxLocals := 1, code := prog_44_method_10_code, exceptionTable := #[], attributes := #[] }
def k2m4 : Method := { name := "voidHeldValue", desc := "()V", sig := { parameters := [], returnType := none }, accessFlags := 0, code := some k2c4 }
def k2c5 : Code := { maxStack := 4, maxLocals := 6, code := prog_44_method_11_code, exceptionTable := #[], attributes := #[] }
def k2m5 : Method := { name := "written", desc := "(Ljava/lang/String;)Ljava/lang/String;", sig := { parameters := [(.object "java/lang/String")], returnType := some (.object "java/lang/String") }, accessFlags := 0, code := some k2c5 }
def k2c6 : Code := { maxStack := 6, maxLocals := 5, code := prog_44_method_13_code, exceptionTable := #[], attributes := #[] }
def k2m6 : Method := { name := "take", desc := "(CZ)Z", sig := { parameters := [.char, .boolean], returnType := some .boolean }, accessFlags := 2, code := some k2c6 }
def k2c7 : Code := { maxStack := 2, maxLocals := 1, code := prog_44_method_15_code, exceptionTable := #[], attributes := #[] }
def k2m7 : Method := { name := "isAsciiLetter", desc := "(C)Z", sig := { parameters := [.char], returnType := some .boolean }, accessFlags := 10, code := some k2c7 }
def k2c8 : Code := { maxStack := 2, maxLocals := 1, code := prog_44_method_16_code, exceptionTable := #[], attributes := #[] }
def k2m8 : Method := { name := "isDigit", desc := "(C)Z", sig := { parameters := [.char], returnType := some .boolean }, accessFlags := 10, code := some k2c8 }
def k2c9 : Code := { maxStack := 2, maxLocals := 1, code := prog_44_method_17_code, exceptionTable := #[], attributes := #[] }
def k2m9 : Method := { name := "isSchemeCharacter", desc := "(C)Z", sig := { parameters := [.char], returnType := some .boolean }, accessFlags := 10, code := some k2c9 }
/-- com/example/plantilla/plantilla/UrlValue -/
def k2 : Class := { plain "com/example/plantilla/plantilla/UrlValue" (some 0) with
  accessFlags := 48
  interfaces := #[]
  cf := some (fileOf pool2 8 #[] #[{ accessFlags := 0, nameIndex := 5, descriptorIndex := 6, attributes := #[] }, { accessFlags := 0, nameIndex := 11, descriptorIndex := 6, attributes := #[] }, { accessFlags := 0, nameIndex := 124, descriptorIndex := 125, attributes := #[] }, { accessFlags := 0, nameIndex := 127, descriptorIndex := 82, attributes := #[] }, { accessFlags := 0, nameIndex := 50, descriptorIndex := 6, attributes := #[] }, { accessFlags := 0, nameIndex := 129, descriptorIndex := 61, attributes := #[] }, { accessFlags := 2, nameIndex := 53, descriptorIndex := 54, attributes := #[] }, { accessFlags := 10, nameIndex := 81, descriptorIndex := 82, attributes := #[] }, { accessFlags := 10, nameIndex := 85, descriptorIndex := 82, attributes := #[] }, { accessFlags := 10, nameIndex := 88, descriptorIndex := 82, attributes := #[] }] 48 2 #[] #[{ accessFlags := 24, nameIndex := 119, descriptorIndex := 120, attributes := #[] }, { accessFlags := 26, nameIndex := 95, descriptorIndex := 96, attributes := #[] }, { accessFlags := 26, nameIndex := 57, descriptorIndex := 21, attributes := #[] }, { accessFlags := 2, nameIndex := 20, descriptorIndex := 21, attributes := #[] }, { accessFlags := 2, nameIndex := 24, descriptorIndex := 25, attributes := #[] }, { accessFlags := 2, nameIndex := 28, descriptorIndex := 25, attributes := #[] }, { accessFlags := 2, nameIndex := 31, descriptorIndex := 25, attributes := #[] }, { accessFlags := 2, nameIndex := 34, descriptorIndex := 25, attributes := #[] }, { accessFlags := 2, nameIndex := 37, descriptorIndex := 25, attributes := #[] }, { accessFlags := 2, nameIndex := 40, descriptorIndex := 25, attributes := #[] }, { accessFlags := 2, nameIndex := 43, descriptorIndex := 25, attributes := #[] }])
  fields := #[{ name := "INVALID", type := (.object "java/lang/String"), accessFlags := 24, slot := 0, constantValue := 0 }, { name := "SAFE_SCHEMES", type := (.array .long), accessFlags := 26, slot := 1, constantValue := 0 }, { name := "JAVASCRIPT", type := .long, accessFlags := 26, slot := 2, constantValue := 0 }, { name := "start", type := .long, accessFlags := 2, slot := 0, constantValue := 0 }, { name := "begun", type := .boolean, accessFlags := 2, slot := 1, constantValue := 0 }, { name := "schemeLike", type := .boolean, accessFlags := 2, slot := 2, constantValue := 0 }, { name := "delimited", type := .boolean, accessFlags := 2, slot := 3, constantValue := 0 }, { name := "query", type := .boolean, accessFlags := 2, slot := 4, constantValue := 0 }, { name := "reference", type := .boolean, accessFlags := 2, slot := 5, constantValue := 0 }, { name := "holding", type := .boolean, accessFlags := 2, slot := 6, constantValue := 0 }, { name := "referenceOpen", type := .boolean, accessFlags := 2, slot := 7, constantValue := 0 }]
  methods := #[k2m0, k2m1, k2m2, k2m3, k2m4, k2m5, k2m6, k2m7, k2m8, k2m9]
  instanceTypes := #[.long, .boolean, .boolean, .boolean, .boolean, .boolean, .boolean, .boolean]
  staticTypes := #[(.object "java/lang/String"), (.array .long), .long]
  resolved := Array.replicate 133 none
  statics := none }

def pool3 : Array CpInfo := pool [(2, .class_ 4), (1, u "java/lang/Object"), (0, u "<init>"), (0, u "()V"), (0, .methodref 8 9), (0, .class_ 10), (0, .nameAndType 11 12), (0, u "com/example/plantilla/plantilla/PackedName"), (0, u "codeOf"), (0, u "(C)I"), (0, .long 18014398509481984), (1, .long 18446744073709551615), (13, u "appended"), (0, u "(JC)J"), (4, u "LONGEST"), (0, u "I"), (2, u "OTHER"), (0, u "J"), (0, u "EMPTY")] 13

def k3m0 : Method := { name := "<init>", desc := "()V", sig := { parameters := [], returnType := none }, accessFlags := 2, code := none }
def k3c1 : Code := { maxStack := 4, maxLocals := 6, code := prog_35_method_2_code, exceptionTable := #[], attributes := #[] }
def k3m1 : Method := { name := "appended", desc := "(JC)J", sig := { parameters := [.long, .char], returnType := some .long }, accessFlags := 8, code := some k3c1 }
def k3c2 : Code := { maxStack := 2, maxLocals := 2, code := prog_35_method_5_code, exceptionTable := #[], attributes := #[] }
def k3m2 : Method := { name := "codeOf", desc := "(C)I", sig := { parameters := [.char], returnType := some .int }, accessFlags := 10, code := some k3c2 }
/-- com/example/plantilla/plantilla/PackedName -/
def k3 : Class := { plain "com/example/plantilla/plantilla/PackedName" (some 0) with
  accessFlags := 48
  interfaces := #[]
  cf := some (fileOf pool3 8 #[] #[{ accessFlags := 2, nameIndex := 5, descriptorIndex := 6, attributes := #[] }, { accessFlags := 8, nameIndex := 29, descriptorIndex := 30, attributes := #[] }, { accessFlags := 10, nameIndex := 11, descriptorIndex := 12, attributes := #[] }] 48 2 #[] #[{ accessFlags := 24, nameIndex := 35, descriptorIndex := 36, attributes := #[] }, { accessFlags := 24, nameIndex := 39, descriptorIndex := 40, attributes := #[] }, { accessFlags := 24, nameIndex := 41, descriptorIndex := 40, attributes := #[] }])
  fields := #[{ name := "LONGEST", type := .int, accessFlags := 24, slot := 0, constantValue := 0 }, { name := "OTHER", type := .long, accessFlags := 24, slot := 1, constantValue := 0 }, { name := "EMPTY", type := .long, accessFlags := 24, slot := 2, constantValue := 0 }]
  methods := #[k3m0, k3m1, k3m2]
  instanceTypes := #[]
  staticTypes := #[.int, .long, .long]
  resolved := Array.replicate 55 none
  statics := none }

def pool4 : Array CpInfo := pool [(1, .class_ 2), (0, u "java/io/Serializable"), (0, .class_ 4), (0, u "java/lang/Object")] 2

/-- java/io/Serializable -/
def k4 : Class := { plain "java/io/Serializable" (some 0) with
  accessFlags := 1537
  interfaces := #[]
  cf := some (fileOf pool4 1 #[] #[] 1537 3 #[] #[])
  fields := #[]
  methods := #[]
  instanceTypes := #[]
  staticTypes := #[]
  resolved := Array.replicate 7 none
  statics := none }

def pool5 : Array CpInfo := pool [(1, .class_ 2), (0, u "java/lang/Comparable"), (0, .class_ 4), (0, u "java/lang/Object")] 7

/-- java/lang/Comparable -/
def k5 : Class := { plain "java/lang/Comparable" (some 0) with
  accessFlags := 1537
  interfaces := #[]
  cf := some (fileOf pool5 1 #[] #[] 1537 3 #[] #[])
  fields := #[]
  methods := #[]
  instanceTypes := #[]
  staticTypes := #[]
  resolved := Array.replicate 12 none
  statics := none }

def pool6 : Array CpInfo := pool [(2, .class_ 4), (1, u "java/lang/CharSequence"), (42, .class_ 48), (0, u "java/lang/CharSequence$1CodePointIterator"), (10, .class_ 60), (0, u "java/lang/CharSequence$1CharIterator"), (5, .class_ 67), (0, u "java/lang/Object")] 63

/-- java/lang/CharSequence -/
def k6 : Class := { plain "java/lang/CharSequence" (some 0) with
  accessFlags := 1537
  interfaces := #[]
  cf := some (fileOf pool6 2 #[.nestMembers #[47, 59]] #[] 1537 66 #[] #[])
  fields := #[]
  methods := #[]
  instanceTypes := #[]
  staticTypes := #[]
  resolved := Array.replicate 131 none
  statics := none }

def pool7 : Array CpInfo := pool [(1, .class_ 2), (0, u "java/lang/constant/Constable"), (0, .class_ 4), (0, u "java/lang/Object")] 6

/-- java/lang/constant/Constable -/
def k7 : Class := { plain "java/lang/constant/Constable" (some 0) with
  accessFlags := 1537
  interfaces := #[]
  cf := some (fileOf pool7 1 #[] #[] 1537 3 #[] #[])
  fields := #[]
  methods := #[]
  instanceTypes := #[]
  staticTypes := #[]
  resolved := Array.replicate 11 none
  statics := none }

def pool8 : Array CpInfo := pool [(1, .class_ 2), (0, u "java/lang/constant/ConstantDesc"), (0, .class_ 4), (0, u "java/lang/Object")] 32

/-- java/lang/constant/ConstantDesc -/
def k8 : Class := { plain "java/lang/constant/ConstantDesc" (some 0) with
  accessFlags := 1537
  interfaces := #[]
  cf := some (fileOf pool8 1 #[] #[] 1537 3 #[] #[])
  fields := #[]
  methods := #[]
  instanceTypes := #[]
  staticTypes := #[]
  resolved := Array.replicate 37 none
  statics := none }

def pool9 : Array CpInfo := pool [(1, .methodref 2 3), (0, .class_ 4), (0, .nameAndType 5 6), (0, u "java/lang/Object"), (0, u "<init>"), (0, u "()V"), (2, .fieldref 10 11), (0, .class_ 12), (0, .nameAndType 13 14), (0, u "java/lang/String"), (0, u "value"), (0, u "[B"), (0, .fieldref 10 16), (0, .nameAndType 17 18), (0, u "coder"), (0, u "B"), (2, u "hash"), (0, u "I"), (2, u "hashIsZero"), (0, u "Z"), (11, .fieldref 10 39), (0, .nameAndType 40 26), (0, u "COMPACT_STRINGS"), (12, u "toBytes"), (53, .class_ 109), (1, u "java/lang/StringLatin1"), (32, u "()Z"), (66, .methodref 10 210), (0, .nameAndType 5 211), (0, u "([BB)V"), (122, u "()I"), (0, .methodref 10 336), (0, .nameAndType 17 337), (0, u "()B"), (25, u "([BI)C"), (5, u "(C)Z"), (21, u "(II)V"), (35, u "(I)C"), (64, .methodref 10 493), (0, .nameAndType 494 142), (0, u "isLatin1"), (0, .methodref 107 496), (0, .nameAndType 497 363), (0, u "charAt"), (3, u "checkIndex"), (5, u "length"), (67, .class_ 576), (0, u "java/lang/CharSequence"), (22, u "CASE_INSENSITIVE_ORDER"), (0, u "Ljava/util/Comparator;"), (181, u "valueOf"), (0, u "(C)Ljava/lang/String;"), (231, .methodref 107 1016), (0, .nameAndType 1017 369), (0, u "canEncode"), (0, .methodref 107 1019), (0, .nameAndType 53 1020), (0, u "(C)[B"), (32, .fieldref 1054 1055), (0, .class_ 1056), (0, .nameAndType 1057 1058), (0, u "jdk/internal/util/Preconditions"), (0, u "SIOOBE_FORMATTER"), (0, u "Ljava/util/function/BiFunction;"), (0, .methodref 1054 1060), (0, .nameAndType 501 1061), (0, u "(IILjava/util/function/BiFunction;)I"), (39, u "serialPersistentFields"), (0, u "[Ljava/io/ObjectStreamField;"), (0, .class_ 1104), (0, u "java/lang/String$CaseInsensitiveComparator"), (1, .class_ 1107), (0, u "java/io/Serializable"), (0, .class_ 1109), (0, u "java/lang/Comparable"), (0, .class_ 1111), (0, u "java/lang/constant/Constable"), (0, .class_ 1113), (0, u "java/lang/constant/ConstantDesc"), (2, u "serialVersionUID"), (0, u "J"), (3, u "REPL"), (0, u "C"), (2, u "LATIN1"), (1, u "UTF16")] 323

def k9m0 : Method := { name := "<init>", desc := "()V", sig := { parameters := [], returnType := none }, accessFlags := 1, code := none }
def k9c1 : Code := { maxStack := 2, maxLocals := 1, code := jdk_42_method_54_code, exceptionTable := #[], attributes := #[] }
def k9m1 : Method := { name := "length", desc := "()I", sig := { parameters := [], returnType := some .int }, accessFlags := 1, code := some k9c1 }
def k9c2 : Code := { maxStack := 2, maxLocals := 2, code := jdk_42_method_56_code, exceptionTable := #[], attributes := #[] }
def k9m2 : Method := { name := "charAt", desc := "(I)C", sig := { parameters := [.int], returnType := some .char }, accessFlags := 1, code := some k9c2 }
def k9c3 : Code := { maxStack := 4, maxLocals := 1, code := jdk_42_method_139_code, exceptionTable := #[], attributes := #[] }
def k9m3 : Method := { name := "valueOf", desc := "(C)Ljava/lang/String;", sig := { parameters := [.char], returnType := some (.object "java/lang/String") }, accessFlags := 9, code := some k9c3 }
def k9c4 : Code := { maxStack := 2, maxLocals := 3, code := jdk_42_method_151_code, exceptionTable := #[], attributes := #[] }
def k9m4 : Method := { name := "<init>", desc := "([BB)V", sig := { parameters := [(.array .byte), .byte], returnType := none }, accessFlags := 0, code := some k9c4 }
def k9c5 : Code := { maxStack := 1, maxLocals := 1, code := jdk_42_method_152_code, exceptionTable := #[], attributes := #[] }
def k9m5 : Method := { name := "coder", desc := "()B", sig := { parameters := [], returnType := some .byte }, accessFlags := 0, code := some k9c5 }
def k9c6 : Code := { maxStack := 1, maxLocals := 1, code := jdk_42_method_154_code, exceptionTable := #[], attributes := #[] }
def k9m6 : Method := { name := "isLatin1", desc := "()Z", sig := { parameters := [], returnType := some .boolean }, accessFlags := 0, code := some k9c6 }
def k9c7 : Code := { maxStack := 3, maxLocals := 2, code := jdk_42_method_155_code, exceptionTable := #[], attributes := #[] }
def k9m7 : Method := { name := "checkIndex", desc := "(II)V", sig := { parameters := [.int, .int], returnType := none }, accessFlags := 8, code := some k9c7 }
/-- java/lang/String -/
def k9 : Class := { plain "java/lang/String" (some 0) with
  accessFlags := 49
  interfaces := #[4, 5, 6, 7, 8]
  cf := some (fileOf pool9 10 #[.nestMembers #[1103]] #[{ accessFlags := 1, nameIndex := 5, descriptorIndex := 6, attributes := #[] }, { accessFlags := 1, nameIndex := 507, descriptorIndex := 334, attributes := #[] }, { accessFlags := 1, nameIndex := 497, descriptorIndex := 427, attributes := #[] }, { accessFlags := 9, nameIndex := 782, descriptorIndex := 783, attributes := #[] }, { accessFlags := 0, nameIndex := 5, descriptorIndex := 211, attributes := #[] }, { accessFlags := 0, nameIndex := 17, descriptorIndex := 337, attributes := #[] }, { accessFlags := 0, nameIndex := 494, descriptorIndex := 142, attributes := #[] }, { accessFlags := 8, nameIndex := 501, descriptorIndex := 391, attributes := #[] }] 49 2 #[1106, 1108, 575, 1110, 1112] #[{ accessFlags := 18, nameIndex := 13, descriptorIndex := 14, attributes := #[] }, { accessFlags := 18, nameIndex := 17, descriptorIndex := 18, attributes := #[] }, { accessFlags := 2, nameIndex := 21, descriptorIndex := 22, attributes := #[] }, { accessFlags := 2, nameIndex := 25, descriptorIndex := 26, attributes := #[] }, { accessFlags := 26, nameIndex := 1116, descriptorIndex := 1117, attributes := #[] }, { accessFlags := 24, nameIndex := 40, descriptorIndex := 26, attributes := #[] }, { accessFlags := 26, nameIndex := 1101, descriptorIndex := 1102, attributes := #[] }, { accessFlags := 26, nameIndex := 1121, descriptorIndex := 1122, attributes := #[] }, { accessFlags := 25, nameIndex := 599, descriptorIndex := 600, attributes := #[] }, { accessFlags := 24, nameIndex := 1125, descriptorIndex := 18, attributes := #[] }, { accessFlags := 24, nameIndex := 1127, descriptorIndex := 18, attributes := #[] }])
  fields := #[{ name := "value", type := (.array .byte), accessFlags := 18, slot := 0, constantValue := 0 }, { name := "coder", type := .byte, accessFlags := 18, slot := 1, constantValue := 0 }, { name := "hash", type := .int, accessFlags := 2, slot := 2, constantValue := 0 }, { name := "hashIsZero", type := .boolean, accessFlags := 2, slot := 3, constantValue := 0 }, { name := "serialVersionUID", type := .long, accessFlags := 26, slot := 0, constantValue := 0 }, { name := "COMPACT_STRINGS", type := .boolean, accessFlags := 24, slot := 1, constantValue := 0 }, { name := "serialPersistentFields", type := (.array (.object "java/io/ObjectStreamField")), accessFlags := 26, slot := 2, constantValue := 0 }, { name := "REPL", type := .char, accessFlags := 26, slot := 3, constantValue := 0 }, { name := "CASE_INSENSITIVE_ORDER", type := (.object "java/util/Comparator"), accessFlags := 25, slot := 4, constantValue := 0 }, { name := "LATIN1", type := .byte, accessFlags := 24, slot := 5, constantValue := 0 }, { name := "UTF16", type := .byte, accessFlags := 24, slot := 6, constantValue := 0 }]
  methods := #[k9m0, k9m1, k9m2, k9m3, k9m4, k9m5, k9m6, k9m7]
  instanceTypes := #[(.array .byte), .byte, .int, .boolean]
  staticTypes := #[.long, .boolean, (.array (.object "java/io/ObjectStreamField")), .char, (.object "java/util/Comparator"), .byte, .byte]
  resolved := Array.replicate 1451 none
  statics := some 0 }

def pool10 : Array CpInfo := pool [(1, .class_ 2), (0, u "java/lang/String"), (1, .class_ 6), (1, u "java/lang/Object"), (0, u "<init>"), (0, u "()V"), (0, .methodref 1 10), (0, .nameAndType 11 12), (0, u "checkIndex"), (0, u "(II)V"), (1, .class_ 16), (1, u "java/lang/StringLatin1"), (36, u "([BI)C"), (36, u "canEncode"), (14, u "(C)Z"), (15, u "$assertionsDisabled"), (0, u "Z"), (98, .class_ 223), (1, u "java/lang/StringLatin1$LinesSpliterator"), (28, u "charAt"), (127, u "toBytes"), (1, u "(C)[B"), (7, .class_ 391), (0, u "java/lang/StringLatin1$CharsSpliterator")] 3

def k10m0 : Method := { name := "<init>", desc := "()V", sig := { parameters := [], returnType := none }, accessFlags := 0, code := none }
def k10c1 : Code := { maxStack := 2, maxLocals := 2, code := jdk_43_method_2_code, exceptionTable := #[], attributes := #[] }
def k10m1 : Method := { name := "charAt", desc := "([BI)C", sig := { parameters := [(.array .byte), .int], returnType := some .char }, accessFlags := 9, code := some k10c1 }
def k10c2 : Code := { maxStack := 2, maxLocals := 1, code := jdk_43_method_3_code, exceptionTable := #[], attributes := #[] }
def k10m2 : Method := { name := "canEncode", desc := "(C)Z", sig := { parameters := [.char], returnType := some .boolean }, accessFlags := 9, code := some k10c2 }
def k10c3 : Code := { maxStack := 4, maxLocals := 1, code := jdk_43_method_46_code, exceptionTable := #[], attributes := #[] }
def k10m3 : Method := { name := "toBytes", desc := "(C)[B", sig := { parameters := [.char], returnType := some (.array .byte) }, accessFlags := 9, code := some k10c3 }
/-- java/lang/StringLatin1 -/
def k10 : Class := { plain "java/lang/StringLatin1" (some 0) with
  accessFlags := 48
  interfaces := #[]
  cf := some (fileOf pool10 14 #[.nestMembers #[390, 221]] #[{ accessFlags := 0, nameIndex := 7, descriptorIndex := 8, attributes := #[] }, { accessFlags := 9, nameIndex := 252, descriptorIndex := 53, attributes := #[] }, { accessFlags := 9, nameIndex := 90, descriptorIndex := 105, attributes := #[] }, { accessFlags := 9, nameIndex := 380, descriptorIndex := 382, attributes := #[] }] 48 4 #[] #[{ accessFlags := 4120, nameIndex := 121, descriptorIndex := 122, attributes := #[] }])
  fields := #[{ name := "$assertionsDisabled", type := .boolean, accessFlags := 4120, slot := 0, constantValue := 0 }]
  methods := #[k10m0, k10m1, k10m2, k10m3]
  instanceTypes := #[]
  staticTypes := #[.boolean]
  resolved := Array.replicate 395 none
  statics := none }

def pool11 : Array CpInfo := pool [(2, .class_ 4), (1, u "java/lang/Object"), (0, u "<init>"), (0, u "()V"), (17, .class_ 26), (1, u "jdk/internal/util/Preconditions"), (6, u "checkIndex"), (21, .class_ 56), (0, u "jdk/internal/util/Preconditions$4"), (57, .class_ 115), (0, u "jdk/internal/util/Preconditions$1"), (7, u "SIOOBE_FORMATTER"), (0, u "Ljava/util/function/BiFunction;"), (0, .class_ 126), (0, u "jdk/internal/util/Preconditions$2"), (3, u "AIOOBE_FORMATTER"), (0, .class_ 132), (0, u "jdk/internal/util/Preconditions$3"), (3, u "IOOBE_FORMATTER"), (41, u "(IILjava/util/function/BiFunction;)I")] 15

def k11m0 : Method := { name := "<init>", desc := "()V", sig := { parameters := [], returnType := none }, accessFlags := 1, code := none }
def k11c1 : Code := { maxStack := 3, maxLocals := 3, code := jdk_41_method_11_code, exceptionTable := #[], attributes := #[] }
def k11m1 : Method := { name := "checkIndex", desc := "(IILjava/util/function/BiFunction;)I", sig := { parameters := [.int, .int, (.object "java/util/function/BiFunction")], returnType := some .int }, accessFlags := 9, code := some k11c1 }
/-- jdk/internal/util/Preconditions -/
def k11 : Class := { plain "jdk/internal/util/Preconditions" (some 0) with
  accessFlags := 33
  interfaces := #[]
  cf := some (fileOf pool11 24 #[.nestMembers #[55, 131, 125, 114]] #[{ accessFlags := 1, nameIndex := 5, descriptorIndex := 6, attributes := #[] }, { accessFlags := 9, nameIndex := 33, descriptorIndex := 178, attributes := #[] }] 33 2 #[] #[{ accessFlags := 25, nameIndex := 123, descriptorIndex := 124, attributes := #[] }, { accessFlags := 25, nameIndex := 130, descriptorIndex := 124, attributes := #[] }, { accessFlags := 25, nameIndex := 136, descriptorIndex := 124, attributes := #[] }])
  fields := #[{ name := "SIOOBE_FORMATTER", type := (.object "java/util/function/BiFunction"), accessFlags := 25, slot := 0, constantValue := 0 }, { name := "AIOOBE_FORMATTER", type := (.object "java/util/function/BiFunction"), accessFlags := 25, slot := 1, constantValue := 0 }, { name := "IOOBE_FORMATTER", type := (.object "java/util/function/BiFunction"), accessFlags := 25, slot := 2, constantValue := 0 }]
  methods := #[k11m0, k11m1]
  instanceTypes := #[]
  staticTypes := #[(.object "java/util/function/BiFunction"), (.object "java/util/function/BiFunction"), (.object "java/util/function/BiFunction")]
  resolved := Array.replicate 194 none
  statics := some 1 }

def pool12 : Array CpInfo := pool [(9, u "<init>"), (6, .class_ 18), (1, u "java/lang/Object"), (0, u "()V"), (1, .class_ 23), (1, u "jdk/internal/util/ArraysSupport"), (0, u "LOG2_ARRAY_LONG_INDEX_SCALE"), (0, u "I"), (2, u "U"), (0, u "Ljdk/internal/misc/Unsafe;"), (8, u "BIG_ENDIAN"), (0, u "Z"), (8, u "LOG2_BYTE_BIT_SIZE"), (4, u "LOG2_ARRAY_INT_INDEX_SCALE"), (54, u "JLA"), (0, u "Ljdk/internal/access/JavaLangAccess;"), (11, u "LOG2_ARRAY_BOOLEAN_INDEX_SCALE"), (9, u "LOG2_ARRAY_BYTE_INDEX_SCALE"), (5, u "LOG2_ARRAY_CHAR_INDEX_SCALE"), (5, u "LOG2_ARRAY_SHORT_INDEX_SCALE"), (18, u "LOG2_ARRAY_FLOAT_INDEX_SCALE"), (24, u "LOG2_ARRAY_DOUBLE_INDEX_SCALE"), (89, u "T_BOOLEAN"), (2, u "T_CHAR"), (1, u "T_FLOAT"), (1, u "T_DOUBLE"), (1, u "T_BYTE"), (1, u "T_SHORT"), (1, u "T_INT"), (1, u "T_LONG"), (1, u "SOFT_MAX_ARRAY_LENGTH")] 83

def k12m0 : Method := { name := "<init>", desc := "()V", sig := { parameters := [], returnType := none }, accessFlags := 2, code := none }
/-- jdk/internal/util/ArraysSupport -/
def k12 : Class := { plain "jdk/internal/util/ArraysSupport" (some 0) with
  accessFlags := 33
  interfaces := #[]
  cf := some (fileOf pool12 21 #[] #[{ accessFlags := 2, nameIndex := 9, descriptorIndex := 19, attributes := #[] }] 33 16 #[] #[{ accessFlags := 24, nameIndex := 28, descriptorIndex := 29, attributes := #[] }, { accessFlags := 26, nameIndex := 38, descriptorIndex := 39, attributes := #[] }, { accessFlags := 25, nameIndex := 121, descriptorIndex := 25, attributes := #[] }, { accessFlags := 25, nameIndex := 131, descriptorIndex := 25, attributes := #[] }, { accessFlags := 25, nameIndex := 137, descriptorIndex := 25, attributes := #[] }, { accessFlags := 25, nameIndex := 143, descriptorIndex := 25, attributes := #[] }, { accessFlags := 25, nameIndex := 53, descriptorIndex := 25, attributes := #[] }, { accessFlags := 25, nameIndex := 24, descriptorIndex := 25, attributes := #[] }, { accessFlags := 25, nameIndex := 162, descriptorIndex := 25, attributes := #[] }, { accessFlags := 25, nameIndex := 187, descriptorIndex := 25, attributes := #[] }, { accessFlags := 26, nameIndex := 48, descriptorIndex := 25, attributes := #[] }, { accessFlags := 25, nameIndex := 277, descriptorIndex := 25, attributes := #[] }, { accessFlags := 25, nameIndex := 280, descriptorIndex := 25, attributes := #[] }, { accessFlags := 25, nameIndex := 282, descriptorIndex := 25, attributes := #[] }, { accessFlags := 25, nameIndex := 284, descriptorIndex := 25, attributes := #[] }, { accessFlags := 25, nameIndex := 286, descriptorIndex := 25, attributes := #[] }, { accessFlags := 25, nameIndex := 288, descriptorIndex := 25, attributes := #[] }, { accessFlags := 25, nameIndex := 290, descriptorIndex := 25, attributes := #[] }, { accessFlags := 25, nameIndex := 292, descriptorIndex := 25, attributes := #[] }, { accessFlags := 26, nameIndex := 108, descriptorIndex := 109, attributes := #[] }, { accessFlags := 25, nameIndex := 294, descriptorIndex := 25, attributes := #[] }])
  fields := #[{ name := "U", type := (.object "jdk/internal/misc/Unsafe"), accessFlags := 24, slot := 0, constantValue := 0 }, { name := "BIG_ENDIAN", type := .boolean, accessFlags := 26, slot := 1, constantValue := 0 }, { name := "LOG2_ARRAY_BOOLEAN_INDEX_SCALE", type := .int, accessFlags := 25, slot := 2, constantValue := 0 }, { name := "LOG2_ARRAY_BYTE_INDEX_SCALE", type := .int, accessFlags := 25, slot := 3, constantValue := 0 }, { name := "LOG2_ARRAY_CHAR_INDEX_SCALE", type := .int, accessFlags := 25, slot := 4, constantValue := 0 }, { name := "LOG2_ARRAY_SHORT_INDEX_SCALE", type := .int, accessFlags := 25, slot := 5, constantValue := 0 }, { name := "LOG2_ARRAY_INT_INDEX_SCALE", type := .int, accessFlags := 25, slot := 6, constantValue := 0 }, { name := "LOG2_ARRAY_LONG_INDEX_SCALE", type := .int, accessFlags := 25, slot := 7, constantValue := 0 }, { name := "LOG2_ARRAY_FLOAT_INDEX_SCALE", type := .int, accessFlags := 25, slot := 8, constantValue := 0 }, { name := "LOG2_ARRAY_DOUBLE_INDEX_SCALE", type := .int, accessFlags := 25, slot := 9, constantValue := 0 }, { name := "LOG2_BYTE_BIT_SIZE", type := .int, accessFlags := 26, slot := 10, constantValue := 0 }, { name := "T_BOOLEAN", type := .int, accessFlags := 25, slot := 11, constantValue := 0 }, { name := "T_CHAR", type := .int, accessFlags := 25, slot := 12, constantValue := 0 }, { name := "T_FLOAT", type := .int, accessFlags := 25, slot := 13, constantValue := 0 }, { name := "T_DOUBLE", type := .int, accessFlags := 25, slot := 14, constantValue := 0 }, { name := "T_BYTE", type := .int, accessFlags := 25, slot := 15, constantValue := 0 }, { name := "T_SHORT", type := .int, accessFlags := 25, slot := 16, constantValue := 0 }, { name := "T_INT", type := .int, accessFlags := 25, slot := 17, constantValue := 0 }, { name := "T_LONG", type := .int, accessFlags := 25, slot := 18, constantValue := 0 }, { name := "JLA", type := (.object "jdk/internal/access/JavaLangAccess"), accessFlags := 26, slot := 19, constantValue := 0 }, { name := "SOFT_MAX_ARRAY_LENGTH", type := .int, accessFlags := 25, slot := 20, constantValue := 0 }]
  methods := #[k12m0]
  instanceTypes := #[]
  staticTypes := #[(.object "jdk/internal/misc/Unsafe"), .boolean, .int, .int, .int, .int, .int, .int, .int, .int, .int, .int, .int, .int, .int, .int, .int, .int, .int, (.object "jdk/internal/access/JavaLangAccess"), .int]
  resolved := Array.replicate 378 none
  statics := none }

def pool13 : Array CpInfo := pool [(1, u "java/lang/Cloneable"), (0, .class_ 1), (0, u "java/lang/Object"), (0, .class_ 3)] 3

/-- java/lang/Cloneable -/
def k13 : Class := { plain "java/lang/Cloneable" (some 0) with
  accessFlags := 1537
  interfaces := #[]
  cf := some (fileOf pool13 2 #[] #[] 1537 4 #[] #[])
  fields := #[]
  methods := #[]
  instanceTypes := #[]
  staticTypes := #[]
  resolved := Array.replicate 8 none
  statics := none }

/-- the primitive byte -/
def k14 : Class := { plain "byte" none with kind := .primitive 'B', accessFlags := 0x411 }
/-- [B -/
def k15 : Class := { plain "[B" (some 0) with kind := .array 14 .byte, interfaces := #[13, 4], accessFlags := 1041 }

/-- the primitive int -/
def k16 : Class := { plain "int" none with kind := .primitive 'I', accessFlags := 0x411 }
/-- [I -/
def k17 : Class := { plain "[I" (some 0) with kind := .array 16 .int, interfaces := #[13, 4], accessFlags := 1041 }

def heap : Heap := #[{ cls := 9, slots := #[.long 0, .int 1, .null, .int 0, .null, .int 0, .int 0], vm := .statics 9 },
  { cls := 11, slots := #[.null, .null, .null], vm := .statics 11 }]
def classes : Array Class := #[k0, k1, k2, k3, k4, k5, k6, k7, k8, k9, k10, k11, k12, k13, k14, k15, k16, k17]
def interned : List (Array UInt16 × Addr) := []
def slotsUsed : Nat := 10
def theMethod : MethodId := ⟨1, 1⟩
def args0 : Array Value := #[.int 5, .int 7, .int 1, .int 2]
def aboutOver (below : List Frame) : State where
  vm := { classes := classes, interned := interned.toArray }
  heap := heap
  slotsUsed := slotsUsed
  threads := #[{ frames := .invoking theMethod args0 :: below }]
def below0 : List Frame := [.native { method := ⟨0, 0⟩, args := #[] }]
def about1 : State := aboutOver below0
def p0 : Program := .bare "" "" ""
def e0 : Env := launch0.env 0 0 0
theorem w_frames : about1.frames = Frame.invoking theMethod args0 :: below0 := rfl
set_option maxRecDepth 65536 in
theorem w_args : argsFit about1.vm theMethod args0 = true := by decide +kernel
set_option maxRecDepth 65536 in
theorem w_heap : heapFits about1 = true := by decide +kernel
set_option maxRecDepth 65536 in
theorem w_runnable : about1.curStatus? = some .runnable := by decide +kernel
set_option maxRecDepth 65536 in
theorem w_alone : about1.alone = true := by decide +kernel
set_option maxRecDepth 65536 in
theorem w_named : about1.methodNamed? x = some theMethod := by decide +kernel
set_option maxRecDepth 65536 in
theorem w_hears : about1.hears theMethod below0 = true := by decide +kernel
set_option maxRecDepth 65536 in
theorem w_ripe : about1.ripe theMethod args0 below0 = true := by decide +kernel
theorem w_running : about1.status = .running := rfl
set_option maxRecDepth 65536 in
theorem w_room : about1.hasRoom e0.platform room_1 = true :=
  launch0.hasRoom_least _ room_1 (by decide +kernel) (by decide +kernel) (by decide +kernel) (by decide +kernel) (by decide +kernel) (by decide +kernel)
theorem allAtoms_all (ts : List Jvm.Cond) (a : Array Jvm.Value) (st : Jvm.State) : (allAtoms ts).before a st = ts.all (fun c => c.before a st) := by
  induction ts with
  | nil => rfl
  | cons c t ih =>
    show (Jvm.Cond.and c (allAtoms t)).before a st = _
    rw [Jvm.Cond.before_and, ih, List.all_cons]
def words1 : List Jvm.Cond := Jvm.Cond.code x code maxLocals ret :: tables_1
/-- a 'code' word, met by the world's own term for the bytes: nothing is compared byte by byte -/
theorem code_word {y : MethodName} {bytes : ByteArray} {mx : Nat} {rt : Option FieldType} {a : Array Value} {s : State} {m : MethodId} {meth : Method} {c : Code} (h1 : s.methodNamed? y = some m) (h2 : s.vm.method? m = some meth) (h3 : meth.code = some c) (h4 : c.code = bytes)
    (h5 : (c.maxLocals == mx && c.exceptionTable.isEmpty && decide (c.maxStack ≤ mostOperands) && decide (meth.sig.returnType = rt) && !meth.locks && decide (parseMethodDescriptor y.desc = some meth.sig)) = true) : (Jvm.Cond.code y bytes mx rt).before a s = true := by
  simp only [Bool.and_eq_true, beq_iff_eq, Bool.not_eq_true', decide_eq_true_eq] at h5
  obtain ⟨⟨⟨⟨⟨g1, g2⟩, g3⟩, g4⟩, g5⟩, g6⟩ := h5
  simp [Cond.before, Cond.holds, Cond.value, h1, h2, h3, h4, g1, g2, g3, g4, g5, g6]
def isCode : Jvm.Cond → Bool
  | .code _ _ _ _ => true
  | _ => false
theorem all_split {L : List Jvm.Cond} {P : Jvm.Cond → Bool} (h1 : L.all (fun c => isCode c || P c) = true) (h2 : ∀ c ∈ L.filter isCode, P c = true) : L.all P = true := by
  refine List.all_eq_true.mpr fun c hc => ?_
  have h := List.all_eq_true.mp h1 c hc
  rcases Bool.eq_false_or_eq_true (isCode c) with hi | hi
  · exact h2 c (List.mem_filter.mpr ⟨hc, hi⟩)
  · simpa [hi] using h
set_option maxRecDepth 65536 in
theorem w_c0 : (Jvm.Cond.code x code maxLocals ret).before args0 about1 = true := code_word (m := ⟨1, 1⟩) (meth := k1m1) (c := k1c1) (by decide +kernel) rfl rfl rfl (by decide +kernel)
set_option maxRecDepth 65536 in
theorem w_c1 : (Jvm.Cond.code ({ cls := "com/example/plantilla/plantilla/UrlValueSameAsPinLaw", name := "letter", desc := "(I)C" } : Jvm.MethodName) method_3_code (1 : Nat) (Option.some Jvm.ClassFile.FieldType.char)).before args0 about1 = true := code_word (m := ⟨1, 2⟩) (meth := k1m2) (c := k1c2) (by decide +kernel) rfl rfl rfl (by decide +kernel)
set_option maxRecDepth 65536 in
theorem w_c2 : (Jvm.Cond.code ({ cls := "com/example/plantilla/plantilla/UrlValueSameAsPinLaw", name := "build", desc := "(IC)Lcom/example/plantilla/plantilla/UrlValue;" } : Jvm.MethodName) method_4_code (3 : Nat) (Option.some (Jvm.ClassFile.FieldType.object "com/example/plantilla/plantilla/UrlValue"))).before args0 about1 = true := code_word (m := ⟨1, 3⟩) (meth := k1m3) (c := k1c3) (by decide +kernel) rfl rfl rfl (by decide +kernel)
set_option maxRecDepth 65536 in
theorem w_c3 : (Jvm.Cond.code ({ cls := "com/example/plantilla/plantilla/UrlValue", name := "<init>", desc := "()V" } : Jvm.MethodName) prog_44_method_1_code (1 : Nat) (Option.none : Option Jvm.ClassFile.FieldType)).before args0 about1 = true := code_word (m := ⟨2, 0⟩) (meth := k2m0) (c := k2c0) (by decide +kernel) rfl rfl rfl (by decide +kernel)
set_option maxRecDepth 65536 in
theorem w_c4 : (Jvm.Cond.code ({ cls := "java/lang/Object", name := "<init>", desc := "()V" } : Jvm.MethodName) object_method_1_code (1 : Nat) (Option.none : Option Jvm.ClassFile.FieldType)).before args0 about1 = true := code_word (m := ⟨0, 0⟩) (meth := k0m0) (c := k0c0) (by decide +kernel) rfl rfl rfl (by decide +kernel)
set_option maxRecDepth 65536 in
theorem w_c5 : (Jvm.Cond.code ({ cls := "com/example/plantilla/plantilla/UrlValue", name := "reset", desc := "()V" } : Jvm.MethodName) prog_44_method_3_code (1 : Nat) (Option.none : Option Jvm.ClassFile.FieldType)).before args0 about1 = true := code_word (m := ⟨2, 1⟩) (meth := k2m1) (c := k2c1) (by decide +kernel) rfl rfl rfl (by decide +kernel)
set_option maxRecDepth 65536 in
theorem w_c6 : (Jvm.Cond.code ({ cls := "com/example/plantilla/plantilla/UrlValue", name := "read", desc := "(C)Z" } : Jvm.MethodName) prog_44_method_8_code (3 : Nat) (Option.some Jvm.ClassFile.FieldType.boolean)).before args0 about1 = true := code_word (m := ⟨2, 3⟩) (meth := k2m3) (c := k2c3) (by decide +kernel) rfl rfl rfl (by decide +kernel)
set_option maxRecDepth 65536 in
theorem w_c7 : (Jvm.Cond.code ({ cls := "com/example/plantilla/plantilla/UrlValue", name := "take", desc := "(CZ)Z" } : Jvm.MethodName) prog_44_method_13_code (5 : Nat) (Option.some Jvm.ClassFile.FieldType.boolean)).before args0 about1 = true := code_word (m := ⟨2, 6⟩) (meth := k2m6) (c := k2c6) (by decide +kernel) rfl rfl rfl (by decide +kernel)
set_option maxRecDepth 65536 in
theorem w_c8 : (Jvm.Cond.code ({ cls := "com/example/plantilla/plantilla/UrlValueSameAsPinLaw", name := "print", desc := "(II)I" } : Jvm.MethodName) method_5_code (3 : Nat) (Option.some Jvm.ClassFile.FieldType.int)).before args0 about1 = true := code_word (m := ⟨1, 4⟩) (meth := k1m4) (c := k1c4) (by decide +kernel) rfl rfl rfl (by decide +kernel)
set_option maxRecDepth 65536 in
theorem w_c9 : (Jvm.Cond.code ({ cls := "com/example/plantilla/plantilla/UrlValue", name := "sameAs", desc := "(Lcom/example/plantilla/plantilla/UrlValue;)Z" } : Jvm.MethodName) prog_44_method_4_code (2 : Nat) (Option.some Jvm.ClassFile.FieldType.boolean)).before args0 about1 = true := code_word (m := ⟨2, 2⟩) (meth := k2m2) (c := k2c2) (by decide +kernel) rfl rfl rfl (by decide +kernel)
set_option maxRecDepth 65536 in
theorem w_c10 : (Jvm.Cond.code ({ cls := "com/example/plantilla/plantilla/UrlValue", name := "voidHeldValue", desc := "()V" } : Jvm.MethodName) prog_44_method_10_code (1 : Nat) (Option.none : Option Jvm.ClassFile.FieldType)).before args0 about1 = true := code_word (m := ⟨2, 4⟩) (meth := k2m4) (c := k2c4) (by decide +kernel) rfl rfl rfl (by decide +kernel)
set_option maxRecDepth 65536 in
theorem w_c11 : (Jvm.Cond.code ({ cls := "com/example/plantilla/plantilla/UrlValue", name := "isAsciiLetter", desc := "(C)Z" } : Jvm.MethodName) prog_44_method_15_code (1 : Nat) (Option.some Jvm.ClassFile.FieldType.boolean)).before args0 about1 = true := code_word (m := ⟨2, 7⟩) (meth := k2m7) (c := k2c7) (by decide +kernel) rfl rfl rfl (by decide +kernel)
set_option maxRecDepth 65536 in
theorem w_c12 : (Jvm.Cond.code ({ cls := "com/example/plantilla/plantilla/PackedName", name := "appended", desc := "(JC)J" } : Jvm.MethodName) prog_35_method_2_code (6 : Nat) (Option.some Jvm.ClassFile.FieldType.long)).before args0 about1 = true := code_word (m := ⟨3, 1⟩) (meth := k3m1) (c := k3c1) (by decide +kernel) rfl rfl rfl (by decide +kernel)
set_option maxRecDepth 65536 in
theorem w_c13 : (Jvm.Cond.code ({ cls := "com/example/plantilla/plantilla/PackedName", name := "codeOf", desc := "(C)I" } : Jvm.MethodName) prog_35_method_5_code (2 : Nat) (Option.some Jvm.ClassFile.FieldType.int)).before args0 about1 = true := code_word (m := ⟨3, 2⟩) (meth := k3m2) (c := k3c2) (by decide +kernel) rfl rfl rfl (by decide +kernel)
set_option maxRecDepth 65536 in
theorem w_c14 : (Jvm.Cond.code ({ cls := "java/lang/String", name := "valueOf", desc := "(C)Ljava/lang/String;" } : Jvm.MethodName) jdk_42_method_139_code (1 : Nat) (Option.some (Jvm.ClassFile.FieldType.object "java/lang/String"))).before args0 about1 = true := code_word (m := ⟨9, 3⟩) (meth := k9m3) (c := k9c3) (by decide +kernel) rfl rfl rfl (by decide +kernel)
set_option maxRecDepth 65536 in
theorem w_c15 : (Jvm.Cond.code ({ cls := "java/lang/StringLatin1", name := "canEncode", desc := "(C)Z" } : Jvm.MethodName) jdk_43_method_3_code (1 : Nat) (Option.some Jvm.ClassFile.FieldType.boolean)).before args0 about1 = true := code_word (m := ⟨10, 2⟩) (meth := k10m2) (c := k10c2) (by decide +kernel) rfl rfl rfl (by decide +kernel)
set_option maxRecDepth 65536 in
theorem w_c16 : (Jvm.Cond.code ({ cls := "java/lang/StringLatin1", name := "toBytes", desc := "(C)[B" } : Jvm.MethodName) jdk_43_method_46_code (1 : Nat) (Option.some (Jvm.ClassFile.FieldType.array Jvm.ClassFile.FieldType.byte))).before args0 about1 = true := code_word (m := ⟨10, 3⟩) (meth := k10m3) (c := k10c3) (by decide +kernel) rfl rfl rfl (by decide +kernel)
set_option maxRecDepth 65536 in
theorem w_c17 : (Jvm.Cond.code ({ cls := "java/lang/String", name := "<init>", desc := "([BB)V" } : Jvm.MethodName) jdk_42_method_151_code (3 : Nat) (Option.none : Option Jvm.ClassFile.FieldType)).before args0 about1 = true := code_word (m := ⟨9, 4⟩) (meth := k9m4) (c := k9c4) (by decide +kernel) rfl rfl rfl (by decide +kernel)
set_option maxRecDepth 65536 in
theorem w_c18 : (Jvm.Cond.code ({ cls := "com/example/plantilla/plantilla/UrlValue", name := "written", desc := "(Ljava/lang/String;)Ljava/lang/String;" } : Jvm.MethodName) prog_44_method_11_code (6 : Nat) (Option.some (Jvm.ClassFile.FieldType.object "java/lang/String"))).before args0 about1 = true := code_word (m := ⟨2, 5⟩) (meth := k2m5) (c := k2c5) (by decide +kernel) rfl rfl rfl (by decide +kernel)
set_option maxRecDepth 65536 in
theorem w_c19 : (Jvm.Cond.code ({ cls := "java/lang/String", name := "length", desc := "()I" } : Jvm.MethodName) jdk_42_method_54_code (1 : Nat) (Option.some Jvm.ClassFile.FieldType.int)).before args0 about1 = true := code_word (m := ⟨9, 1⟩) (meth := k9m1) (c := k9c1) (by decide +kernel) rfl rfl rfl (by decide +kernel)
set_option maxRecDepth 65536 in
theorem w_c20 : (Jvm.Cond.code ({ cls := "java/lang/String", name := "coder", desc := "()B" } : Jvm.MethodName) jdk_42_method_152_code (1 : Nat) (Option.some Jvm.ClassFile.FieldType.byte)).before args0 about1 = true := code_word (m := ⟨9, 5⟩) (meth := k9m5) (c := k9c5) (by decide +kernel) rfl rfl rfl (by decide +kernel)
set_option maxRecDepth 65536 in
theorem w_c21 : (Jvm.Cond.code ({ cls := "java/lang/String", name := "charAt", desc := "(I)C" } : Jvm.MethodName) jdk_42_method_56_code (2 : Nat) (Option.some Jvm.ClassFile.FieldType.char)).before args0 about1 = true := code_word (m := ⟨9, 2⟩) (meth := k9m2) (c := k9c2) (by decide +kernel) rfl rfl rfl (by decide +kernel)
set_option maxRecDepth 65536 in
theorem w_c22 : (Jvm.Cond.code ({ cls := "java/lang/String", name := "isLatin1", desc := "()Z" } : Jvm.MethodName) jdk_42_method_154_code (1 : Nat) (Option.some Jvm.ClassFile.FieldType.boolean)).before args0 about1 = true := code_word (m := ⟨9, 6⟩) (meth := k9m6) (c := k9c6) (by decide +kernel) rfl rfl rfl (by decide +kernel)
set_option maxRecDepth 65536 in
theorem w_c23 : (Jvm.Cond.code ({ cls := "java/lang/StringLatin1", name := "charAt", desc := "([BI)C" } : Jvm.MethodName) jdk_43_method_2_code (2 : Nat) (Option.some Jvm.ClassFile.FieldType.char)).before args0 about1 = true := code_word (m := ⟨10, 1⟩) (meth := k10m1) (c := k10c1) (by decide +kernel) rfl rfl rfl (by decide +kernel)
set_option maxRecDepth 65536 in
theorem w_c24 : (Jvm.Cond.code ({ cls := "java/lang/String", name := "checkIndex", desc := "(II)V" } : Jvm.MethodName) jdk_42_method_155_code (2 : Nat) (Option.none : Option Jvm.ClassFile.FieldType)).before args0 about1 = true := code_word (m := ⟨9, 7⟩) (meth := k9m7) (c := k9c7) (by decide +kernel) rfl rfl rfl (by decide +kernel)
set_option maxRecDepth 65536 in
theorem w_c25 : (Jvm.Cond.code ({ cls := "jdk/internal/util/Preconditions", name := "checkIndex", desc := "(IILjava/util/function/BiFunction;)I" } : Jvm.MethodName) jdk_41_method_11_code (3 : Nat) (Option.some Jvm.ClassFile.FieldType.int)).before args0 about1 = true := code_word (m := ⟨11, 1⟩) (meth := k11m1) (c := k11c1) (by decide +kernel) rfl rfl rfl (by decide +kernel)
set_option maxRecDepth 65536 in
theorem w_c26 : (Jvm.Cond.code ({ cls := "com/example/plantilla/plantilla/UrlValue", name := "isSchemeCharacter", desc := "(C)Z" } : Jvm.MethodName) prog_44_method_17_code (1 : Nat) (Option.some Jvm.ClassFile.FieldType.boolean)).before args0 about1 = true := code_word (m := ⟨2, 9⟩) (meth := k2m9) (c := k2c9) (by decide +kernel) rfl rfl rfl (by decide +kernel)
set_option maxRecDepth 65536 in
theorem w_c27 : (Jvm.Cond.code ({ cls := "com/example/plantilla/plantilla/UrlValue", name := "isDigit", desc := "(C)Z" } : Jvm.MethodName) prog_44_method_16_code (1 : Nat) (Option.some Jvm.ClassFile.FieldType.boolean)).before args0 about1 = true := code_word (m := ⟨2, 8⟩) (meth := k2m8) (c := k2c8) (by decide +kernel) rfl rfl rfl (by decide +kernel)
def codes1 : List Jvm.Cond := [Jvm.Cond.code x code maxLocals ret, Jvm.Cond.code ({ cls := "com/example/plantilla/plantilla/UrlValueSameAsPinLaw", name := "letter", desc := "(I)C" } : Jvm.MethodName) method_3_code (1 : Nat) (Option.some Jvm.ClassFile.FieldType.char), Jvm.Cond.code ({ cls := "com/example/plantilla/plantilla/UrlValueSameAsPinLaw", name := "build", desc := "(IC)Lcom/example/plantilla/plantilla/UrlValue;" } : Jvm.MethodName) method_4_code (3 : Nat) (Option.some (Jvm.ClassFile.FieldType.object "com/example/plantilla/plantilla/UrlValue")), Jvm.Cond.code ({ cls := "com/example/plantilla/plantilla/UrlValue", name := "<init>", desc := "()V" } : Jvm.MethodName) prog_44_method_1_code (1 : Nat) (Option.none : Option Jvm.ClassFile.FieldType), Jvm.Cond.code ({ cls := "java/lang/Object", name := "<init>", desc := "()V" } : Jvm.MethodName) object_method_1_code (1 : Nat) (Option.none : Option Jvm.ClassFile.FieldType), Jvm.Cond.code ({ cls := "com/example/plantilla/plantilla/UrlValue", name := "reset", desc := "()V" } : Jvm.MethodName) prog_44_method_3_code (1 : Nat) (Option.none : Option Jvm.ClassFile.FieldType), Jvm.Cond.code ({ cls := "com/example/plantilla/plantilla/UrlValue", name := "read", desc := "(C)Z" } : Jvm.MethodName) prog_44_method_8_code (3 : Nat) (Option.some Jvm.ClassFile.FieldType.boolean), Jvm.Cond.code ({ cls := "com/example/plantilla/plantilla/UrlValue", name := "take", desc := "(CZ)Z" } : Jvm.MethodName) prog_44_method_13_code (5 : Nat) (Option.some Jvm.ClassFile.FieldType.boolean), Jvm.Cond.code ({ cls := "com/example/plantilla/plantilla/UrlValueSameAsPinLaw", name := "print", desc := "(II)I" } : Jvm.MethodName) method_5_code (3 : Nat) (Option.some Jvm.ClassFile.FieldType.int), Jvm.Cond.code ({ cls := "com/example/plantilla/plantilla/UrlValue", name := "sameAs", desc := "(Lcom/example/plantilla/plantilla/UrlValue;)Z" } : Jvm.MethodName) prog_44_method_4_code (2 : Nat) (Option.some Jvm.ClassFile.FieldType.boolean), Jvm.Cond.code ({ cls := "com/example/plantilla/plantilla/UrlValue", name := "voidHeldValue", desc := "()V" } : Jvm.MethodName) prog_44_method_10_code (1 : Nat) (Option.none : Option Jvm.ClassFile.FieldType), Jvm.Cond.code ({ cls := "com/example/plantilla/plantilla/UrlValue", name := "isAsciiLetter", desc := "(C)Z" } : Jvm.MethodName) prog_44_method_15_code (1 : Nat) (Option.some Jvm.ClassFile.FieldType.boolean), Jvm.Cond.code ({ cls := "com/example/plantilla/plantilla/PackedName", name := "appended", desc := "(JC)J" } : Jvm.MethodName) prog_35_method_2_code (6 : Nat) (Option.some Jvm.ClassFile.FieldType.long), Jvm.Cond.code ({ cls := "com/example/plantilla/plantilla/PackedName", name := "codeOf", desc := "(C)I" } : Jvm.MethodName) prog_35_method_5_code (2 : Nat) (Option.some Jvm.ClassFile.FieldType.int), Jvm.Cond.code ({ cls := "java/lang/String", name := "valueOf", desc := "(C)Ljava/lang/String;" } : Jvm.MethodName) jdk_42_method_139_code (1 : Nat) (Option.some (Jvm.ClassFile.FieldType.object "java/lang/String")), Jvm.Cond.code ({ cls := "java/lang/StringLatin1", name := "canEncode", desc := "(C)Z" } : Jvm.MethodName) jdk_43_method_3_code (1 : Nat) (Option.some Jvm.ClassFile.FieldType.boolean), Jvm.Cond.code ({ cls := "java/lang/StringLatin1", name := "toBytes", desc := "(C)[B" } : Jvm.MethodName) jdk_43_method_46_code (1 : Nat) (Option.some (Jvm.ClassFile.FieldType.array Jvm.ClassFile.FieldType.byte)), Jvm.Cond.code ({ cls := "java/lang/String", name := "<init>", desc := "([BB)V" } : Jvm.MethodName) jdk_42_method_151_code (3 : Nat) (Option.none : Option Jvm.ClassFile.FieldType), Jvm.Cond.code ({ cls := "com/example/plantilla/plantilla/UrlValue", name := "written", desc := "(Ljava/lang/String;)Ljava/lang/String;" } : Jvm.MethodName) prog_44_method_11_code (6 : Nat) (Option.some (Jvm.ClassFile.FieldType.object "java/lang/String")), Jvm.Cond.code ({ cls := "java/lang/String", name := "length", desc := "()I" } : Jvm.MethodName) jdk_42_method_54_code (1 : Nat) (Option.some Jvm.ClassFile.FieldType.int), Jvm.Cond.code ({ cls := "java/lang/String", name := "coder", desc := "()B" } : Jvm.MethodName) jdk_42_method_152_code (1 : Nat) (Option.some Jvm.ClassFile.FieldType.byte), Jvm.Cond.code ({ cls := "java/lang/String", name := "charAt", desc := "(I)C" } : Jvm.MethodName) jdk_42_method_56_code (2 : Nat) (Option.some Jvm.ClassFile.FieldType.char), Jvm.Cond.code ({ cls := "java/lang/String", name := "isLatin1", desc := "()Z" } : Jvm.MethodName) jdk_42_method_154_code (1 : Nat) (Option.some Jvm.ClassFile.FieldType.boolean), Jvm.Cond.code ({ cls := "java/lang/StringLatin1", name := "charAt", desc := "([BI)C" } : Jvm.MethodName) jdk_43_method_2_code (2 : Nat) (Option.some Jvm.ClassFile.FieldType.char), Jvm.Cond.code ({ cls := "java/lang/String", name := "checkIndex", desc := "(II)V" } : Jvm.MethodName) jdk_42_method_155_code (2 : Nat) (Option.none : Option Jvm.ClassFile.FieldType), Jvm.Cond.code ({ cls := "jdk/internal/util/Preconditions", name := "checkIndex", desc := "(IILjava/util/function/BiFunction;)I" } : Jvm.MethodName) jdk_41_method_11_code (3 : Nat) (Option.some Jvm.ClassFile.FieldType.int), Jvm.Cond.code ({ cls := "com/example/plantilla/plantilla/UrlValue", name := "isSchemeCharacter", desc := "(C)Z" } : Jvm.MethodName) prog_44_method_17_code (1 : Nat) (Option.some Jvm.ClassFile.FieldType.boolean), Jvm.Cond.code ({ cls := "com/example/plantilla/plantilla/UrlValue", name := "isDigit", desc := "(C)Z" } : Jvm.MethodName) prog_44_method_16_code (1 : Nat) (Option.some Jvm.ClassFile.FieldType.boolean)]
set_option maxRecDepth 65536 in
theorem codes_eq : words1.filter isCode = codes1 := rfl
theorem w_codes : ∀ c ∈ words1.filter isCode, c.before args0 about1 = true := by
  rw [codes_eq]
  intro c hc
  simp only [codes1, List.mem_cons, List.not_mem_nil, or_false] at hc
  rcases hc with rfl | rfl | rfl | rfl | rfl | rfl | rfl | rfl | rfl | rfl | rfl | rfl | rfl | rfl | rfl | rfl | rfl | rfl | rfl | rfl | rfl | rfl | rfl | rfl | rfl | rfl | rfl | rfl
  · exact w_c0
  · exact w_c1
  · exact w_c2
  · exact w_c3
  · exact w_c4
  · exact w_c5
  · exact w_c6
  · exact w_c7
  · exact w_c8
  · exact w_c9
  · exact w_c10
  · exact w_c11
  · exact w_c12
  · exact w_c13
  · exact w_c14
  · exact w_c15
  · exact w_c16
  · exact w_c17
  · exact w_c18
  · exact w_c19
  · exact w_c20
  · exact w_c21
  · exact w_c22
  · exact w_c23
  · exact w_c24
  · exact w_c25
  · exact w_c26
  · exact w_c27
set_option maxRecDepth 65536 in
theorem w_t1 : (words1.take 24).all (fun c => isCode c || c.before args0 about1) = true := by decide +kernel
set_option maxRecDepth 65536 in
theorem w_t2 : ((words1.drop 24).take 24).all (fun c => isCode c || c.before args0 about1) = true := by decide +kernel
set_option maxRecDepth 65536 in
theorem w_t3 : (((words1.drop 24).drop 24).take 24).all (fun c => isCode c || c.before args0 about1) = true := by decide +kernel
set_option maxRecDepth 65536 in
theorem w_t4 : ((((words1.drop 24).drop 24).drop 24).take 24).all (fun c => isCode c || c.before args0 about1) = true := by decide +kernel
set_option maxRecDepth 65536 in
theorem w_t5 : (((((words1.drop 24).drop 24).drop 24).drop 24).take 24).all (fun c => isCode c || c.before args0 about1) = true := by decide +kernel
set_option maxRecDepth 65536 in
theorem w_t6 : (((((words1.drop 24).drop 24).drop 24).drop 24).drop 24).all (fun c => isCode c || c.before args0 about1) = true := by decide +kernel
theorem w_tables : (allAtoms (Jvm.Cond.code x code maxLocals ret :: tables_1)).before args0 about1 = true := by
  rw [allAtoms_all]
  show words1.all (fun c => c.before args0 about1) = true
  refine all_split ?_ w_codes
  rw [← List.take_append_drop 24 words1, List.all_append, w_t1, ← List.take_append_drop 24 (words1.drop 24), List.all_append, w_t2, ← List.take_append_drop 24 ((words1.drop 24).drop 24), List.all_append, w_t3, ← List.take_append_drop 24 (((words1.drop 24).drop 24).drop 24), List.all_append, w_t4, ← List.take_append_drop 24 ((((words1.drop 24).drop 24).drop 24).drop 24), List.all_append, w_t5, w_t6]
  rfl
set_option maxRecDepth 65536 in
theorem w_rest : rest_1_c.before args0 about1 = true := by decide +kernel
set_option maxRecDepth 65536 in
theorem w_case : (Jvm.Cond.and given_1 narrow_1).before args0 about1 = true := by decide +kernel
set_option maxRecDepth 65536 in
theorem w_consts : constsHeld consts_1 about1 := Jvm.Lit.constsHeldB_iff.mp (by decide +kernel)
theorem w_applies : (headSpec (Jvm.Cond.code x code maxLocals ret :: tables_1) room_1).applies x e0.platform about1 = true :=
  (Spec.applies_iff w_frames).mpr ⟨w_running, w_runnable, w_alone, w_named, w_hears, w_ripe, w_room, w_tables⟩
theorem atStart : AtStart classFile x code maxLocals ret World_1 tables_1 room_1 Calls_1 rest_1 Pre_1 launch0 p0 e0 about1 theMethod args0 below0 :=
  ⟨lists_1, trivial, launch0.admits_env _ _ _, launch0.least_env, fairChoices_fair.cas, fairChoices_fair.clock, w_frames, w_args, w_heap, w_applies, ⟨w_consts, trivial⟩, w_rest, w_case⟩
end start1
theorem witness_1 : WitnessClaimed_1 := ⟨start1.p0, start1.e0, start1.about1, start1.theMethod, start1.args0, start1.below0, start1.atStart⟩
end Jvm.Pilot.@@N@@
