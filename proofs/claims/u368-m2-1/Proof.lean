import JvmDerived
import JvmDerived.Pilot.@@N@@Statement
import JvmDerived.Pilot.@@N@@Code
set_option linter.unusedVariables false
set_option linter.unusedSimpArgs false
@@BLOCK:HandJ.lean.txt@@
@@BLOCK:SymMore.lean.txt@@
namespace Jvm.Pilot.@@N@@
open Jvm Jvm.ClassFile Sem Op Lib Jvm.Free Jvm.Stand Jvm.LawKit Jvm.RoadKit Bundle Jvm.Pilot.@@N@@.Jvm.D
/-! ## the common layer: a run that comes to an end of which Q speaks, step by step backwards -/
def Go (p : Program) (e : Env) (below : List Frame) (Q : Outcome → State → Prop) (S : State) : Prop :=
  ∃ s₂ o, Steps p.tables e below S s₂ ∧ s₂.status = .running ∧ Ended s₂ below o ∧ Q o s₂
theorem Go.back {p : Program} {e : Env} {below : List Frame} {Q : Outcome → State → Prop} {A B : State} (k : ∀ t, Steps p.tables e below B t → Steps p.tables e below A t) (h : Go p e below Q B) : Go p e below Q A := by
  obtain ⟨t, o, h1, h2⟩ := h
  exact ⟨t, o, k _ h1, h2⟩
theorem Go.cast {p : Program} {e : Env} {below : List Frame} {Q : Outcome → State → Prop} {A B : State} (k : A = B) (h : Go p e below Q B) : Go p e below Q A := k ▸ h
abbrev jv (x : Int64) : Slot := .val (.long x)
abbrev dv (x : UInt64) : Slot := .val (.double x)
abbrev un : Slot := .unset
abbrev sc : Slot := .second
/-- what a body knows of itself -/
def Cx (p : Program) (s : State) (m : MethodId) (meth : Method) (c : Code) (Z : State) (a0 : Array Value) (own : String) (bytes : ByteArray) (maxL : Nat) (ret : Option FieldType) (nm : String) : Prop :=
  p.tables.exec = Jvm.exec ∧ Z.Warmed39 s.vm ∧ (∀ d ∈ tables_1, d.before a0 Z = true) ∧ s.vm.findClass own = some m.cls ∧ c.code = bytes ∧ c.maxLocals = maxL ∧ meth.sig.returnType = ret ∧ meth.locks = false ∧ meth.name = nm
/-- where the run stands: heap h; every write so far lies at or above n0; k cells and n slots made at the most -/
def St (Z : State) (p : Program) (l : Launch) (e : Env) (R : Room) (s : State) (m : MethodId) (args : Array Value) (below : List Frame) (meth : Method) (c : Code) (n0 : Nat) (T : State) (h : Heap) (k n : Nat) : Prop :=
  ∃ locs, Stand p l e R s m args below meth c T locs k n ∧ Fr n0 locs ∧ Old Z n0 s.heap ∧ T.heap = h
def FinQ (s : State) (k n n0 : Nat) (Q : Option Value → Heap → Prop) (o : Outcome) (t : State) : Prop := ∃ v L, o = .returned v ∧ (Fr n0 L ∧ Q v t.heap) ∧ FrameEnd s o t L k n
/-- a body's contract -/
def Con (l : Launch) (Z : State) (y : MethodName) (bytes : ByteArray) (maxL : Nat) (ret : Option FieldType) (rm : Room) (as' : Array Value) (h : Heap) (n0 : Nat) (Q : Option Value → Heap → Prop) : Prop :=
  ∀ ws, MetFree l y (head1 (Jvm.Cond.code y bytes maxL ret :: ws) rm) (fun a U => a = as' ∧ Z.Warmed39 U.vm ∧ U.heap = h) (fun _ _ _ _ _ => True) (fun _ U o U' => ∃ v L, o = .returned v ∧ (Fr n0 L ∧ Q v U'.heap) ∧ FrameEnd U o U' L rm.cells rm.slots)
theorem con_of {l : Launch} {Z : State} {a0 : Array Value} {y : MethodName} {bytes : ByteArray} {maxL : Nat} {ret : Option FieldType} {rm : Room} {as' : Array Value} {h : Heap} {n0 : Nat} {Q : Option Value → Heap → Prop}
    (hw : ∀ d ∈ tables_1, d.before a0 Z = true) (hpl : plainFor y = true) (hn0 : Old Z n0 h)
    (body : ∀ p e s m below meth c T, Cx p s m meth c Z a0 y.cls bytes maxL ret y.name → St Z p l e rm s m as' below meth c n0 T h 0 0 → Go p e below (FinQ s rm.cells rm.slots n0 Q) (T.setTop (entryFrame m as' maxL))) :
    Con l Z y bytes maxL ret rm as' h n0 Q := by
  intro ws
  refine MetFree.of_bodySF hpl hisR ?_
  intro p e s m args below meth c s₁ Bd hml0 hP hK
  obtain ⟨rfl, hZ, hh⟩ := hP
  have e0 : s₁.heap = h := by rw [← hh, Bd.state]; rfl
  exact body p e s m below meth c s₁ ⟨Bd.exec, hZ, hw, findClass_of_methodNamed Bd.named, Bd.bytes, hml0, Bd.returns, Bd.notSynchronized, (name_of_methodNamed Bd.named Bd.method).1⟩ ⟨[], Stand.of_body Bd, Fr.nil n0, by rw [hh]; exact hn0, e0⟩
section Steps1
variable {p : Program} {l : Launch} {e : Env} {R : Room} {s : State} {m : MethodId} {args : Array Value} {below : List Frame} {meth : Method} {c : Code} {Z : State} {a0 : Array Value} {own : String} {bytes : ByteArray} {maxL : Nat} {ret : Option FieldType} {nm : String} {n0 : Nat} {T : State} {h : Heap} {k n : Nat} {Q : Outcome → State → Prop} {pc pc' pc2 : Nat} {Ls Ls' : Array Slot} {st : List Value}
theorem Cx.w (C : Cx p s m meth c Z a0 own bytes maxL ret nm) (i : Nat) {d : Jvm.Cond} (hd : tables_1[i]? = some d) : d.before a0 Z = true := C.2.2.1 _ (List.mem_of_getElem? hd)
theorem Cx.ws (C : Cx p s m meth c Z a0 own bytes maxL ret nm) : ∀ d ∈ tables_1, d.before a0 Z = true := C.2.2.1
theorem Cx.cd (C : Cx p s m meth c Z a0 own bytes maxL ret nm) {r : Except ClassFile.DecodeError (ClassFile.Instr × Nat)} (h2 : decode bytes pc = r) : decode c.code pc = r := hb C.2.2.2.2.1 h2
theorem Cx.ow (C : Cx p s m meth c Z a0 own bytes maxL ret nm) : s.vm.findClass own = some m.cls := C.2.2.2.1
theorem Cx.hZ (C : Cx p s m meth c Z a0 own bytes maxL ret nm) : Z.Warmed39 s.vm := C.2.1
theorem Cx.ml (C : Cx p s m meth c Z a0 own bytes maxL ret nm) : c.maxLocals = maxL := C.2.2.2.2.2.1
theorem Cx.rt (C : Cx p s m meth c Z a0 own bytes maxL ret nm) : meth.sig.returnType = ret := C.2.2.2.2.2.2.1
theorem Cx.lk (C : Cx p s m meth c Z a0 own bytes maxL ret nm) : meth.locks = false := C.2.2.2.2.2.2.2.1
theorem Cx.nmE (C : Cx p s m meth c Z a0 own bytes maxL ret nm) : meth.name = nm := C.2.2.2.2.2.2.2.2
theorem St.sz (X : St Z p l e R s m args below meth c n0 T h k n) : n0 ≤ h.size := by obtain ⟨_, Y, _, q, rfl⟩ := X; exact Nat.le_trans (Nat.le_trans (Nat.le_of_eq q.1.symm) q.2.1) Y.same.2.1
theorem St.old (X : St Z p l e R s m args below meth c n0 T h k n) : Old Z n0 h := by
  obtain ⟨locs, Y, N, o, rfl⟩ := X
  refine ⟨o.1, Nat.le_trans o.2.1 Y.same.2.1, fun a ce hc => ?_⟩
  obtain ⟨c', e1, e2, e3, e4⟩ := Y.same.2.2.2.2.2 a ce (o.2.2 a ce hc)
  have lt := (Array.getElem?_eq_some_iff.mp hc).1
  have hs : c'.slots = ce.slots := Array.ext_getElem? fun i => e4 i fun q => by have := N _ q; have := o.1; simp at *; omega
  rw [hs] at e2
  exact (show c' = ce from e2) ▸ e1
theorem St.more (X : St Z p l e R s m args below meth c n0 T h k n) {k' n' : Nat} (hk : k ≤ k') (hn : n ≤ n') : St Z p l e R s m args below meth c n0 T h k' n' := by
  obtain ⟨locs, Y, r⟩ := X
  exact ⟨locs, Y.more hk hn, r⟩

theorem go_iload (C : Cx p s m meth c Z a0 own bytes maxL ret nm) (X : St Z p l e R s m args below meth c n0 T h k n) {i : Nat} {v : Int32} (pc' : Nat) (hp : pc + 2 = pc') (hd : decode bytes pc = .ok (.iload i, 2)) (hl : Ls[i]? = some (.val (.int v))) (hr : Go p e below Q (T.setTop (mkF m pc' Ls (.int v :: st)))) : Go p e below Q (T.setTop (mkF m pc Ls st)) := by
  subst hp
  obtain ⟨locs, Y, -, -, -⟩ := X
  exact Go.back (fun t kt => Jvm.Free.XS.iload Y.here C.1 rfl (C.cd hd) hl kt) hr
theorem go_iloadN (C : Cx p s m meth c Z a0 own bytes maxL ret nm) (X : St Z p l e R s m args below meth c n0 T h k n) {i : Fin 4} {v : Int32} (pc' : Nat) (hp : pc + 1 = pc') (hd : decode bytes pc = .ok (.iload_n i, 1)) (hl : Ls[i.val]? = some (.val (.int v))) (hr : Go p e below Q (T.setTop (mkF m pc' Ls (.int v :: st)))) : Go p e below Q (T.setTop (mkF m pc Ls st)) := by
  subst hp
  obtain ⟨locs, Y, -, -, -⟩ := X
  exact Go.back (fun t kt => Jvm.Free.XS.iloadN Y.here C.1 rfl (C.cd hd) hl kt) hr
theorem go_istore (C : Cx p s m meth c Z a0 own bytes maxL ret nm) (X : St Z p l e R s m args below meth c n0 T h k n) {i : Nat} {v : Int32} (pc' : Nat) (hp : pc + 2 = pc') (hd : decode bytes pc = .ok (.istore i, 2)) (Ls' : Array Slot) (hl : storeLocals Ls i (.int v) = some Ls') (hr : Go p e below Q (T.setTop (mkF m pc' Ls' st))) : Go p e below Q (T.setTop (mkF m pc Ls (.int v :: st))) := by
  subst hp
  obtain ⟨locs, Y, -, -, -⟩ := X
  exact Go.back (fun t kt => Jvm.Free.XS.istore Y.here C.1 rfl (C.cd hd) rfl hl kt) hr
theorem go_istoreN (C : Cx p s m meth c Z a0 own bytes maxL ret nm) (X : St Z p l e R s m args below meth c n0 T h k n) {i : Fin 4} {v : Int32} (pc' : Nat) (hp : pc + 1 = pc') (hd : decode bytes pc = .ok (.istore_n i, 1)) (Ls' : Array Slot) (hl : storeLocals Ls i.val (.int v) = some Ls') (hr : Go p e below Q (T.setTop (mkF m pc' Ls' st))) : Go p e below Q (T.setTop (mkF m pc Ls (.int v :: st))) := by
  subst hp
  obtain ⟨locs, Y, -, -, -⟩ := X
  exact Go.back (fun t kt => Jvm.Free.XS.istoreN Y.here C.1 rfl (C.cd hd) rfl hl kt) hr
theorem go_lload (C : Cx p s m meth c Z a0 own bytes maxL ret nm) (X : St Z p l e R s m args below meth c n0 T h k n) {i : Nat} {v : Int64} (pc' : Nat) (hp : pc + 2 = pc') (hd : decode bytes pc = .ok (.lload i, 2)) (hl : Ls[i]? = some (.val (.long v))) (hr : Go p e below Q (T.setTop (mkF m pc' Ls (.long v :: st)))) : Go p e below Q (T.setTop (mkF m pc Ls st)) := by
  subst hp
  obtain ⟨locs, Y, -, -, -⟩ := X
  exact Go.back (fun t kt => Jvm.Free.XS.lload Y.here C.1 rfl (C.cd hd) hl kt) hr
theorem go_lloadN (C : Cx p s m meth c Z a0 own bytes maxL ret nm) (X : St Z p l e R s m args below meth c n0 T h k n) {i : Fin 4} {v : Int64} (pc' : Nat) (hp : pc + 1 = pc') (hd : decode bytes pc = .ok (.lload_n i, 1)) (hl : Ls[i.val]? = some (.val (.long v))) (hr : Go p e below Q (T.setTop (mkF m pc' Ls (.long v :: st)))) : Go p e below Q (T.setTop (mkF m pc Ls st)) := by
  subst hp
  obtain ⟨locs, Y, -, -, -⟩ := X
  exact Go.back (fun t kt => Jvm.Free.XS.lloadN Y.here C.1 rfl (C.cd hd) hl kt) hr
theorem go_lstore (C : Cx p s m meth c Z a0 own bytes maxL ret nm) (X : St Z p l e R s m args below meth c n0 T h k n) {i : Nat} {v : Int64} (pc' : Nat) (hp : pc + 2 = pc') (hd : decode bytes pc = .ok (.lstore i, 2)) (Ls' : Array Slot) (hl : storeLocals Ls i (.long v) = some Ls') (hr : Go p e below Q (T.setTop (mkF m pc' Ls' st))) : Go p e below Q (T.setTop (mkF m pc Ls (.long v :: st))) := by
  subst hp
  obtain ⟨locs, Y, -, -, -⟩ := X
  exact Go.back (fun t kt => Jvm.Free.XS.lstore Y.here C.1 rfl (C.cd hd) rfl hl kt) hr
theorem go_lstoreN (C : Cx p s m meth c Z a0 own bytes maxL ret nm) (X : St Z p l e R s m args below meth c n0 T h k n) {i : Fin 4} {v : Int64} (pc' : Nat) (hp : pc + 1 = pc') (hd : decode bytes pc = .ok (.lstore_n i, 1)) (Ls' : Array Slot) (hl : storeLocals Ls i.val (.long v) = some Ls') (hr : Go p e below Q (T.setTop (mkF m pc' Ls' st))) : Go p e below Q (T.setTop (mkF m pc Ls (.long v :: st))) := by
  subst hp
  obtain ⟨locs, Y, -, -, -⟩ := X
  exact Go.back (fun t kt => Jvm.Free.XS.lstoreN Y.here C.1 rfl (C.cd hd) rfl hl kt) hr
theorem go_aload (C : Cx p s m meth c Z a0 own bytes maxL ret nm) (X : St Z p l e R s m args below meth c n0 T h k n) {i : Nat} {v : Value} (pc' : Nat) (hp : pc + 2 = pc') (hd : decode bytes pc = .ok (.aload i, 2)) (hl : Ls[i]? = some (.val v)) (hv : v.isRef = true) (hr : Go p e below Q (T.setTop (mkF m pc' Ls (v :: st)))) : Go p e below Q (T.setTop (mkF m pc Ls st)) := by
  subst hp
  obtain ⟨locs, Y, -, -, -⟩ := X
  exact Go.back (fun t kt => Jvm.Free.XS.aload Y.here C.1 rfl (C.cd hd) hl hv kt) hr
theorem go_aloadN (C : Cx p s m meth c Z a0 own bytes maxL ret nm) (X : St Z p l e R s m args below meth c n0 T h k n) {i : Fin 4} {v : Value} (pc' : Nat) (hp : pc + 1 = pc') (hd : decode bytes pc = .ok (.aload_n i, 1)) (hl : Ls[i.val]? = some (.val v)) (hv : v.isRef = true) (hr : Go p e below Q (T.setTop (mkF m pc' Ls (v :: st)))) : Go p e below Q (T.setTop (mkF m pc Ls st)) := by
  subst hp
  obtain ⟨locs, Y, -, -, -⟩ := X
  exact Go.back (fun t kt => Jvm.Free.XS.aloadN Y.here C.1 rfl (C.cd hd) hl hv kt) hr
theorem go_astore (C : Cx p s m meth c Z a0 own bytes maxL ret nm) (X : St Z p l e R s m args below meth c n0 T h k n) {i : Nat} {v : Value} (pc' : Nat) (hp : pc + 2 = pc') (hd : decode bytes pc = .ok (.astore i, 2)) (hv : v.isRef = true) (Ls' : Array Slot) (hl : storeLocals Ls i v = some Ls') (hr : Go p e below Q (T.setTop (mkF m pc' Ls' st))) : Go p e below Q (T.setTop (mkF m pc Ls (v :: st))) := by
  subst hp
  obtain ⟨locs, Y, -, -, -⟩ := X
  exact Go.back (fun t kt => Jvm.Free.XS.astore Y.here C.1 rfl (C.cd hd) rfl hv hl kt) hr
theorem go_astoreN (C : Cx p s m meth c Z a0 own bytes maxL ret nm) (X : St Z p l e R s m args below meth c n0 T h k n) {i : Fin 4} {v : Value} (pc' : Nat) (hp : pc + 1 = pc') (hd : decode bytes pc = .ok (.astore_n i, 1)) (hv : v.isRef = true) (Ls' : Array Slot) (hl : storeLocals Ls i.val v = some Ls') (hr : Go p e below Q (T.setTop (mkF m pc' Ls' st))) : Go p e below Q (T.setTop (mkF m pc Ls (v :: st))) := by
  subst hp
  obtain ⟨locs, Y, -, -, -⟩ := X
  exact Go.back (fun t kt => Jvm.Free.XS.astoreN Y.here C.1 rfl (C.cd hd) rfl hv hl kt) hr
theorem go_iconst (C : Cx p s m meth c Z a0 own bytes maxL ret nm) (X : St Z p l e R s m args below meth c n0 T h k n) {i : Int} {z : Int32} (pc' : Nat) (hp : pc + 1 = pc') (hd : decode bytes pc = .ok (.iconst i, 1)) (hz : Int32.ofInt i = z) (hr : Go p e below Q (T.setTop (mkF m pc' Ls (.int z :: st)))) : Go p e below Q (T.setTop (mkF m pc Ls st)) := by
  subst hp
  obtain ⟨locs, Y, -, -, -⟩ := X
  exact Go.back (fun t kt => by subst hz; exact Jvm.Free.XS.iconst Y.here C.1 rfl (C.cd hd) kt) hr
theorem go_bipush (C : Cx p s m meth c Z a0 own bytes maxL ret nm) (X : St Z p l e R s m args below meth c n0 T h k n) {i : Int} {z : Int32} (pc' : Nat) (hp : pc + 2 = pc') (hd : decode bytes pc = .ok (.bipush i, 2)) (hz : (Int8.ofInt i).toInt32 = z) (hr : Go p e below Q (T.setTop (mkF m pc' Ls (.int z :: st)))) : Go p e below Q (T.setTop (mkF m pc Ls st)) := by
  subst hp
  obtain ⟨locs, Y, -, -, -⟩ := X
  exact Go.back (fun t kt => by subst hz; exact Jvm.Free.XS.bipush Y.here C.1 rfl (C.cd hd) kt) hr
theorem go_sipush (C : Cx p s m meth c Z a0 own bytes maxL ret nm) (X : St Z p l e R s m args below meth c n0 T h k n) {i : Int} {z : Int32} (pc' : Nat) (hp : pc + 3 = pc') (hd : decode bytes pc = .ok (.sipush i, 3)) (hz : (Int16.ofInt i).toInt32 = z) (hr : Go p e below Q (T.setTop (mkF m pc' Ls (.int z :: st)))) : Go p e below Q (T.setTop (mkF m pc Ls st)) := by
  subst hp
  obtain ⟨locs, Y, -, -, -⟩ := X
  exact Go.back (fun t kt => by subst hz; exact Jvm.Free.XS.sipush Y.here C.1 rfl (C.cd hd) kt) hr
theorem go_lconst (C : Cx p s m meth c Z a0 own bytes maxL ret nm) (X : St Z p l e R s m args below meth c n0 T h k n) {i : Fin 2} {z : Int64} (pc' : Nat) (hp : pc + 1 = pc') (hd : decode bytes pc = .ok (.lconst i, 1)) (hz : Int64.ofNat i = z) (hr : Go p e below Q (T.setTop (mkF m pc' Ls (.long z :: st)))) : Go p e below Q (T.setTop (mkF m pc Ls st)) := by
  subst hp
  obtain ⟨locs, Y, -, -, -⟩ := X
  exact Go.back (fun t kt => by subst hz; exact Jvm.Free.XS.lconst Y.here C.1 rfl (C.cd hd) kt) hr
theorem go_aconstNull (C : Cx p s m meth c Z a0 own bytes maxL ret nm) (X : St Z p l e R s m args below meth c n0 T h k n)  (pc' : Nat) (hp : pc + 1 = pc') (hd : decode bytes pc = .ok (.aconst_null, 1)) (hr : Go p e below Q (T.setTop (mkF m pc' Ls (.null :: st)))) : Go p e below Q (T.setTop (mkF m pc Ls st)) := by
  subst hp
  obtain ⟨locs, Y, -, -, -⟩ := X
  exact Go.back (fun t kt => Jvm.Free.XS.aconstNull Y.here C.1 rfl (C.cd hd) kt) hr
theorem go_iaddL (C : Cx p s m meth c Z a0 own bytes maxL ret nm) (X : St Z p l e R s m args below meth c n0 T h k n) {x y z : Int32} (pc' : Nat) (hp : pc + 1 = pc') (hd : decode bytes pc = .ok (.iadd, 1)) (hz : x + y = z) (hr : Go p e below Q (T.setTop (mkF m pc' Ls (.int z :: st)))) : Go p e below Q (T.setTop (mkF m pc Ls (.int y :: .int x :: st))) := by
  subst hp
  obtain ⟨locs, Y, -, -, -⟩ := X
  exact Go.back (fun t kt => by subst hz; exact Jvm.Free.XS.iadd Y.here C.1 rfl (C.cd hd) rfl kt) hr
theorem go_iadd (C : Cx p s m meth c Z a0 own bytes maxL ret nm) (X : St Z p l e R s m args below meth c n0 T h k n) {x y : Int32} (pc' : Nat) (hp : pc + 1 = pc') (hd : decode bytes pc = .ok (.iadd, 1)) (hr : Go p e below Q (T.setTop (mkF m pc' Ls (.int (x + y) :: st)))) : Go p e below Q (T.setTop (mkF m pc Ls (.int y :: .int x :: st))) := by
  subst hp
  obtain ⟨locs, Y, -, -, -⟩ := X
  exact Go.back (fun t kt => Jvm.Free.XS.iadd Y.here C.1 rfl (C.cd hd) rfl kt) hr
theorem go_isubL (C : Cx p s m meth c Z a0 own bytes maxL ret nm) (X : St Z p l e R s m args below meth c n0 T h k n) {x y z : Int32} (pc' : Nat) (hp : pc + 1 = pc') (hd : decode bytes pc = .ok (.isub, 1)) (hz : x - y = z) (hr : Go p e below Q (T.setTop (mkF m pc' Ls (.int z :: st)))) : Go p e below Q (T.setTop (mkF m pc Ls (.int y :: .int x :: st))) := by
  subst hp
  obtain ⟨locs, Y, -, -, -⟩ := X
  exact Go.back (fun t kt => by subst hz; exact Jvm.Free.XS.isub Y.here C.1 rfl (C.cd hd) rfl kt) hr
theorem go_isub (C : Cx p s m meth c Z a0 own bytes maxL ret nm) (X : St Z p l e R s m args below meth c n0 T h k n) {x y : Int32} (pc' : Nat) (hp : pc + 1 = pc') (hd : decode bytes pc = .ok (.isub, 1)) (hr : Go p e below Q (T.setTop (mkF m pc' Ls (.int (x - y) :: st)))) : Go p e below Q (T.setTop (mkF m pc Ls (.int y :: .int x :: st))) := by
  subst hp
  obtain ⟨locs, Y, -, -, -⟩ := X
  exact Go.back (fun t kt => Jvm.Free.XS.isub Y.here C.1 rfl (C.cd hd) rfl kt) hr
theorem go_imulL (C : Cx p s m meth c Z a0 own bytes maxL ret nm) (X : St Z p l e R s m args below meth c n0 T h k n) {x y z : Int32} (pc' : Nat) (hp : pc + 1 = pc') (hd : decode bytes pc = .ok (.imul, 1)) (hz : x * y = z) (hr : Go p e below Q (T.setTop (mkF m pc' Ls (.int z :: st)))) : Go p e below Q (T.setTop (mkF m pc Ls (.int y :: .int x :: st))) := by
  subst hp
  obtain ⟨locs, Y, -, -, -⟩ := X
  exact Go.back (fun t kt => by subst hz; exact Jvm.Free.XS.imul Y.here C.1 rfl (C.cd hd) rfl kt) hr
theorem go_imul (C : Cx p s m meth c Z a0 own bytes maxL ret nm) (X : St Z p l e R s m args below meth c n0 T h k n) {x y : Int32} (pc' : Nat) (hp : pc + 1 = pc') (hd : decode bytes pc = .ok (.imul, 1)) (hr : Go p e below Q (T.setTop (mkF m pc' Ls (.int (x * y) :: st)))) : Go p e below Q (T.setTop (mkF m pc Ls (.int y :: .int x :: st))) := by
  subst hp
  obtain ⟨locs, Y, -, -, -⟩ := X
  exact Go.back (fun t kt => Jvm.Free.XS.imul Y.here C.1 rfl (C.cd hd) rfl kt) hr
theorem go_iandL (C : Cx p s m meth c Z a0 own bytes maxL ret nm) (X : St Z p l e R s m args below meth c n0 T h k n) {x y z : Int32} (pc' : Nat) (hp : pc + 1 = pc') (hd : decode bytes pc = .ok (.iand, 1)) (hz : x &&& y = z) (hr : Go p e below Q (T.setTop (mkF m pc' Ls (.int z :: st)))) : Go p e below Q (T.setTop (mkF m pc Ls (.int y :: .int x :: st))) := by
  subst hp
  obtain ⟨locs, Y, -, -, -⟩ := X
  exact Go.back (fun t kt => by subst hz; exact Jvm.Free.XS.iand Y.here C.1 rfl (C.cd hd) rfl kt) hr
theorem go_iand (C : Cx p s m meth c Z a0 own bytes maxL ret nm) (X : St Z p l e R s m args below meth c n0 T h k n) {x y : Int32} (pc' : Nat) (hp : pc + 1 = pc') (hd : decode bytes pc = .ok (.iand, 1)) (hr : Go p e below Q (T.setTop (mkF m pc' Ls (.int (x &&& y) :: st)))) : Go p e below Q (T.setTop (mkF m pc Ls (.int y :: .int x :: st))) := by
  subst hp
  obtain ⟨locs, Y, -, -, -⟩ := X
  exact Go.back (fun t kt => Jvm.Free.XS.iand Y.here C.1 rfl (C.cd hd) rfl kt) hr
theorem go_iorL (C : Cx p s m meth c Z a0 own bytes maxL ret nm) (X : St Z p l e R s m args below meth c n0 T h k n) {x y z : Int32} (pc' : Nat) (hp : pc + 1 = pc') (hd : decode bytes pc = .ok (.ior, 1)) (hz : x ||| y = z) (hr : Go p e below Q (T.setTop (mkF m pc' Ls (.int z :: st)))) : Go p e below Q (T.setTop (mkF m pc Ls (.int y :: .int x :: st))) := by
  subst hp
  obtain ⟨locs, Y, -, -, -⟩ := X
  exact Go.back (fun t kt => by subst hz; exact Jvm.Free.XS.ior Y.here C.1 rfl (C.cd hd) rfl kt) hr
theorem go_ior (C : Cx p s m meth c Z a0 own bytes maxL ret nm) (X : St Z p l e R s m args below meth c n0 T h k n) {x y : Int32} (pc' : Nat) (hp : pc + 1 = pc') (hd : decode bytes pc = .ok (.ior, 1)) (hr : Go p e below Q (T.setTop (mkF m pc' Ls (.int (x ||| y) :: st)))) : Go p e below Q (T.setTop (mkF m pc Ls (.int y :: .int x :: st))) := by
  subst hp
  obtain ⟨locs, Y, -, -, -⟩ := X
  exact Go.back (fun t kt => Jvm.Free.XS.ior Y.here C.1 rfl (C.cd hd) rfl kt) hr
theorem go_ixorL (C : Cx p s m meth c Z a0 own bytes maxL ret nm) (X : St Z p l e R s m args below meth c n0 T h k n) {x y z : Int32} (pc' : Nat) (hp : pc + 1 = pc') (hd : decode bytes pc = .ok (.ixor, 1)) (hz : x ^^^ y = z) (hr : Go p e below Q (T.setTop (mkF m pc' Ls (.int z :: st)))) : Go p e below Q (T.setTop (mkF m pc Ls (.int y :: .int x :: st))) := by
  subst hp
  obtain ⟨locs, Y, -, -, -⟩ := X
  exact Go.back (fun t kt => by subst hz; exact Jvm.Free.XS.ixor Y.here C.1 rfl (C.cd hd) rfl kt) hr
theorem go_ixor (C : Cx p s m meth c Z a0 own bytes maxL ret nm) (X : St Z p l e R s m args below meth c n0 T h k n) {x y : Int32} (pc' : Nat) (hp : pc + 1 = pc') (hd : decode bytes pc = .ok (.ixor, 1)) (hr : Go p e below Q (T.setTop (mkF m pc' Ls (.int (x ^^^ y) :: st)))) : Go p e below Q (T.setTop (mkF m pc Ls (.int y :: .int x :: st))) := by
  subst hp
  obtain ⟨locs, Y, -, -, -⟩ := X
  exact Go.back (fun t kt => Jvm.Free.XS.ixor Y.here C.1 rfl (C.cd hd) rfl kt) hr
theorem go_idiv (C : Cx p s m meth c Z a0 own bytes maxL ret nm) (X : St Z p l e R s m args below meth c n0 T h k n) {x y : Int32} (pc' : Nat) (hp : pc + 1 = pc') (hd : decode bytes pc = .ok (.idiv, 1)) (hy : y ≠ 0) (hr : Go p e below Q (T.setTop (mkF m pc' Ls (.int (x / y) :: st)))) : Go p e below Q (T.setTop (mkF m pc Ls (.int y :: .int x :: st))) := by
  subst hp
  obtain ⟨locs, Y, -, -, -⟩ := X
  exact Go.back (fun t kt => Jvm.Free.XS.idiv Y.here C.1 rfl (C.cd hd) rfl hy kt) hr
theorem go_ineg (C : Cx p s m meth c Z a0 own bytes maxL ret nm) (X : St Z p l e R s m args below meth c n0 T h k n) {x : Int32} (pc' : Nat) (hp : pc + 1 = pc') (hd : decode bytes pc = .ok (.ineg, 1)) (hr : Go p e below Q (T.setTop (mkF m pc' Ls (.int (-x) :: st)))) : Go p e below Q (T.setTop (mkF m pc Ls (.int x :: st))) := by
  subst hp
  obtain ⟨locs, Y, -, -, -⟩ := X
  exact Go.back (fun t kt => Jvm.Free.XS.ineg Y.here C.1 rfl (C.cd hd) rfl kt) hr
theorem go_laddL (C : Cx p s m meth c Z a0 own bytes maxL ret nm) (X : St Z p l e R s m args below meth c n0 T h k n) {x y z : Int64} (pc' : Nat) (hp : pc + 1 = pc') (hd : decode bytes pc = .ok (.ladd, 1)) (hz : x + y = z) (hr : Go p e below Q (T.setTop (mkF m pc' Ls (.long z :: st)))) : Go p e below Q (T.setTop (mkF m pc Ls (.long y :: .long x :: st))) := by
  subst hp
  obtain ⟨locs, Y, -, -, -⟩ := X
  exact Go.back (fun t kt => by subst hz; exact Jvm.Free.XS.ladd Y.here C.1 rfl (C.cd hd) rfl kt) hr
theorem go_ladd (C : Cx p s m meth c Z a0 own bytes maxL ret nm) (X : St Z p l e R s m args below meth c n0 T h k n) {x y : Int64} (pc' : Nat) (hp : pc + 1 = pc') (hd : decode bytes pc = .ok (.ladd, 1)) (hr : Go p e below Q (T.setTop (mkF m pc' Ls (.long (x + y) :: st)))) : Go p e below Q (T.setTop (mkF m pc Ls (.long y :: .long x :: st))) := by
  subst hp
  obtain ⟨locs, Y, -, -, -⟩ := X
  exact Go.back (fun t kt => Jvm.Free.XS.ladd Y.here C.1 rfl (C.cd hd) rfl kt) hr
theorem go_lsubL (C : Cx p s m meth c Z a0 own bytes maxL ret nm) (X : St Z p l e R s m args below meth c n0 T h k n) {x y z : Int64} (pc' : Nat) (hp : pc + 1 = pc') (hd : decode bytes pc = .ok (.lsub, 1)) (hz : x - y = z) (hr : Go p e below Q (T.setTop (mkF m pc' Ls (.long z :: st)))) : Go p e below Q (T.setTop (mkF m pc Ls (.long y :: .long x :: st))) := by
  subst hp
  obtain ⟨locs, Y, -, -, -⟩ := X
  exact Go.back (fun t kt => by subst hz; exact Jvm.Free.XS.lsub Y.here C.1 rfl (C.cd hd) rfl kt) hr
theorem go_lsub (C : Cx p s m meth c Z a0 own bytes maxL ret nm) (X : St Z p l e R s m args below meth c n0 T h k n) {x y : Int64} (pc' : Nat) (hp : pc + 1 = pc') (hd : decode bytes pc = .ok (.lsub, 1)) (hr : Go p e below Q (T.setTop (mkF m pc' Ls (.long (x - y) :: st)))) : Go p e below Q (T.setTop (mkF m pc Ls (.long y :: .long x :: st))) := by
  subst hp
  obtain ⟨locs, Y, -, -, -⟩ := X
  exact Go.back (fun t kt => Jvm.Free.XS.lsub Y.here C.1 rfl (C.cd hd) rfl kt) hr
theorem go_lmulL (C : Cx p s m meth c Z a0 own bytes maxL ret nm) (X : St Z p l e R s m args below meth c n0 T h k n) {x y z : Int64} (pc' : Nat) (hp : pc + 1 = pc') (hd : decode bytes pc = .ok (.lmul, 1)) (hz : x * y = z) (hr : Go p e below Q (T.setTop (mkF m pc' Ls (.long z :: st)))) : Go p e below Q (T.setTop (mkF m pc Ls (.long y :: .long x :: st))) := by
  subst hp
  obtain ⟨locs, Y, -, -, -⟩ := X
  exact Go.back (fun t kt => by subst hz; exact Jvm.Free.XS.lmul Y.here C.1 rfl (C.cd hd) rfl kt) hr
theorem go_lmul (C : Cx p s m meth c Z a0 own bytes maxL ret nm) (X : St Z p l e R s m args below meth c n0 T h k n) {x y : Int64} (pc' : Nat) (hp : pc + 1 = pc') (hd : decode bytes pc = .ok (.lmul, 1)) (hr : Go p e below Q (T.setTop (mkF m pc' Ls (.long (x * y) :: st)))) : Go p e below Q (T.setTop (mkF m pc Ls (.long y :: .long x :: st))) := by
  subst hp
  obtain ⟨locs, Y, -, -, -⟩ := X
  exact Go.back (fun t kt => Jvm.Free.XS.lmul Y.here C.1 rfl (C.cd hd) rfl kt) hr
theorem go_landL (C : Cx p s m meth c Z a0 own bytes maxL ret nm) (X : St Z p l e R s m args below meth c n0 T h k n) {x y z : Int64} (pc' : Nat) (hp : pc + 1 = pc') (hd : decode bytes pc = .ok (.land, 1)) (hz : x &&& y = z) (hr : Go p e below Q (T.setTop (mkF m pc' Ls (.long z :: st)))) : Go p e below Q (T.setTop (mkF m pc Ls (.long y :: .long x :: st))) := by
  subst hp
  obtain ⟨locs, Y, -, -, -⟩ := X
  exact Go.back (fun t kt => by subst hz; exact Jvm.Free.XS.land Y.here C.1 rfl (C.cd hd) rfl kt) hr
theorem go_land (C : Cx p s m meth c Z a0 own bytes maxL ret nm) (X : St Z p l e R s m args below meth c n0 T h k n) {x y : Int64} (pc' : Nat) (hp : pc + 1 = pc') (hd : decode bytes pc = .ok (.land, 1)) (hr : Go p e below Q (T.setTop (mkF m pc' Ls (.long (x &&& y) :: st)))) : Go p e below Q (T.setTop (mkF m pc Ls (.long y :: .long x :: st))) := by
  subst hp
  obtain ⟨locs, Y, -, -, -⟩ := X
  exact Go.back (fun t kt => Jvm.Free.XS.land Y.here C.1 rfl (C.cd hd) rfl kt) hr
theorem go_lorL (C : Cx p s m meth c Z a0 own bytes maxL ret nm) (X : St Z p l e R s m args below meth c n0 T h k n) {x y z : Int64} (pc' : Nat) (hp : pc + 1 = pc') (hd : decode bytes pc = .ok (.lor, 1)) (hz : x ||| y = z) (hr : Go p e below Q (T.setTop (mkF m pc' Ls (.long z :: st)))) : Go p e below Q (T.setTop (mkF m pc Ls (.long y :: .long x :: st))) := by
  subst hp
  obtain ⟨locs, Y, -, -, -⟩ := X
  exact Go.back (fun t kt => by subst hz; exact Jvm.Free.XS.lor Y.here C.1 rfl (C.cd hd) rfl kt) hr
theorem go_lor (C : Cx p s m meth c Z a0 own bytes maxL ret nm) (X : St Z p l e R s m args below meth c n0 T h k n) {x y : Int64} (pc' : Nat) (hp : pc + 1 = pc') (hd : decode bytes pc = .ok (.lor, 1)) (hr : Go p e below Q (T.setTop (mkF m pc' Ls (.long (x ||| y) :: st)))) : Go p e below Q (T.setTop (mkF m pc Ls (.long y :: .long x :: st))) := by
  subst hp
  obtain ⟨locs, Y, -, -, -⟩ := X
  exact Go.back (fun t kt => Jvm.Free.XS.lor Y.here C.1 rfl (C.cd hd) rfl kt) hr
theorem go_lxorL (C : Cx p s m meth c Z a0 own bytes maxL ret nm) (X : St Z p l e R s m args below meth c n0 T h k n) {x y z : Int64} (pc' : Nat) (hp : pc + 1 = pc') (hd : decode bytes pc = .ok (.lxor, 1)) (hz : x ^^^ y = z) (hr : Go p e below Q (T.setTop (mkF m pc' Ls (.long z :: st)))) : Go p e below Q (T.setTop (mkF m pc Ls (.long y :: .long x :: st))) := by
  subst hp
  obtain ⟨locs, Y, -, -, -⟩ := X
  exact Go.back (fun t kt => by subst hz; exact Jvm.Free.XS.lxor Y.here C.1 rfl (C.cd hd) rfl kt) hr
theorem go_lxor (C : Cx p s m meth c Z a0 own bytes maxL ret nm) (X : St Z p l e R s m args below meth c n0 T h k n) {x y : Int64} (pc' : Nat) (hp : pc + 1 = pc') (hd : decode bytes pc = .ok (.lxor, 1)) (hr : Go p e below Q (T.setTop (mkF m pc' Ls (.long (x ^^^ y) :: st)))) : Go p e below Q (T.setTop (mkF m pc Ls (.long y :: .long x :: st))) := by
  subst hp
  obtain ⟨locs, Y, -, -, -⟩ := X
  exact Go.back (fun t kt => Jvm.Free.XS.lxor Y.here C.1 rfl (C.cd hd) rfl kt) hr
theorem go_ldiv (C : Cx p s m meth c Z a0 own bytes maxL ret nm) (X : St Z p l e R s m args below meth c n0 T h k n) {x y : Int64} (pc' : Nat) (hp : pc + 1 = pc') (hd : decode bytes pc = .ok (.ldiv, 1)) (hy : y ≠ 0) (hr : Go p e below Q (T.setTop (mkF m pc' Ls (.long (x / y) :: st)))) : Go p e below Q (T.setTop (mkF m pc Ls (.long y :: .long x :: st))) := by
  subst hp
  obtain ⟨locs, Y, -, -, -⟩ := X
  exact Go.back (fun t kt => Jvm.Free.XS.ldiv Y.here C.1 rfl (C.cd hd) rfl hy kt) hr
theorem go_lneg (C : Cx p s m meth c Z a0 own bytes maxL ret nm) (X : St Z p l e R s m args below meth c n0 T h k n) {x : Int64} (pc' : Nat) (hp : pc + 1 = pc') (hd : decode bytes pc = .ok (.lneg, 1)) (hr : Go p e below Q (T.setTop (mkF m pc' Ls (.long (-x) :: st)))) : Go p e below Q (T.setTop (mkF m pc Ls (.long x :: st))) := by
  subst hp
  obtain ⟨locs, Y, -, -, -⟩ := X
  exact Go.back (fun t kt => Jvm.Free.XS.lneg Y.here C.1 rfl (C.cd hd) rfl kt) hr
theorem go_irem (C : Cx p s m meth c Z a0 own bytes maxL ret nm) (X : St Z p l e R s m args below meth c n0 T h k n) {x y : Int32} (pc' : Nat) (hp : pc + 1 = pc') (hd : decode bytes pc = .ok (.irem, 1)) (hy : y ≠ 0) (hr : Go p e below Q (T.setTop (mkF m pc' Ls (.int (x % y) :: st)))) : Go p e below Q (T.setTop (mkF m pc Ls (.int y :: .int x :: st))) := by
  subst hp
  obtain ⟨locs, Y, -, -, -⟩ := X
  exact Go.back (fun t kt => iremM Y C.1 rfl (C.cd hd) rfl hy kt) hr
theorem go_lrem (C : Cx p s m meth c Z a0 own bytes maxL ret nm) (X : St Z p l e R s m args below meth c n0 T h k n) {x y : Int64} (pc' : Nat) (hp : pc + 1 = pc') (hd : decode bytes pc = .ok (.lrem, 1)) (hy : y ≠ 0) (hr : Go p e below Q (T.setTop (mkF m pc' Ls (.long (x % y) :: st)))) : Go p e below Q (T.setTop (mkF m pc Ls (.long y :: .long x :: st))) := by
  subst hp
  obtain ⟨locs, Y, -, -, -⟩ := X
  exact Go.back (fun t kt => by rw [← lrem_mod] at kt; exact Jvm.Free.XS.lrem Y.here C.1 rfl (C.cd hd) rfl hy kt) hr
theorem go_i2l (C : Cx p s m meth c Z a0 own bytes maxL ret nm) (X : St Z p l e R s m args below meth c n0 T h k n) {x : Int32} (pc' : Nat) (hp : pc + 1 = pc') (hd : decode bytes pc = .ok (.i2l, 1)) (hr : Go p e below Q (T.setTop (mkF m pc' Ls (.long (x.toInt64) :: st)))) : Go p e below Q (T.setTop (mkF m pc Ls (.int x :: st))) := by
  subst hp
  obtain ⟨locs, Y, -, -, -⟩ := X
  exact Go.back (fun t kt => Jvm.Free.XS.i2l Y.here C.1 rfl (C.cd hd) rfl kt) hr
theorem go_l2i (C : Cx p s m meth c Z a0 own bytes maxL ret nm) (X : St Z p l e R s m args below meth c n0 T h k n) {x : Int64} (pc' : Nat) (hp : pc + 1 = pc') (hd : decode bytes pc = .ok (.l2i, 1)) (hr : Go p e below Q (T.setTop (mkF m pc' Ls (.int (x.toInt32) :: st)))) : Go p e below Q (T.setTop (mkF m pc Ls (.long x :: st))) := by
  subst hp
  obtain ⟨locs, Y, -, -, -⟩ := X
  exact Go.back (fun t kt => Jvm.Free.XS.l2i Y.here C.1 rfl (C.cd hd) rfl kt) hr
theorem go_i2b (C : Cx p s m meth c Z a0 own bytes maxL ret nm) (X : St Z p l e R s m args below meth c n0 T h k n) {x : Int32} (pc' : Nat) (hp : pc + 1 = pc') (hd : decode bytes pc = .ok (.i2b, 1)) (hr : Go p e below Q (T.setTop (mkF m pc' Ls (.int (x.toInt8.toInt32) :: st)))) : Go p e below Q (T.setTop (mkF m pc Ls (.int x :: st))) := by
  subst hp
  obtain ⟨locs, Y, -, -, -⟩ := X
  exact Go.back (fun t kt => Jvm.Free.XS.i2b Y.here C.1 rfl (C.cd hd) rfl kt) hr
theorem go_i2s (C : Cx p s m meth c Z a0 own bytes maxL ret nm) (X : St Z p l e R s m args below meth c n0 T h k n) {x : Int32} (pc' : Nat) (hp : pc + 1 = pc') (hd : decode bytes pc = .ok (.i2s, 1)) (hr : Go p e below Q (T.setTop (mkF m pc' Ls (.int (x.toInt16.toInt32) :: st)))) : Go p e below Q (T.setTop (mkF m pc Ls (.int x :: st))) := by
  subst hp
  obtain ⟨locs, Y, -, -, -⟩ := X
  exact Go.back (fun t kt => Jvm.Free.XS.i2s Y.here C.1 rfl (C.cd hd) rfl kt) hr
theorem go_i2c (C : Cx p s m meth c Z a0 own bytes maxL ret nm) (X : St Z p l e R s m args below meth c n0 T h k n) {x : Int32} (pc' : Nat) (hp : pc + 1 = pc') (hd : decode bytes pc = .ok (.i2c, 1)) (hr : Go p e below Q (T.setTop (mkF m pc' Ls (.int (x.toUInt32.toUInt16.toUInt32.toInt32) :: st)))) : Go p e below Q (T.setTop (mkF m pc Ls (.int x :: st))) := by
  subst hp
  obtain ⟨locs, Y, -, -, -⟩ := X
  exact Go.back (fun t kt => Jvm.Free.XS.i2c Y.here C.1 rfl (C.cd hd) rfl kt) hr
theorem go_ishl (C : Cx p s m meth c Z a0 own bytes maxL ret nm) (X : St Z p l e R s m args below meth c n0 T h k n) {x : Int32} {y : Int32} (pc' : Nat) (hp : pc + 1 = pc') (hd : decode bytes pc = .ok (.ishl, 1)) (hr : Go p e below Q (T.setTop (mkF m pc' Ls (.int (x <<< (y &&& 31)) :: st)))) : Go p e below Q (T.setTop (mkF m pc Ls (.int y :: .int x :: st))) := by
  subst hp
  obtain ⟨locs, Y, -, -, -⟩ := X
  exact Go.back (fun t kt => Jvm.Free.XS.ishl Y.here C.1 rfl (C.cd hd) rfl kt) hr
theorem go_ishr (C : Cx p s m meth c Z a0 own bytes maxL ret nm) (X : St Z p l e R s m args below meth c n0 T h k n) {x : Int32} {y : Int32} (pc' : Nat) (hp : pc + 1 = pc') (hd : decode bytes pc = .ok (.ishr, 1)) (hr : Go p e below Q (T.setTop (mkF m pc' Ls (.int (x >>> (y &&& 31)) :: st)))) : Go p e below Q (T.setTop (mkF m pc Ls (.int y :: .int x :: st))) := by
  subst hp
  obtain ⟨locs, Y, -, -, -⟩ := X
  exact Go.back (fun t kt => Jvm.Free.XS.ishr Y.here C.1 rfl (C.cd hd) rfl kt) hr
theorem go_iushr (C : Cx p s m meth c Z a0 own bytes maxL ret nm) (X : St Z p l e R s m args below meth c n0 T h k n) {x : Int32} {y : Int32} (pc' : Nat) (hp : pc + 1 = pc') (hd : decode bytes pc = .ok (.iushr, 1)) (hr : Go p e below Q (T.setTop (mkF m pc' Ls (.int ((x.toUInt32 >>> (y &&& 31).toUInt32).toInt32) :: st)))) : Go p e below Q (T.setTop (mkF m pc Ls (.int y :: .int x :: st))) := by
  subst hp
  obtain ⟨locs, Y, -, -, -⟩ := X
  exact Go.back (fun t kt => Jvm.Free.XS.iushr Y.here C.1 rfl (C.cd hd) rfl kt) hr
theorem go_lshl (C : Cx p s m meth c Z a0 own bytes maxL ret nm) (X : St Z p l e R s m args below meth c n0 T h k n) {x : Int64} {y : Int32} (pc' : Nat) (hp : pc + 1 = pc') (hd : decode bytes pc = .ok (.lshl, 1)) (hr : Go p e below Q (T.setTop (mkF m pc' Ls (.long (x <<< (y &&& 0x3f).toInt64) :: st)))) : Go p e below Q (T.setTop (mkF m pc Ls (.int y :: .long x :: st))) := by
  subst hp
  obtain ⟨locs, Y, -, -, -⟩ := X
  exact Go.back (fun t kt => Jvm.Free.XS.lshl Y.here C.1 rfl (C.cd hd) rfl kt) hr
theorem go_lshr (C : Cx p s m meth c Z a0 own bytes maxL ret nm) (X : St Z p l e R s m args below meth c n0 T h k n) {x : Int64} {y : Int32} (pc' : Nat) (hp : pc + 1 = pc') (hd : decode bytes pc = .ok (.lshr, 1)) (hr : Go p e below Q (T.setTop (mkF m pc' Ls (.long (x >>> (y &&& 0x3f).toInt64) :: st)))) : Go p e below Q (T.setTop (mkF m pc Ls (.int y :: .long x :: st))) := by
  subst hp
  obtain ⟨locs, Y, -, -, -⟩ := X
  exact Go.back (fun t kt => Jvm.Free.XS.lshr Y.here C.1 rfl (C.cd hd) rfl kt) hr
theorem go_lushr (C : Cx p s m meth c Z a0 own bytes maxL ret nm) (X : St Z p l e R s m args below meth c n0 T h k n) {x : Int64} {y : Int32} (pc' : Nat) (hp : pc + 1 = pc') (hd : decode bytes pc = .ok (.lushr, 1)) (hr : Go p e below Q (T.setTop (mkF m pc' Ls (.long ((x.toUInt64 >>> (y &&& 0x3f).toInt64.toUInt64).toInt64) :: st)))) : Go p e below Q (T.setTop (mkF m pc Ls (.int y :: .long x :: st))) := by
  subst hp
  obtain ⟨locs, Y, -, -, -⟩ := X
  exact Go.back (fun t kt => Jvm.Free.XS.lushr Y.here C.1 rfl (C.cd hd) rfl kt) hr
theorem go_lcmp (C : Cx p s m meth c Z a0 own bytes maxL ret nm) (X : St Z p l e R s m args below meth c n0 T h k n) {x y : Int64} (pc' : Nat) (hp : pc + 1 = pc') (hd : decode bytes pc = .ok (.lcmp, 1)) (hr : Go p e below Q (T.setTop (mkF m pc' Ls (.int (lcmpW x y) :: st)))) : Go p e below Q (T.setTop (mkF m pc Ls (.long y :: .long x :: st))) := by
  subst hp
  obtain ⟨locs, Y, -, -, -⟩ := X
  exact Go.back (fun t kt => Jvm.Free.XS.lcmp Y.here C.1 rfl (C.cd hd) rfl kt) hr
theorem go_iinc (C : Cx p s m meth c Z a0 own bytes maxL ret nm) (X : St Z p l e R s m args below meth c n0 T h k n) {i : Nat} {cst : Int} {x z : Int32} (pc' : Nat) (hp : pc + 3 = pc') (hd : decode bytes pc = .ok (.iinc i cst, 3)) (hl : Ls[i]? = some (.val (.int x))) (hz : Int32.ofInt cst = z) (Ls' : Array Slot) (hl' : storeLocals Ls i (.int (x + z)) = some Ls') (hr : Go p e below Q (T.setTop (mkF m pc' Ls' st))) : Go p e below Q (T.setTop (mkF m pc Ls st)) := by
  subst hp
  obtain ⟨locs, Y, -, -, -⟩ := X
  exact Go.back (fun t kt => by subst hz; exact Jvm.Free.XS.iinc Y.here C.1 rfl (C.cd hd) hl hl' kt) hr
theorem go_dup (C : Cx p s m meth c Z a0 own bytes maxL ret nm) (X : St Z p l e R s m args below meth c n0 T h k n) {v : Value} (pc' : Nat) (hp : pc + 1 = pc') (hd : decode bytes pc = .ok (.dup, 1)) (hc : v.category = 1) (hr : Go p e below Q (T.setTop (mkF m pc' Ls (v :: v :: st)))) : Go p e below Q (T.setTop (mkF m pc Ls (v :: st))) := by
  subst hp
  obtain ⟨locs, Y, -, -, -⟩ := X
  exact Go.back (fun t kt => Jvm.Free.XS.dup Y.here C.1 rfl (C.cd hd) rfl hc kt) hr
theorem go_pop (C : Cx p s m meth c Z a0 own bytes maxL ret nm) (X : St Z p l e R s m args below meth c n0 T h k n) {v : Value} (pc' : Nat) (hp : pc + 1 = pc') (hd : decode bytes pc = .ok (.pop, 1)) (hc : v.category = 1) (hr : Go p e below Q (T.setTop (mkF m pc' Ls st))) : Go p e below Q (T.setTop (mkF m pc Ls (v :: st))) := by
  subst hp
  obtain ⟨locs, Y, -, -, -⟩ := X
  exact Go.back (fun t kt => Jvm.Free.XS.pop Y.here C.1 rfl (C.cd hd) rfl hc kt) hr
theorem go_dupX1 (C : Cx p s m meth c Z a0 own bytes maxL ret nm) (X : St Z p l e R s m args below meth c n0 T h k n) {v w : Value} (pc' : Nat) (hp : pc + 1 = pc') (hd : decode bytes pc = .ok (.dup_x1, 1)) (hc : v.category = 1) (hc2 : w.category = 1) (hr : Go p e below Q (T.setTop (mkF m pc' Ls (v :: w :: v :: st)))) : Go p e below Q (T.setTop (mkF m pc Ls (v :: w :: st))) := by
  subst hp
  obtain ⟨locs, Y, -, -, -⟩ := X
  exact Go.back (fun t kt => Jvm.Free.XS.dupX1 Y.here C.1 rfl (C.cd hd) rfl hc hc2 kt) hr
theorem go_dup2 (C : Cx p s m meth c Z a0 own bytes maxL ret nm) (X : St Z p l e R s m args below meth c n0 T h k n) {v w : Value} (pc' : Nat) (hp : pc + 1 = pc') (hd : decode bytes pc = .ok (.dup2, 1)) (hc : v.category = 1) (hc2 : w.category = 1) (hr : Go p e below Q (T.setTop (mkF m pc' Ls (v :: w :: v :: w :: st)))) : Go p e below Q (T.setTop (mkF m pc Ls (v :: w :: st))) := by
  subst hp
  obtain ⟨locs, Y, -, -, -⟩ := X
  refine Go.back (fun t kt => ?_) hr
  show Steps p.tables e below (T.setTop { method := m, pc := pc, locals := Ls, stack := v :: w :: st, locked := none }) _
  jvm_step Y.here [Y.here.top, C.1, C.cd hd, hc, hc2]
  exact kt
theorem go_goto (C : Cx p s m meth c Z a0 own bytes maxL ret nm) (X : St Z p l e R s m args below meth c n0 T h k n) {o : Int} (hd : decode bytes pc = .ok (.goto o, 3)) (ho : 0 ≤ (pc : Int) + o) (hp : ((pc : Int) + o).toNat = pc') (hr : Go p e below Q (T.setTop (mkF m pc' Ls st))) : Go p e below Q (T.setTop (mkF m pc Ls st)) := by
  obtain ⟨locs, Y, -, -, -⟩ := X
  exact Go.back (fun t kt => Jvm.Free.XS.goto Y.here C.1 rfl (pc0 := pc) rfl (C.cd hd) ho hp kt) hr
theorem go_icmp (C : Cx p s m meth c Z a0 own bytes maxL ret nm) (X : St Z p l e R s m args below meth c n0 T h k n) {cd : ClassFile.Cond} {o : Int} {x y : Int32} (hd : decode bytes pc = .ok (.if_icmp cd o, 3)) (hp : pc + 3 = pc') (ho : 0 ≤ (pc : Int) + o) (hp2 : ((pc : Int) + o).toNat = pc2) (h1 : if_icmp.holds cd x y = true → Go p e below Q (T.setTop (mkF m pc2 Ls st))) (h2 : if_icmp.holds cd x y = false → Go p e below Q (T.setTop (mkF m pc' Ls st))) : Go p e below Q (T.setTop (mkF m pc Ls (.int y :: .int x :: st))) := by
  subst hp
  obtain ⟨locs, Y, -, -, -⟩ := X
  cases hc : if_icmp.holds cd x y with
  | true => exact Go.back (fun t kt => Jvm.Free.XS.icmpYes Y.here C.1 rfl (pc0 := pc) rfl (C.cd hd) rfl hc ho hp2 kt) (h1 hc)
  | false => exact Go.back (fun t kt => Jvm.Free.XS.icmpNo Y.here C.1 rfl (C.cd hd) rfl hc kt) (h2 hc)
theorem go_if (C : Cx p s m meth c Z a0 own bytes maxL ret nm) (X : St Z p l e R s m args below meth c n0 T h k n) {cd : ClassFile.Cond} {o : Int} {x : Int32} (hd : decode bytes pc = .ok (.ifCond cd o, 3)) (hp : pc + 3 = pc') (ho : 0 ≤ (pc : Int) + o) (hp2 : ((pc : Int) + o).toNat = pc2) (h1 : if_icmp.holds cd x 0 = true → Go p e below Q (T.setTop (mkF m pc2 Ls st))) (h2 : if_icmp.holds cd x 0 = false → Go p e below Q (T.setTop (mkF m pc' Ls st))) : Go p e below Q (T.setTop (mkF m pc Ls (.int x :: st))) := by
  subst hp
  obtain ⟨locs, Y, -, -, -⟩ := X
  cases hc : if_icmp.holds cd x 0 with
  | true => exact Go.back (fun t kt => Jvm.Free.XS.ifYes Y.here C.1 rfl (pc0 := pc) rfl (C.cd hd) rfl ((if0 _ _).trans hc) ho hp2 kt) (h1 hc)
  | false => exact Go.back (fun t kt => Jvm.Free.XS.ifNo Y.here C.1 rfl (C.cd hd) rfl ((if0 _ _).trans hc) kt) (h2 hc)
theorem i32lt {x y : Int32} : x < y ↔ x.toInt < y.toInt := Int32.lt_iff_toInt_lt
theorem ic_lt {x y : Int32} : (if_icmp.holds .lt x y = true ↔ x.toInt < y.toInt) ∧ (if_icmp.holds .lt x y = false ↔ y.toInt ≤ x.toInt) := by
  by_cases q : x < y
  · have := i32lt.mp q; simp [(tlt q).1]; omega
  · have := mt i32lt.mpr q; simp [(flt q).1]; omega
theorem ic_ge {x y : Int32} : (if_icmp.holds .ge x y = true ↔ y.toInt ≤ x.toInt) ∧ (if_icmp.holds .ge x y = false ↔ x.toInt < y.toInt) := by
  by_cases q : x < y
  · have := i32lt.mp q; simp [(tlt q).2.1]; omega
  · have := mt i32lt.mpr q; simp [(flt q).2.1]; omega
theorem ic_gt {x y : Int32} : (if_icmp.holds .gt x y = true ↔ y.toInt < x.toInt) ∧ (if_icmp.holds .gt x y = false ↔ x.toInt ≤ y.toInt) := by
  by_cases q : y < x
  · have := i32lt.mp q; simp [(tlt q).2.2.1]; omega
  · have := mt i32lt.mpr q; simp [(flt q).2.2.1]; omega
theorem ic_le {x y : Int32} : (if_icmp.holds .le x y = true ↔ x.toInt ≤ y.toInt) ∧ (if_icmp.holds .le x y = false ↔ y.toInt < x.toInt) := by
  by_cases q : y < x
  · have := i32lt.mp q; simp [(tlt q).2.2.2]; omega
  · have := mt i32lt.mpr q; simp [(flt q).2.2.2]; omega
theorem ic_eq {x y : Int32} : (if_icmp.holds .eq x y = true ↔ x = y) ∧ (if_icmp.holds .eq x y = false ↔ ¬ x = y) := by
  by_cases q : x = y
  · subst q; exact ⟨⟨fun _ => rfl, fun _ => (teq rfl).1⟩, ⟨fun h => (by rw [(teq rfl).1] at h; cases h), fun h => absurd rfl h⟩⟩
  · exact ⟨⟨fun h => (by rw [(feq q).1] at h; cases h), fun h => absurd h q⟩, ⟨fun _ => q, fun _ => (feq q).1⟩⟩
theorem ic_ne {x y : Int32} : (if_icmp.holds .ne x y = true ↔ ¬ x = y) ∧ (if_icmp.holds .ne x y = false ↔ x = y) := by
  by_cases q : x = y
  · subst q; exact ⟨⟨fun h => (by rw [(teq rfl).2] at h; cases h), fun h => absurd rfl h⟩, ⟨fun _ => rfl, fun _ => (teq rfl).2⟩⟩
  · exact ⟨⟨fun _ => q, fun _ => (feq q).2⟩, ⟨fun h => (by rw [(feq q).2] at h; cases h), fun h => absurd h q⟩⟩
theorem lc_i (x y : Int64) : ((lcmpW x y).toInt < 0 ↔ x.toInt < y.toInt) ∧ (0 < (lcmpW x y).toInt ↔ y.toInt < x.toInt) ∧ (lcmpW x y = 0 ↔ x = y) := by
  obtain ⟨a, b, c⟩ := c_lcmp x y
  refine ⟨?_, ?_, lw_eq x y⟩ <;> rcases Int.lt_trichotomy x.toInt y.toInt with q | q | q <;> (first | have := a q | have := b q | have := c q) <;> omega
theorem go_icmp_lt (C : Cx p s m meth c Z a0 own bytes maxL ret nm) (X : St Z p l e R s m args below meth c n0 T h k n) {o : Int} {x y : Int32} (hd : decode bytes pc = .ok (.if_icmp .lt o, 3)) (hp : pc + 3 = pc') (ho : 0 ≤ (pc : Int) + o) (hp2 : ((pc : Int) + o).toNat = pc2) (h1 : x.toInt < y.toInt → Go p e below Q (T.setTop (mkF m pc2 Ls st))) (h2 : y.toInt ≤ x.toInt → Go p e below Q (T.setTop (mkF m pc' Ls st))) : Go p e below Q (T.setTop (mkF m pc Ls (.int y :: .int x :: st))) := go_icmp C X hd hp ho hp2 (fun q => h1 (ic_lt.1.mp q)) (fun q => h2 (ic_lt.2.mp q))
theorem go_if_lt (C : Cx p s m meth c Z a0 own bytes maxL ret nm) (X : St Z p l e R s m args below meth c n0 T h k n) {o : Int} {x : Int32} (hd : decode bytes pc = .ok (.ifCond .lt o, 3)) (hp : pc + 3 = pc') (ho : 0 ≤ (pc : Int) + o) (hp2 : ((pc : Int) + o).toNat = pc2) (h1 : x.toInt < 0 → Go p e below Q (T.setTop (mkF m pc2 Ls st))) (h2 : 0 ≤ x.toInt → Go p e below Q (T.setTop (mkF m pc' Ls st))) : Go p e below Q (T.setTop (mkF m pc Ls (.int x :: st))) := go_if C X hd hp ho hp2 (fun q => h1 (ic_lt.1.mp q)) (fun q => h2 (ic_lt.2.mp q))
theorem go_lif_lt (C : Cx p s m meth c Z a0 own bytes maxL ret nm) (X : St Z p l e R s m args below meth c n0 T h k n) {o : Int} {x y : Int64} {pc1 : Nat} (hp1 : pc + 1 = pc1) (hd1 : decode bytes pc = .ok (.lcmp, 1)) (hd : decode bytes pc1 = .ok (.ifCond .lt o, 3)) (hp : pc1 + 3 = pc') (ho : 0 ≤ (pc1 : Int) + o) (hp2 : ((pc1 : Int) + o).toNat = pc2) (h1 : x.toInt < y.toInt → Go p e below Q (T.setTop (mkF m pc2 Ls st))) (h2 : y.toInt ≤ x.toInt → Go p e below Q (T.setTop (mkF m pc' Ls st))) : Go p e below Q (T.setTop (mkF m pc Ls (.long y :: .long x :: st))) := go_lcmp C X _ hp1 hd1 (go_if_lt C X hd hp ho hp2 (fun q => h1 ((lc_i x y).1.mp q)) (fun q => h2 (by have := mt (lc_i x y).1.mpr (by omega); omega)))
theorem go_icmp_ge (C : Cx p s m meth c Z a0 own bytes maxL ret nm) (X : St Z p l e R s m args below meth c n0 T h k n) {o : Int} {x y : Int32} (hd : decode bytes pc = .ok (.if_icmp .ge o, 3)) (hp : pc + 3 = pc') (ho : 0 ≤ (pc : Int) + o) (hp2 : ((pc : Int) + o).toNat = pc2) (h1 : y.toInt ≤ x.toInt → Go p e below Q (T.setTop (mkF m pc2 Ls st))) (h2 : x.toInt < y.toInt → Go p e below Q (T.setTop (mkF m pc' Ls st))) : Go p e below Q (T.setTop (mkF m pc Ls (.int y :: .int x :: st))) := go_icmp C X hd hp ho hp2 (fun q => h1 (ic_ge.1.mp q)) (fun q => h2 (ic_ge.2.mp q))
theorem go_if_ge (C : Cx p s m meth c Z a0 own bytes maxL ret nm) (X : St Z p l e R s m args below meth c n0 T h k n) {o : Int} {x : Int32} (hd : decode bytes pc = .ok (.ifCond .ge o, 3)) (hp : pc + 3 = pc') (ho : 0 ≤ (pc : Int) + o) (hp2 : ((pc : Int) + o).toNat = pc2) (h1 : 0 ≤ x.toInt → Go p e below Q (T.setTop (mkF m pc2 Ls st))) (h2 : x.toInt < 0 → Go p e below Q (T.setTop (mkF m pc' Ls st))) : Go p e below Q (T.setTop (mkF m pc Ls (.int x :: st))) := go_if C X hd hp ho hp2 (fun q => h1 (ic_ge.1.mp q)) (fun q => h2 (ic_ge.2.mp q))
theorem go_lif_ge (C : Cx p s m meth c Z a0 own bytes maxL ret nm) (X : St Z p l e R s m args below meth c n0 T h k n) {o : Int} {x y : Int64} {pc1 : Nat} (hp1 : pc + 1 = pc1) (hd1 : decode bytes pc = .ok (.lcmp, 1)) (hd : decode bytes pc1 = .ok (.ifCond .ge o, 3)) (hp : pc1 + 3 = pc') (ho : 0 ≤ (pc1 : Int) + o) (hp2 : ((pc1 : Int) + o).toNat = pc2) (h1 : y.toInt ≤ x.toInt → Go p e below Q (T.setTop (mkF m pc2 Ls st))) (h2 : x.toInt < y.toInt → Go p e below Q (T.setTop (mkF m pc' Ls st))) : Go p e below Q (T.setTop (mkF m pc Ls (.long y :: .long x :: st))) := go_lcmp C X _ hp1 hd1 (go_if_ge C X hd hp ho hp2 (fun q => h1 (by have := mt (lc_i x y).1.mpr (by omega); omega)) (fun q => h2 ((lc_i x y).1.mp q)))
theorem go_icmp_gt (C : Cx p s m meth c Z a0 own bytes maxL ret nm) (X : St Z p l e R s m args below meth c n0 T h k n) {o : Int} {x y : Int32} (hd : decode bytes pc = .ok (.if_icmp .gt o, 3)) (hp : pc + 3 = pc') (ho : 0 ≤ (pc : Int) + o) (hp2 : ((pc : Int) + o).toNat = pc2) (h1 : y.toInt < x.toInt → Go p e below Q (T.setTop (mkF m pc2 Ls st))) (h2 : x.toInt ≤ y.toInt → Go p e below Q (T.setTop (mkF m pc' Ls st))) : Go p e below Q (T.setTop (mkF m pc Ls (.int y :: .int x :: st))) := go_icmp C X hd hp ho hp2 (fun q => h1 (ic_gt.1.mp q)) (fun q => h2 (ic_gt.2.mp q))
theorem go_if_gt (C : Cx p s m meth c Z a0 own bytes maxL ret nm) (X : St Z p l e R s m args below meth c n0 T h k n) {o : Int} {x : Int32} (hd : decode bytes pc = .ok (.ifCond .gt o, 3)) (hp : pc + 3 = pc') (ho : 0 ≤ (pc : Int) + o) (hp2 : ((pc : Int) + o).toNat = pc2) (h1 : 0 < x.toInt → Go p e below Q (T.setTop (mkF m pc2 Ls st))) (h2 : x.toInt ≤ 0 → Go p e below Q (T.setTop (mkF m pc' Ls st))) : Go p e below Q (T.setTop (mkF m pc Ls (.int x :: st))) := go_if C X hd hp ho hp2 (fun q => h1 (ic_gt.1.mp q)) (fun q => h2 (ic_gt.2.mp q))
theorem go_lif_gt (C : Cx p s m meth c Z a0 own bytes maxL ret nm) (X : St Z p l e R s m args below meth c n0 T h k n) {o : Int} {x y : Int64} {pc1 : Nat} (hp1 : pc + 1 = pc1) (hd1 : decode bytes pc = .ok (.lcmp, 1)) (hd : decode bytes pc1 = .ok (.ifCond .gt o, 3)) (hp : pc1 + 3 = pc') (ho : 0 ≤ (pc1 : Int) + o) (hp2 : ((pc1 : Int) + o).toNat = pc2) (h1 : y.toInt < x.toInt → Go p e below Q (T.setTop (mkF m pc2 Ls st))) (h2 : x.toInt ≤ y.toInt → Go p e below Q (T.setTop (mkF m pc' Ls st))) : Go p e below Q (T.setTop (mkF m pc Ls (.long y :: .long x :: st))) := go_lcmp C X _ hp1 hd1 (go_if_gt C X hd hp ho hp2 (fun q => h1 ((lc_i x y).2.1.mp q)) (fun q => h2 (by have := mt (lc_i x y).2.1.mpr (by omega); omega)))
theorem go_icmp_le (C : Cx p s m meth c Z a0 own bytes maxL ret nm) (X : St Z p l e R s m args below meth c n0 T h k n) {o : Int} {x y : Int32} (hd : decode bytes pc = .ok (.if_icmp .le o, 3)) (hp : pc + 3 = pc') (ho : 0 ≤ (pc : Int) + o) (hp2 : ((pc : Int) + o).toNat = pc2) (h1 : x.toInt ≤ y.toInt → Go p e below Q (T.setTop (mkF m pc2 Ls st))) (h2 : y.toInt < x.toInt → Go p e below Q (T.setTop (mkF m pc' Ls st))) : Go p e below Q (T.setTop (mkF m pc Ls (.int y :: .int x :: st))) := go_icmp C X hd hp ho hp2 (fun q => h1 (ic_le.1.mp q)) (fun q => h2 (ic_le.2.mp q))
theorem go_if_le (C : Cx p s m meth c Z a0 own bytes maxL ret nm) (X : St Z p l e R s m args below meth c n0 T h k n) {o : Int} {x : Int32} (hd : decode bytes pc = .ok (.ifCond .le o, 3)) (hp : pc + 3 = pc') (ho : 0 ≤ (pc : Int) + o) (hp2 : ((pc : Int) + o).toNat = pc2) (h1 : x.toInt ≤ 0 → Go p e below Q (T.setTop (mkF m pc2 Ls st))) (h2 : 0 < x.toInt → Go p e below Q (T.setTop (mkF m pc' Ls st))) : Go p e below Q (T.setTop (mkF m pc Ls (.int x :: st))) := go_if C X hd hp ho hp2 (fun q => h1 (ic_le.1.mp q)) (fun q => h2 (ic_le.2.mp q))
theorem go_lif_le (C : Cx p s m meth c Z a0 own bytes maxL ret nm) (X : St Z p l e R s m args below meth c n0 T h k n) {o : Int} {x y : Int64} {pc1 : Nat} (hp1 : pc + 1 = pc1) (hd1 : decode bytes pc = .ok (.lcmp, 1)) (hd : decode bytes pc1 = .ok (.ifCond .le o, 3)) (hp : pc1 + 3 = pc') (ho : 0 ≤ (pc1 : Int) + o) (hp2 : ((pc1 : Int) + o).toNat = pc2) (h1 : x.toInt ≤ y.toInt → Go p e below Q (T.setTop (mkF m pc2 Ls st))) (h2 : y.toInt < x.toInt → Go p e below Q (T.setTop (mkF m pc' Ls st))) : Go p e below Q (T.setTop (mkF m pc Ls (.long y :: .long x :: st))) := go_lcmp C X _ hp1 hd1 (go_if_le C X hd hp ho hp2 (fun q => h1 (by have := mt (lc_i x y).2.1.mpr (by omega); omega)) (fun q => h2 ((lc_i x y).2.1.mp q)))
theorem go_icmp_eq (C : Cx p s m meth c Z a0 own bytes maxL ret nm) (X : St Z p l e R s m args below meth c n0 T h k n) {o : Int} {x y : Int32} (hd : decode bytes pc = .ok (.if_icmp .eq o, 3)) (hp : pc + 3 = pc') (ho : 0 ≤ (pc : Int) + o) (hp2 : ((pc : Int) + o).toNat = pc2) (h1 : x = y → Go p e below Q (T.setTop (mkF m pc2 Ls st))) (h2 : ¬ x = y → Go p e below Q (T.setTop (mkF m pc' Ls st))) : Go p e below Q (T.setTop (mkF m pc Ls (.int y :: .int x :: st))) := go_icmp C X hd hp ho hp2 (fun q => h1 (ic_eq.1.mp q)) (fun q => h2 (ic_eq.2.mp q))
theorem go_if_eq (C : Cx p s m meth c Z a0 own bytes maxL ret nm) (X : St Z p l e R s m args below meth c n0 T h k n) {o : Int} {x : Int32} (hd : decode bytes pc = .ok (.ifCond .eq o, 3)) (hp : pc + 3 = pc') (ho : 0 ≤ (pc : Int) + o) (hp2 : ((pc : Int) + o).toNat = pc2) (h1 : x = 0 → Go p e below Q (T.setTop (mkF m pc2 Ls st))) (h2 : ¬ x = 0 → Go p e below Q (T.setTop (mkF m pc' Ls st))) : Go p e below Q (T.setTop (mkF m pc Ls (.int x :: st))) := go_if C X hd hp ho hp2 (fun q => h1 (ic_eq.1.mp q)) (fun q => h2 (ic_eq.2.mp q))
theorem go_lif_eq (C : Cx p s m meth c Z a0 own bytes maxL ret nm) (X : St Z p l e R s m args below meth c n0 T h k n) {o : Int} {x y : Int64} {pc1 : Nat} (hp1 : pc + 1 = pc1) (hd1 : decode bytes pc = .ok (.lcmp, 1)) (hd : decode bytes pc1 = .ok (.ifCond .eq o, 3)) (hp : pc1 + 3 = pc') (ho : 0 ≤ (pc1 : Int) + o) (hp2 : ((pc1 : Int) + o).toNat = pc2) (h1 : x = y → Go p e below Q (T.setTop (mkF m pc2 Ls st))) (h2 : ¬ x = y → Go p e below Q (T.setTop (mkF m pc' Ls st))) : Go p e below Q (T.setTop (mkF m pc Ls (.long y :: .long x :: st))) := go_lcmp C X _ hp1 hd1 (go_if_eq C X hd hp ho hp2 (fun q => h1 ((lc_i x y).2.2.mp q)) (fun q => h2 (mt (lc_i x y).2.2.mpr q)))
theorem go_icmp_ne (C : Cx p s m meth c Z a0 own bytes maxL ret nm) (X : St Z p l e R s m args below meth c n0 T h k n) {o : Int} {x y : Int32} (hd : decode bytes pc = .ok (.if_icmp .ne o, 3)) (hp : pc + 3 = pc') (ho : 0 ≤ (pc : Int) + o) (hp2 : ((pc : Int) + o).toNat = pc2) (h1 : ¬ x = y → Go p e below Q (T.setTop (mkF m pc2 Ls st))) (h2 : x = y → Go p e below Q (T.setTop (mkF m pc' Ls st))) : Go p e below Q (T.setTop (mkF m pc Ls (.int y :: .int x :: st))) := go_icmp C X hd hp ho hp2 (fun q => h1 (ic_ne.1.mp q)) (fun q => h2 (ic_ne.2.mp q))
theorem go_if_ne (C : Cx p s m meth c Z a0 own bytes maxL ret nm) (X : St Z p l e R s m args below meth c n0 T h k n) {o : Int} {x : Int32} (hd : decode bytes pc = .ok (.ifCond .ne o, 3)) (hp : pc + 3 = pc') (ho : 0 ≤ (pc : Int) + o) (hp2 : ((pc : Int) + o).toNat = pc2) (h1 : ¬ x = 0 → Go p e below Q (T.setTop (mkF m pc2 Ls st))) (h2 : x = 0 → Go p e below Q (T.setTop (mkF m pc' Ls st))) : Go p e below Q (T.setTop (mkF m pc Ls (.int x :: st))) := go_if C X hd hp ho hp2 (fun q => h1 (ic_ne.1.mp q)) (fun q => h2 (ic_ne.2.mp q))
theorem go_lif_ne (C : Cx p s m meth c Z a0 own bytes maxL ret nm) (X : St Z p l e R s m args below meth c n0 T h k n) {o : Int} {x y : Int64} {pc1 : Nat} (hp1 : pc + 1 = pc1) (hd1 : decode bytes pc = .ok (.lcmp, 1)) (hd : decode bytes pc1 = .ok (.ifCond .ne o, 3)) (hp : pc1 + 3 = pc') (ho : 0 ≤ (pc1 : Int) + o) (hp2 : ((pc1 : Int) + o).toNat = pc2) (h1 : ¬ x = y → Go p e below Q (T.setTop (mkF m pc2 Ls st))) (h2 : x = y → Go p e below Q (T.setTop (mkF m pc' Ls st))) : Go p e below Q (T.setTop (mkF m pc Ls (.long y :: .long x :: st))) := go_lcmp C X _ hp1 hd1 (go_if_ne C X hd hp ho hp2 (fun q => h1 (mt (lc_i x y).2.2.mpr q)) (fun q => h2 ((lc_i x y).2.2.mp q)))
theorem go_dload (C : Cx p s m meth c Z a0 own bytes maxL ret nm) (X : St Z p l e R s m args below meth c n0 T h k n) {i : Nat} {v : UInt64} (pc' : Nat) (hp : pc + 2 = pc') (hd : decode bytes pc = .ok (.dload i, 2)) (hl : Ls[i]? = some (.val (.double v))) (hr : Go p e below Q (T.setTop (mkF m pc' Ls (.double v :: st)))) : Go p e below Q (T.setTop (mkF m pc Ls st)) := by
  subst hp
  obtain ⟨locs, Y, -, -, -⟩ := X
  exact Go.back (fun t kt => Jvm.Free.XS.dload Y.here C.1 rfl (C.cd hd) hl kt) hr
theorem go_dloadN (C : Cx p s m meth c Z a0 own bytes maxL ret nm) (X : St Z p l e R s m args below meth c n0 T h k n) {i : Fin 4} {v : UInt64} (pc' : Nat) (hp : pc + 1 = pc') (hd : decode bytes pc = .ok (.dload_n i, 1)) (hl : Ls[i.val]? = some (.val (.double v))) (hr : Go p e below Q (T.setTop (mkF m pc' Ls (.double v :: st)))) : Go p e below Q (T.setTop (mkF m pc Ls st)) := by
  subst hp
  obtain ⟨locs, Y, -, -, -⟩ := X
  exact Go.back (fun t kt => Jvm.Free.XS.dloadN Y.here C.1 rfl (C.cd hd) hl kt) hr
theorem go_dstore (C : Cx p s m meth c Z a0 own bytes maxL ret nm) (X : St Z p l e R s m args below meth c n0 T h k n) {i : Nat} {v : UInt64} (pc' : Nat) (hp : pc + 2 = pc') (hd : decode bytes pc = .ok (.dstore i, 2)) (Ls' : Array Slot) (hl : storeLocals Ls i (.double v) = some Ls') (hr : Go p e below Q (T.setTop (mkF m pc' Ls' st))) : Go p e below Q (T.setTop (mkF m pc Ls (.double v :: st))) := by
  subst hp
  obtain ⟨locs, Y, -, -, -⟩ := X
  exact Go.back (fun t kt => Jvm.Free.XS.dstore Y.here C.1 rfl (C.cd hd) rfl hl kt) hr
theorem go_dstoreN (C : Cx p s m meth c Z a0 own bytes maxL ret nm) (X : St Z p l e R s m args below meth c n0 T h k n) {i : Fin 4} {v : UInt64} (pc' : Nat) (hp : pc + 1 = pc') (hd : decode bytes pc = .ok (.dstore_n i, 1)) (Ls' : Array Slot) (hl : storeLocals Ls i.val (.double v) = some Ls') (hr : Go p e below Q (T.setTop (mkF m pc' Ls' st))) : Go p e below Q (T.setTop (mkF m pc Ls (.double v :: st))) := by
  subst hp
  obtain ⟨locs, Y, -, -, -⟩ := X
  exact Go.back (fun t kt => Jvm.Free.XS.dstoreN Y.here C.1 rfl (C.cd hd) rfl hl kt) hr
theorem go_dconst0 (C : Cx p s m meth c Z a0 own bytes maxL ret nm) (X : St Z p l e R s m args below meth c n0 T h k n)  (pc' : Nat) (hp : pc + 1 = pc') (hd : decode bytes pc = .ok (.dconst 0, 1)) (hr : Go p e below Q (T.setTop (mkF m pc' Ls (.double (FP.l2d 0) :: st)))) : Go p e below Q (T.setTop (mkF m pc Ls st)) := by
  subst hp
  obtain ⟨locs, Y, -, -, -⟩ := X
  exact Go.back (fun t kt => Jvm.Free.XS.dconst0 Y.here C.1 rfl (C.cd hd) (by decide +kernel) kt) hr
theorem go_i2d (C : Cx p s m meth c Z a0 own bytes maxL ret nm) (X : St Z p l e R s m args below meth c n0 T h k n) {x : Int32} (pc' : Nat) (hp : pc + 1 = pc') (hd : decode bytes pc = .ok (.i2d, 1)) (hr : Go p e below Q (T.setTop (mkF m pc' Ls (.double (FP.l2d x.toInt64) :: st)))) : Go p e below Q (T.setTop (mkF m pc Ls (.int x :: st))) := by
  subst hp
  obtain ⟨locs, Y, -, -, -⟩ := X
  exact Go.back (fun t kt => Jvm.Free.XS.i2dS Y.here C.1 rfl (C.cd hd) rfl (i2d_w x) kt) hr
theorem go_l2d (C : Cx p s m meth c Z a0 own bytes maxL ret nm) (X : St Z p l e R s m args below meth c n0 T h k n) {x : Int64} (pc' : Nat) (hp : pc + 1 = pc') (hd : decode bytes pc = .ok (.l2d, 1)) (hr : Go p e below Q (T.setTop (mkF m pc' Ls (.double (FP.l2d x) :: st)))) : Go p e below Q (T.setTop (mkF m pc Ls (.long x :: st))) := by
  subst hp
  obtain ⟨locs, Y, -, -, -⟩ := X
  exact Go.back (fun t kt => Jvm.Free.XS.l2dS Y.here C.1 rfl (C.cd hd) rfl rfl kt) hr
theorem go_dadd (C : Cx p s m meth c Z a0 own bytes maxL ret nm) (X : St Z p l e R s m args below meth c n0 T h k n) {x y : Int64} (pc' : Nat) (hp : pc + 1 = pc') (hd : decode bytes pc = .ok (.dadd, 1)) (ha : B53 x) (hb : B53 y) (hr : Go p e below Q (T.setTop (mkF m pc' Ls (.double (FP.l2d (x + y)) :: st)))) : Go p e below Q (T.setTop (mkF m pc Ls (.double (FP.l2d y) :: .double (FP.l2d x) :: st))) := by
  subst hp
  obtain ⟨locs, Y, -, -, -⟩ := X
  exact Go.back (fun t kt => Jvm.Free.XS.daddS Y.here C.1 rfl (C.cd hd) rfl (nn_w (dadd_w ha hb)) (dadd_w ha hb) kt) hr
theorem go_dcmp (C : Cx p s m meth c Z a0 own bytes maxL ret nm) (X : St Z p l e R s m args below meth c n0 T h k n) {o : CmpOp} {x y : Int64} (pc' : Nat) (hp : pc + 1 = pc') (hd : decode bytes pc = .ok (.dcmp o, 1)) (ha : B53 x) (hb : B53 y) (hr : Go p e below Q (T.setTop (mkF m pc' Ls (.int (lcmpW x y) :: st)))) : Go p e below Q (T.setTop (mkF m pc Ls (.double (FP.l2d y) :: .double (FP.l2d x) :: st))) := by
  subst hp
  obtain ⟨locs, Y, -, -, -⟩ := X
  exact Go.back (fun t kt => Jvm.Free.XS.dcmpS Y.here C.1 rfl (C.cd hd) rfl (dcmpV_w ha hb o) kt) hr
theorem go_ldcInt (C : Cx p s m meth c Z a0 own bytes maxL ret nm) (X : St Z p l e R s m args below meth c n0 T h k n) {idx : Nat} {v : Int32} (w : (Jvm.Cond.constant own idx v).before a0 Z = true) (hp : pc + 2 = pc') (hd : decode bytes pc = .ok (.ldc idx, 2)) (hr : Go p e below Q (T.setTop (mkF m pc' Ls (.int v :: st)))) : Go p e below Q (T.setTop (mkF m pc Ls st)) := by
  subst hp
  obtain ⟨locs, Y, -, -, -⟩ := X
  exact Go.back (fun t kt => Y.ldcInt C.1 C.ow (mvT C.hZ w) (g := mkF m pc Ls st) rfl (C.cd hd) t kt) hr
theorem go_ldcwInt (C : Cx p s m meth c Z a0 own bytes maxL ret nm) (X : St Z p l e R s m args below meth c n0 T h k n) {idx : Nat} {v : Int32} (w : (Jvm.Cond.constant own idx v).before a0 Z = true) (hp : pc + 3 = pc') (hd : decode bytes pc = .ok (.ldc_w idx, 3)) (hr : Go p e below Q (T.setTop (mkF m pc' Ls (.int v :: st)))) : Go p e below Q (T.setTop (mkF m pc Ls st)) := by
  subst hp
  obtain ⟨locs, Y, -, -, -⟩ := X
  exact Go.back (fun t kt => Y.ldcwInt C.1 C.ow (mvT C.hZ w) (g := mkF m pc Ls st) rfl (C.cd hd) t kt) hr
theorem go_ldc2Long (C : Cx p s m meth c Z a0 own bytes maxL ret nm) (X : St Z p l e R s m args below meth c n0 T h k n) {idx : Nat} {v : Int64} (w : (Jvm.Cond.constantLong own idx v).before a0 Z = true) (hp : pc + 3 = pc') (hd : decode bytes pc = .ok (.ldc2_w idx, 3)) (hr : Go p e below Q (T.setTop (mkF m pc' Ls (.long v :: st)))) : Go p e below Q (T.setTop (mkF m pc Ls st)) := by
  subst hp
  obtain ⟨locs, Y, -, -, -⟩ := X
  exact Go.back (fun t kt => Y.ldc2Long C.1 C.ow (mvT C.hZ w) (g := mkF m pc Ls st) rfl (C.cd hd) t kt) hr
variable {kc kn : Nat} {Qy : Option Value → Heap → Prop}
theorem go_leave (C : Cx p s m meth c Z a0 own bytes maxL ret nm) (X : St Z p l e R s m args below meth c n0 T h k n) {v : Option Value} {f : JFrame} (hv : meth.sig.returnType = none → v = none) (hQ : Qy v h) (hk : k ≤ kc) (hn : n ≤ kn)
    (go : ∀ {locs : List Loc} (Y : Stand p l e R s m args below meth c T locs k n) {fs : List Frame}, (∀ (f : JFrame) (acts : List Action), f.method = m → f.locked = none → f.entered = [] → (doReturn e (T.setTop f) acts v).1 = T.setFrames fs) → Steps p.tables e below (T.setTop f) (T.setFrames fs)) :
    Go p e below (FinQ s kc kn n0 Qy) (T.setTop f) := by
  obtain ⟨locs, Y, N, -, rfl⟩ := X
  obtain ⟨fs, hr, hrun, hended, hW, hsame⟩ := Y.leave hv C.lk
  exact ⟨_, _, go Y hr, hrun, hended, _, _, rfl, ⟨N, hQ⟩, ⟨_, rfl⟩, hW, hsame.mono hk hn⟩
theorem go_ret0 (C : Cx p s m meth c Z a0 own bytes maxL none nm) (X : St Z p l e R s m args below meth c n0 T h k n) (hd : decode bytes pc = .ok (.return_, 1)) (hQ : Qy none h) (hk : k ≤ kc) (hn : n ≤ kn) : Go p e below (FinQ s kc kn n0 Qy) (T.setTop (mkF m pc Ls [])) :=
  go_leave C X (fun _ => rfl) hQ hk hn fun Y _ hr => Y.returnOut C.1 C.rt (C.cd hd) hr
theorem go_retI (C : Cx p s m meth c Z a0 own bytes maxL (some .int) nm) (X : St Z p l e R s m args below meth c n0 T h k n) {z : Int32} (hd : decode bytes pc = .ok (.ireturn, 1)) (hQ : Qy (some (.int z)) h) (hk : k ≤ kc) (hn : n ≤ kn) : Go p e below (FinQ s kc kn n0 Qy) (T.setTop (mkF m pc Ls (.int z :: st))) :=
  go_leave C X (fun q => by rw [C.rt] at q; cases q) hQ hk hn fun Y _ hr => retOut Y C.1 C.rt rfl (Or.inl ⟨rfl, Or.inl rfl, _, rfl⟩) (C.cd hd) hr
theorem go_retJ (C : Cx p s m meth c Z a0 own bytes maxL (some .long) nm) (X : St Z p l e R s m args below meth c n0 T h k n) {z : Int64} (hd : decode bytes pc = .ok (.lreturn, 1)) (hQ : Qy (some (.long z)) h) (hk : k ≤ kc) (hn : n ≤ kn) : Go p e below (FinQ s kc kn n0 Qy) (T.setTop (mkF m pc Ls (.long z :: st))) :=
  go_leave C X (fun q => by rw [C.rt] at q; cases q) hQ hk hn fun Y _ hr => retOut Y C.1 C.rt rfl (Or.inr (Or.inl ⟨rfl, rfl, _, rfl⟩)) (C.cd hd) hr
theorem go_retD (C : Cx p s m meth c Z a0 own bytes maxL (some .double) nm) (X : St Z p l e R s m args below meth c n0 T h k n) {z : UInt64} (hd : decode bytes pc = .ok (.dreturn, 1)) (hQ : Qy (some (.double z)) h) (hk : k ≤ kc) (hn : n ≤ kn) : Go p e below (FinQ s kc kn n0 Qy) (T.setTop (mkF m pc Ls (.double z :: st))) :=
  go_leave C X (fun q => by rw [C.rt] at q; cases q) hQ hk hn fun Y _ hr => retOut Y C.1 C.rt rfl (Or.inr (Or.inr (Or.inl ⟨rfl, rfl, _, rfl⟩))) (C.cd hd) hr
theorem go_retA {ty : FieldType} (C : Cx p s m meth c Z a0 own bytes maxL (some ty) nm) (X : St Z p l e R s m args below meth c n0 T h k n) {v : Value} (hd : decode bytes pc = .ok (.areturn, 1)) (ht : ty.isReference = true) (hv : v.isRef = true) (hQ : Qy (some v) h) (hk : k ≤ kc) (hn : n ≤ kn) : Go p e below (FinQ s kc kn n0 Qy) (T.setTop (mkF m pc Ls (v :: st))) :=
  go_leave C X (fun q => by rw [C.rt] at q; cases q) hQ hk hn fun Y _ hr => retOut Y C.1 C.rt (by cases ty <;> first | (cases ht; done) | rfl) (Or.inr (Or.inr (Or.inr (Or.inr ⟨rfl, ht, hv⟩)))) (C.cd hd) hr
theorem go_retN {ty : FieldType} (C : Cx p s m meth c Z a0 own bytes maxL (some ty) nm) (X : St Z p l e R s m args below meth c n0 T h k n) {z z' : Int32} (ht : ty = .boolean ∨ ty = .byte ∨ ty = .char ∨ ty = .short) (hz : nar ty z = z') (hd : decode bytes pc = .ok (.ireturn, 1)) (hQ : Qy (some (.int z')) h) (hk : k ≤ kc) (hn : n ≤ kn) : Go p e below (FinQ s kc kn n0 Qy) (T.setTop (mkF m pc Ls (.int z :: st))) := by
  subst hz
  exact go_leave C X (fun q => by rw [C.rt] at q; cases q) hQ hk hn fun Y _ hr => retN Y C.1 C.rt ht (C.cd hd) hr
/-! calls by the callee's contract -/
variable {idx : Nat} {y : MethodName} {yb : ByteArray} {yl : Nat} {yr : Option FieldType} {rm : Room} {as' : Array Value} {QY : Option Value → Heap → Prop} {argsL rest : List Value}
theorem con_back (C : Cx p s m meth c Z a0 own bytes maxL ret nm) (hM : Con l Z y yb yl yr rm as' h n0 QY) {W : Nat} (wc : (Jvm.Cond.code y yb yl yr).before a0 Z = true) (wz : (Jvm.Cond.initialized y.cls).before a0 Z = true) (hf : rm.frames + 1 ≤ R.frames) (hl : W + (yl + 11) + rm.locals ≤ R.locals) :
    Back l R p e below s args y 3 W (fun A a => a = as' ∧ A.U.heap = h ∧ A.cells + rm.cells ≤ R.cells ∧ A.slots + rm.slots ≤ R.slots) (fun A _ v B => ∃ L, (Fr n0 L ∧ QY v B.U.heap) ∧ B.locs = A.locs ++ L ∧ B.cells = A.cells + rm.cells ∧ B.slots = A.slots + rm.slots) :=
  backOf (Q := fun v h' L => Fr n0 L ∧ QY v h') (hM []) C.hZ wc wz hf hl
theorem go_callS (C : Cx p s m meth c Z a0 own bytes maxL ret nm) (X : St Z p l e R s m args below meth c n0 T h k n) (wl : (Jvm.Cond.methodLink own idx y).before a0 Z = true) (ws : (Jvm.Cond.static y).before a0 Z = true) (wi : (Jvm.Cond.initialized y.cls).before a0 Z = true) (wc : (Jvm.Cond.code y yb yl yr).before a0 Z = true)
    (hM : Con l Z y yb yl yr rm as' h n0 QY) (hlen : ∀ sig, parseMethodDescriptor y.desc = some sig → argsL.length = sig.parameters.length) (ha : argsL.toArray = as') (hy : y.cls ≠ "java/lang/invoke/MethodHandle" ∧ y.cls ≠ "java/lang/invoke/VarHandle")
    (hf : rm.frames + 1 ≤ R.frames) (hl : (rest.map fun v => v.category).sum + (yl + 11) + rm.locals ≤ R.locals) (hc : k + rm.cells ≤ R.cells) (hn : n + rm.slots ≤ R.slots) (hst : st = argsL.reverse ++ rest) (hsz : Ls.size = maxL) (hp : pc + 3 = pc') (hd : decode bytes pc = .ok (.invokestatic idx, 3))
    (hr : ∀ T' h' v, QY v h' → St Z p l e R s m args below meth c n0 T' h' (k + rm.cells) (n + rm.slots) → Go p e below Q (T'.setTop (mkF m pc' Ls (v.toList ++ rest)))) : Go p e below Q (T.setTop (mkF m pc Ls st)) := by
  subst hp; subst ha; subst hst
  obtain ⟨locs, Y, N, zs, eT⟩ := X
  obtain ⟨v, _, ⟨T', L', k', n'⟩, -, X', ⟨Lc, ⟨N', hQ⟩, l1, y1, z1⟩, stp⟩ := Jvm.LawKit.callS Y C.1 C.ow (mvT C.hZ wl) (mvT C.hZ ws) (mvT C.hZ wi) (mvT C.hZ wc) hy (con_back C hM (W := (rest.map fun v => v.category).sum) wc wi hf hl) (g := mkF m pc Ls (argsL.reverse ++ rest)) rfl (hsz.trans C.ml.symm) (argsL := argsL) (rest := rest) hlen rfl (by show 2 * 0 + _ ≤ _; omega) (C.cd hd) (fun _ _ => ⟨rfl, eT, hc, hn⟩)
  dsimp only [Pt.U, Pt.locs, Pt.cells, Pt.slots] at X' l1 y1 z1 stp hQ
  subst l1 y1 z1
  exact Go.back stp (hr T' T'.heap v hQ ⟨_, X', N.app N', zs, rfl⟩)
theorem go_special (C : Cx p s m meth c Z a0 own bytes maxL ret nm) (X : St Z p l e R s m args below meth c n0 T h k n) {a : Addr} (wl : (Jvm.Cond.methodLink own idx y).before a0 Z = true) (ws : (Jvm.Cond.instanceMethod y).before a0 Z = true) (wi : (Jvm.Cond.initialized y.cls).before a0 Z = true) (wc : (Jvm.Cond.code y yb yl none).before a0 Z = true) (hy1 : y.name = "<init>")
    (hM : Con l Z y yb yl none rm as' h n0 QY) (hlen : ∀ sig, parseMethodDescriptor y.desc = some sig → argsL.length = sig.parameters.length) (ha : (.ref a :: argsL).toArray = as') (hy : y.cls ≠ "java/lang/invoke/MethodHandle" ∧ y.cls ≠ "java/lang/invoke/VarHandle")
    (hf : rm.frames + 1 ≤ R.frames) (hl : (rest.map fun v => v.category).sum + (yl + 11) + rm.locals ≤ R.locals) (hc : k + rm.cells ≤ R.cells) (hn : n + rm.slots ≤ R.slots) (hst : st = argsL.reverse ++ .ref a :: rest) (hsz : Ls.size = maxL) (hp : pc + 3 = pc') (hd : decode bytes pc = .ok (.invokespecial idx, 3))
    (hr : ∀ T' h' v, QY v h' → St Z p l e R s m args below meth c n0 T' h' (k + rm.cells) (n + rm.slots) → Go p e below Q (T'.setTop (mkF m pc' Ls (v.toList ++ rest)))) : Go p e below Q (T.setTop (mkF m pc Ls st)) := by
  subst hp; subst ha; subst hst
  obtain ⟨locs, Y, N, zs, eT⟩ := X
  obtain ⟨v, _, ⟨T', L', k', n'⟩, -, X', ⟨Lc, ⟨N', hQ⟩, l1, y1, z1⟩, stp⟩ := Y.specialBack C.1 hy1 C.ow (mvT C.hZ wl) (mvT C.hZ ws) (mvT C.hZ wc) hy (con_back C hM (W := (rest.map fun v => v.category).sum) wc wi hf hl) (g := mkF m pc Ls (argsL.reverse ++ .ref a :: rest)) rfl (hsz.trans C.ml.symm) (Steps.refl _) (a := a) (argsL := argsL) (rest := rest) hlen rfl (by show 2 * 0 + _ ≤ _; omega) (C.cd hd) (fun _ _ => ⟨rfl, eT, hc, hn⟩)
  dsimp only [Pt.U, Pt.locs, Pt.cells, Pt.slots] at X' l1 y1 z1 stp hQ
  subst l1 y1 z1
  exact Go.back (fun t kt => stp.trans kt) (hr T' T'.heap v hQ ⟨_, X', N.app N', zs, rfl⟩)
theorem go_virtual (C : Cx p s m meth c Z a0 own bytes maxL ret nm) (X : St Z p l e R s m args below meth c n0 T h k n) {a : Addr} {cn : String} {y0 : MethodName} (E : Exa Z h a cn) (wl : (Jvm.Cond.methodLink own idx y0).before a0 Z = true) (wd : (Jvm.Cond.declares y0).before a0 Z = true) (hnf : NotFace s y0) (wsel : (Jvm.Cond.selects cn y0 y).before a0 Z = true) (ws : (Jvm.Cond.instanceMethod y).before a0 Z = true) (wi : (Jvm.Cond.initialized y.cls).before a0 Z = true) (wc : (Jvm.Cond.code y yb yl yr).before a0 Z = true)
    (hM : Con l Z y yb yl yr rm as' h n0 QY) (hlen : ∀ sig, parseMethodDescriptor y0.desc = some sig → argsL.length = sig.parameters.length) (ha : (.ref a :: argsL).toArray = as') (hy : y0.cls ≠ "java/lang/invoke/MethodHandle" ∧ y0.cls ≠ "java/lang/invoke/VarHandle")
    (hf : rm.frames + 1 ≤ R.frames) (hl : (rest.map fun v => v.category).sum + (yl + 11) + rm.locals ≤ R.locals) (hc : k + rm.cells ≤ R.cells) (hn : n + rm.slots ≤ R.slots) (hst : st = argsL.reverse ++ .ref a :: rest) (hsz : Ls.size = maxL) (hp : pc + 3 = pc') (hd : decode bytes pc = .ok (.invokevirtual idx, 3))
    (hr : ∀ T' h' v, QY v h' → St Z p l e R s m args below meth c n0 T' h' (k + rm.cells) (n + rm.slots) → Go p e below Q (T'.setTop (mkF m pc' Ls (v.toList ++ rest)))) : Go p e below Q (T.setTop (mkF m pc Ls st)) := by
  subst hp; subst ha; subst hst
  obtain ⟨locs, Y, N, zs, eT⟩ := X
  obtain ⟨cq, kq, qa, qb, qc⟩ := isOf C.hZ eT E
  obtain ⟨v, _, ⟨T', L', k', n'⟩, -, X', ⟨Lc, ⟨N', hQ⟩, l1, y1, z1⟩, stp⟩ := Y.virtualBack C.1 C.ow (mvT C.hZ wl) (mvT C.hZ wd) hnf (mvT C.hZ wsel) (mvT C.hZ ws) hy (con_back C hM (W := (rest.map fun v => v.category).sum) wc wi hf hl) qa qc (g := mkF m pc Ls (argsL.reverse ++ .ref a :: rest)) rfl (hsz.trans C.ml.symm) (Steps.refl _) (argsL := argsL) (rest := rest) hlen rfl (by show 2 * 0 + _ ≤ _; omega) (C.cd hd) (fun _ _ => ⟨rfl, eT, hc, hn⟩)
  dsimp only [Pt.U, Pt.locs, Pt.cells, Pt.slots] at X' l1 y1 z1 stp hQ
  subst l1 y1 z1
  exact Go.back (fun t kt => stp.trans kt) (hr T' T'.heap v hQ ⟨_, X', N.app N', zs, rfl⟩)
theorem go_private (C : Cx p s m meth c Z a0 own bytes maxL ret nm) (X : St Z p l e R s m args below meth c n0 T h k n) {a : Addr} {cn : String} (E : Exa Z h a cn) (wl : (Jvm.Cond.methodLink own idx y).before a0 Z = true) (ws : (Jvm.Cond.instanceMethod y).before a0 Z = true) (wsel : (Jvm.Cond.selects y.cls y y).before a0 Z = true) (wp : (Jvm.Cond.privateMethod y).before a0 Z = true) (wi : (Jvm.Cond.initialized y.cls).before a0 Z = true) (wc : (Jvm.Cond.code y yb yl yr).before a0 Z = true)
    (hM : Con l Z y yb yl yr rm as' h n0 QY) (hlen : ∀ sig, parseMethodDescriptor y.desc = some sig → argsL.length = sig.parameters.length) (ha : (.ref a :: argsL).toArray = as') (hy : y.cls ≠ "java/lang/invoke/MethodHandle" ∧ y.cls ≠ "java/lang/invoke/VarHandle")
    (hf : rm.frames + 1 ≤ R.frames) (hl : (rest.map fun v => v.category).sum + (yl + 11) + rm.locals ≤ R.locals) (hc : k + rm.cells ≤ R.cells) (hn : n + rm.slots ≤ R.slots) (hst : st = argsL.reverse ++ .ref a :: rest) (hsz : Ls.size = maxL) (hp : pc + 3 = pc') (hd : decode bytes pc = .ok (.invokevirtual idx, 3))
    (hr : ∀ T' h' v, QY v h' → St Z p l e R s m args below meth c n0 T' h' (k + rm.cells) (n + rm.slots) → Go p e below Q (T'.setTop (mkF m pc' Ls (v.toList ++ rest)))) : Go p e below Q (T.setTop (mkF m pc Ls st)) := by
  subst hp; subst ha; subst hst
  obtain ⟨locs, Y, N, zs, eT⟩ := X
  obtain ⟨cq, q1, q2⟩ := E.cell
  obtain ⟨v, _, ⟨T', L', k', n'⟩, -, X', ⟨Lc, ⟨N', hQ⟩, l1, y1, z1⟩, stp⟩ := Y.privateBack C.1 C.ow (mvT C.hZ wl) (mvT C.hZ ws) (mvT C.hZ wsel) (Cond.privateMethod_at (mvP C.hZ wp (args := #[]))) (mvT C.hZ wc) hy (con_back C hM (W := (rest.map fun v => v.category).sum) wc wi hf hl) (g := mkF m pc Ls (argsL.reverse ++ .ref a :: rest)) rfl (hsz.trans C.ml.symm) (Steps.refl _) (a := a) (by rw [eT]; exact q1) q2 (argsL := argsL) (rest := rest) hlen rfl (by show 2 * 0 + _ ≤ _; omega) (C.cd hd) (fun _ _ => ⟨rfl, eT, hc, hn⟩)
  dsimp only [Pt.U, Pt.locs, Pt.cells, Pt.slots] at X' l1 y1 z1 stp hQ
  subst l1 y1 z1
  exact Go.back (fun t kt => stp.trans kt) (hr T' T'.heap v hQ ⟨_, X', N.app N', zs, rfl⟩)
theorem go_initO (C : Cx p s m meth c Z a0 own bytes maxL ret nm) (X : St Z p l e R s m args below meth c n0 T h k n) {a : Addr} (w1 : (Jvm.Cond.methodLink own idx Lib.objectInit).before a0 Z = true) (w2 : (Jvm.Cond.instanceMethod Lib.objectInit).before a0 Z = true) (w3 : (Jvm.Cond.code Lib.objectInit ⟨#[0xb1]⟩ 1 none).before a0 Z = true)
    (hf : 1 ≤ R.frames) (hl : (st.map fun v => v.category).sum + 12 ≤ R.locals) (hsz : Ls.size = maxL) (hp : pc + 3 = pc') (hd : decode bytes pc = .ok (.invokespecial idx, 3))
    (hr : ∀ T', St Z p l e R s m args below meth c n0 T' h k n → Go p e below Q (T'.setTop (mkF m pc' Ls st))) : Go p e below Q (T.setTop (mkF m pc Ls (.ref a :: st))) := by
  subst hp
  obtain ⟨locs, Y, N, zs, eT⟩ := X
  obtain ⟨T', X', e', stp⟩ := initO Y C.1 C.hZ C.ow w1 w2 w3 eT (g := mkF m pc Ls (.ref a :: st)) rfl (hsz.trans C.ml.symm) rfl (C.cd hd) hf (W := (st.map fun v => v.category).sum) (by show 2 * 0 + _ ≤ _; omega) hl
  exact Go.back stp (hr T' ⟨_, X', N, zs, e'⟩)
/-! fields, new objects, arrays -/
theorem go_getF (C : Cx p s m meth c Z a0 own bytes maxL ret nm) (X : St Z p l e R s m args below meth c n0 T h k n) {R0 O fn d : String} {a : Addr} {v : Value} (w : (Jvm.Cond.fieldLink own idx R0 fn d).before a0 Z = true) (via : Via Z R0 O fn d) (F : Fld Z h a O fn d v) (hp : pc + 3 = pc') (hd : decode bytes pc = .ok (.getfield idx, 3))
    (hr : ∀ T', St Z p l e R s m args below meth c n0 T' h k n → Go p e below Q (T'.setTop (mkF m pc' Ls (v :: st)))) : Go p e below Q (T.setTop (mkF m pc Ls (.ref a :: st))) := by
  subst hp
  obtain ⟨locs, Y, N, zs, eT⟩ := X
  obtain ⟨T', X', e', stp⟩ := getF Y C.1 C.hZ C.ow (host := "") (Or.inl w) via eT F (g := mkF m pc Ls (.ref a :: st)) rfl rfl (C.cd hd)
  exact Go.back stp (hr T' ⟨_, X', N, zs, e'⟩)
theorem go_getFN (C : Cx p s m meth c Z a0 own bytes maxL ret nm) (X : St Z p l e R s m args below meth c n0 T h k n) {R0 O fn d host : String} {a : Addr} {v : Value} (w : (Jvm.Cond.fieldLinkNest own idx R0 fn d host).before a0 Z = true) (via : Via Z R0 O fn d) (F : Fld Z h a O fn d v) (hp : pc + 3 = pc') (hd : decode bytes pc = .ok (.getfield idx, 3))
    (hr : ∀ T', St Z p l e R s m args below meth c n0 T' h k n → Go p e below Q (T'.setTop (mkF m pc' Ls (v :: st)))) : Go p e below Q (T.setTop (mkF m pc Ls (.ref a :: st))) := by
  subst hp
  obtain ⟨locs, Y, N, zs, eT⟩ := X
  obtain ⟨T', X', e', stp⟩ := getF Y C.1 C.hZ C.ow (host := host) (Or.inr w) via eT F (g := mkF m pc Ls (.ref a :: st)) rfl rfl (C.cd hd)
  exact Go.back stp (hr T' ⟨_, X', N, zs, e'⟩)
theorem go_getS (C : Cx p s m meth c Z a0 own bytes maxL ret nm) (X : St Z p l e R s m args below meth c n0 T h k n) {O fn d : String} {v : Value} (w : (Jvm.Cond.fieldLink own idx O fn d).before a0 Z = true) (F : Sta Z h O fn d v) (hp : pc + 3 = pc') (hd : decode bytes pc = .ok (.getstatic idx, 3))
    (hr : ∀ T', St Z p l e R s m args below meth c n0 T' h k n → Go p e below Q (T'.setTop (mkF m pc' Ls (v :: st)))) : Go p e below Q (T.setTop (mkF m pc Ls st)) := by
  subst hp
  obtain ⟨locs, Y, N, zs, eT⟩ := X
  obtain ⟨T', X', e', stp⟩ := getS2 Y C.1 C.hZ C.ow (host := "") (Or.inl w) Via.refl eT F (g := mkF m pc Ls st) rfl (C.cd hd)
  exact Go.back stp (hr T' ⟨_, X', N, zs, e'⟩)
theorem go_putF (C : Cx p s m meth c Z a0 own bytes maxL ret nm) (X : St Z p l e R s m args below meth c n0 T h k n) {R0 O fn d cn : String} {kk : Nat} {ty : FieldType} {a : Addr} {v old : Value} (w : (Jvm.Cond.fieldLink own idx R0 fn d).before a0 Z = true) (via : Via Z R0 O fn d) (F : Fld Z h a O fn d old) (E : Exa Z h a cn) (L : (Jvm.Cond.lays cn O fn d).before a0 Z = true ∨ ((Jvm.Cond.laysFinal cn O fn d).before a0 Z = true ∧ own = O ∧ meth.name = "<init>")) (wi : (Jvm.Cond.instantiable cn kk).before a0 Z = true) (ga : n0 ≤ a)
    (hty : parseFieldDescriptor d = some ty) (hn : narrow ty v = v) (hf : fits ty v = true) (hp : pc + 3 = pc') (hd : decode bytes pc = .ok (.putfield idx, 3))
    (hr : ∀ T' h', Wr h h' a (Jvm.RoadKit.slotOf Z O fn d) v → St Z p l e R s m args below meth c n0 T' h' k n → Go p e below Q (T'.setTop (mkF m pc' Ls st))) : Go p e below Q (T.setTop (mkF m pc Ls (v :: .ref a :: st))) := by
  subst hp
  obtain ⟨locs, Y, N, zs, eT⟩ := X
  obtain ⟨T', h', X', e', W, stp⟩ := putF Y C.1 C.hZ C.ow (host := "") (Or.inl w) via eT F E L wi hty hn hf (g := mkF m pc Ls (v :: .ref a :: st)) rfl rfl (C.cd hd)
  exact Go.back stp (hr T' h' W ⟨_, X', Fr.snoc X' N ga, zs, e'⟩)
theorem go_putFN (C : Cx p s m meth c Z a0 own bytes maxL ret nm) (X : St Z p l e R s m args below meth c n0 T h k n) {R0 O fn d cn : String} {kk : Nat} {ty : FieldType} {a : Addr} {v v' old : Value} (w : (Jvm.Cond.fieldLink own idx R0 fn d).before a0 Z = true) (via : Via Z R0 O fn d) (F : Fld Z h a O fn d old) (E : Exa Z h a cn) (L : (Jvm.Cond.lays cn O fn d).before a0 Z = true ∨ ((Jvm.Cond.laysFinal cn O fn d).before a0 Z = true ∧ own = O ∧ meth.name = "<init>")) (wi : (Jvm.Cond.instantiable cn kk).before a0 Z = true) (ga : n0 ≤ a)
    (hty : parseFieldDescriptor d = some ty) (hn : narrow ty v = v') (hf : fits ty v' = true) (hp : pc + 3 = pc') (hd : decode bytes pc = .ok (.putfield idx, 3))
    (hr : ∀ T' h', Wr h h' a (Jvm.RoadKit.slotOf Z O fn d) v' → St Z p l e R s m args below meth c n0 T' h' k n → Go p e below Q (T'.setTop (mkF m pc' Ls st))) : Go p e below Q (T.setTop (mkF m pc Ls (v :: .ref a :: st))) := by
  subst hp
  obtain ⟨locs, Y, N, zs, eT⟩ := X
  obtain ⟨T', h', X', e', W, stp⟩ := putFN Y C.1 C.hZ C.ow w via eT F E L wi hty hn hf (g := mkF m pc Ls (v :: .ref a :: st)) rfl rfl (C.cd hd)
  exact Go.back stp (hr T' h' W ⟨_, X', Fr.snoc X' N ga, zs, e'⟩)
theorem go_new (C : Cx p s m meth c Z a0 own bytes maxL ret nm) (X : St Z p l e R s m args below meth c n0 T h k n) {cn : String} {kk : Nat} (w : (Jvm.Cond.classLink own idx cn).before a0 Z = true) (wi : (Jvm.Cond.instantiable cn kk).before a0 Z = true) (wz : (Jvm.Cond.initialized cn).before a0 Z = true) (hc : k + 1 ≤ R.cells) (hl : n + kk ≤ R.slots) (hp : pc + 3 = pc') (hd : decode bytes pc = .ok (.new idx, 3))
    (hr : ∀ T' h' a, a = h.size → n0 ≤ a → Ext h h' → Exa Z h' a cn → (∀ {O fn d : String} {ty : FieldType}, Laid Z a0 cn O fn d → parseFieldDescriptor d = some ty → Fld Z h' a O fn d (defaultValue ty)) → St Z p l e R s m args below meth c n0 T' h' (k + 1) (n + kk) → Go p e below Q (T'.setTop (mkF m pc' Ls (.ref a :: st)))) : Go p e below Q (T.setTop (mkF m pc Ls st)) := by
  subst hp
  have hsz := X.sz
  obtain ⟨locs, Y, N, zs, eT⟩ := X
  obtain ⟨T', h', X', e', E, A, D, -, stp⟩ := newO Y C.1 C.hZ C.ow w wi wz eT (g := mkF m pc Ls st) rfl (C.cd hd) hc hl
  exact Go.back stp (hr T' h' _ rfl hsz E A D ⟨_, X', N, zs, e'⟩)
/-- an array whose components are vs -/
def La (Z : State) (h : Heap) (a : Addr) (ty : FieldType) (vs : List Value) : Prop := ∃ c : Cell, Arr Z h a c ty ∧ c.slots = vs.toArray ∧ vs.length < 2 ^ 31 ∧ ∀ v ∈ vs, fits ty v = true
theorem La.lt {a : Addr} {ty : FieldType} {vs : List Value} (F : La Z h a ty vs) : a < h.size := by obtain ⟨c, A, -⟩ := F; exact A.lt
theorem La.len {a : Addr} {ty : FieldType} {vs : List Value} (F : La Z h a ty vs) : vs.length < 2 ^ 31 := by obtain ⟨c, A, -, q, -⟩ := F; exact q
theorem La.ext {h' : Heap} {a : Addr} {ty : FieldType} {vs : List Value} (F : La Z h a ty vs) (E : Ext h h') : La Z h' a ty vs := by obtain ⟨c, A, r⟩ := F; exact ⟨c, A.ext E, r⟩
theorem La.other {h' : Heap} {a b : Addr} {sl : Nat} {v : Value} {ty : FieldType} {vs : List Value} (F : La Z h b ty vs) (W : Wr h h' a sl v) (q : b ≠ a) : La Z h' b ty vs := by obtain ⟨c, A, r⟩ := F; exact ⟨c, A.other W q, r⟩
theorem La.keep {h' : Heap} {a : Addr} {ws : List Addr} {ty : FieldType} {vs : List Value} (F : La Z h a ty vs) (K : Keep h h' ws) (q : a ∉ ws) : La Z h' a ty vs := by obtain ⟨c, A, r⟩ := F; exact ⟨c, ⟨K.2.1 a c A.1 q, A.2⟩, r⟩
theorem La.set {h' : Heap} {a : Addr} {j : Nat} {v : Value} {ty : FieldType} {vs : List Value} (F : La Z h a ty vs) (W : Wr h h' a j v) (hv : fits ty v = true) : La Z h' a ty (vs.set j v) := by
  obtain ⟨c, A, e1, e2, e3⟩ := F
  refine ⟨_, A.same W, ?_, by simpa using e2, fun w hw => ?_⟩
  · simp [Cell.setSlot, e1]
  · rcases List.mem_or_eq_of_mem_set hw with q | q
    · exact e3 w q
    · subst q; exact hv
theorem clamp_eq {j : Int32} (q : 0 ≤ j.toInt) : (j.toNatClampNeg : Int) = j.toInt := by show ((j.toInt.toNat : Nat) : Int) = _; omega
theorem neg_not {j : Int32} (q : 0 ≤ j.toInt) : ¬ j < 0 := by rw [Int32.lt_iff_toInt_lt]; have : (0 : Int32).toInt = 0 := rfl; omega
theorem La.inb {c : Cell} {vs : List Value} {j : Int32} {v : Value} (e : c.slots = vs.toArray) (q : 0 ≤ j.toInt) (hv : vs[j.toNatClampNeg]? = some v) : ¬ (j < 0 ∨ c.slots.size ≤ j.toNatClampNeg) ∧ c.slots[j.toNatClampNeg]? = some v := by
  obtain ⟨hl, -⟩ := List.getElem?_eq_some_iff.mp hv
  refine ⟨fun r => r.elim (neg_not q) fun r => ?_, by rw [e]; simpa using hv⟩
  rw [e] at r; simp at r; omega
theorem go_alen (C : Cx p s m meth c Z a0 own bytes maxL ret nm) (X : St Z p l e R s m args below meth c n0 T h k n) {a : Addr} {ty : FieldType} {vs : List Value} {z : Int32} (A : La Z h a ty vs) (hz : vs.length.toInt32 = z) (hp : pc + 1 = pc') (hd : decode bytes pc = .ok (.arraylength, 1)) (hr : Go p e below Q (T.setTop (mkF m pc' Ls (.int z :: st)))) : Go p e below Q (T.setTop (mkF m pc Ls (.ref a :: st))) := by
  subst hp
  obtain ⟨locs, Y, N, zs, eT⟩ := X
  obtain ⟨cl, B, e1, e2, e3⟩ := A
  have ez : cl.slots.size.toInt32 = z := by rw [e1]; simpa using hz
  subst ez
  exact Go.back (fun t kt => Y.arraylength C.1 (by rw [eT]; exact B.1) (State.isArrayOf_alike C.hZ.alike B.2.1) (g := mkF m pc Ls (.ref a :: st)) rfl rfl (C.cd hd) t kt) hr

theorem go_iaload (C : Cx p s m meth c Z a0 own bytes maxL ret nm) (X : St Z p l e R s m args below meth c n0 T h k n) {a : Addr} {vs : List Value} {j : Int32} {v : Value} (A : La Z h a .int vs) (q : 0 ≤ j.toInt) (hv : vs[j.toNatClampNeg]? = some v) (hp : pc + 1 = pc') (hd : decode bytes pc = .ok (.iaload, 1)) (hr : Go p e below Q (T.setTop (mkF m pc' Ls (v :: st)))) : Go p e below Q (T.setTop (mkF m pc Ls (.int j :: .ref a :: st))) := by
  subst hp
  obtain ⟨locs, Y, N, zs, eT⟩ := X
  obtain ⟨cl, B, e1, e2, e3⟩ := A
  obtain ⟨i1, i2⟩ := La.inb e1 q hv
  exact Go.back (fun t kt => Y.iaload C.1 (by rw [eT]; exact B.1) (State.isArrayOf_alike C.hZ.alike B.2.1) B.2.2 i1 i2 (g := mkF m pc Ls (.int j :: .ref a :: st)) rfl rfl (C.cd hd) t kt) hr
theorem go_laload (C : Cx p s m meth c Z a0 own bytes maxL ret nm) (X : St Z p l e R s m args below meth c n0 T h k n) {a : Addr} {vs : List Value} {j : Int32} {v : Value} (A : La Z h a .long vs) (q : 0 ≤ j.toInt) (hv : vs[j.toNatClampNeg]? = some v) (hp : pc + 1 = pc') (hd : decode bytes pc = .ok (.laload, 1)) (hr : Go p e below Q (T.setTop (mkF m pc' Ls (v :: st)))) : Go p e below Q (T.setTop (mkF m pc Ls (.int j :: .ref a :: st))) := by
  subst hp
  obtain ⟨locs, Y, N, zs, eT⟩ := X
  obtain ⟨cl, B, e1, e2, e3⟩ := A
  obtain ⟨i1, i2⟩ := La.inb e1 q hv
  exact Go.back (fun t kt => Y.laload C.1 (by rw [eT]; exact B.1) (State.isArrayOf_alike C.hZ.alike B.2.1) B.2.2 i1 i2 (g := mkF m pc Ls (.int j :: .ref a :: st)) rfl rfl (C.cd hd) t kt) hr
theorem go_caload (C : Cx p s m meth c Z a0 own bytes maxL ret nm) (X : St Z p l e R s m args below meth c n0 T h k n) {a : Addr} {vs : List Value} {j : Int32} {v : Value} (A : La Z h a .char vs) (q : 0 ≤ j.toInt) (hv : vs[j.toNatClampNeg]? = some v) (hp : pc + 1 = pc') (hd : decode bytes pc = .ok (.caload, 1)) (hr : Go p e below Q (T.setTop (mkF m pc' Ls (v :: st)))) : Go p e below Q (T.setTop (mkF m pc Ls (.int j :: .ref a :: st))) := by
  subst hp
  obtain ⟨locs, Y, N, zs, eT⟩ := X
  obtain ⟨cl, B, e1, e2, e3⟩ := A
  obtain ⟨i1, i2⟩ := La.inb e1 q hv
  exact Go.back (fun t kt => Y.caload C.1 (by rw [eT]; exact B.1) (State.isArrayOf_alike C.hZ.alike B.2.1) B.2.2 i1 i2 (g := mkF m pc Ls (.int j :: .ref a :: st)) rfl rfl (C.cd hd) t kt) hr
theorem go_saload (C : Cx p s m meth c Z a0 own bytes maxL ret nm) (X : St Z p l e R s m args below meth c n0 T h k n) {a : Addr} {vs : List Value} {j : Int32} {v : Value} (A : La Z h a .short vs) (q : 0 ≤ j.toInt) (hv : vs[j.toNatClampNeg]? = some v) (hp : pc + 1 = pc') (hd : decode bytes pc = .ok (.saload, 1)) (hr : Go p e below Q (T.setTop (mkF m pc' Ls (v :: st)))) : Go p e below Q (T.setTop (mkF m pc Ls (.int j :: .ref a :: st))) := by
  subst hp
  obtain ⟨locs, Y, N, zs, eT⟩ := X
  obtain ⟨cl, B, e1, e2, e3⟩ := A
  obtain ⟨i1, i2⟩ := La.inb e1 q hv
  exact Go.back (fun t kt => Y.saload C.1 (by rw [eT]; exact B.1) (State.isArrayOf_alike C.hZ.alike B.2.1) B.2.2 i1 i2 (g := mkF m pc Ls (.int j :: .ref a :: st)) rfl rfl (C.cd hd) t kt) hr
theorem go_daload (C : Cx p s m meth c Z a0 own bytes maxL ret nm) (X : St Z p l e R s m args below meth c n0 T h k n) {a : Addr} {vs : List Value} {j : Int32} {v : Value} (A : La Z h a .double vs) (q : 0 ≤ j.toInt) (hv : vs[j.toNatClampNeg]? = some v) (hp : pc + 1 = pc') (hd : decode bytes pc = .ok (.daload, 1)) (hr : Go p e below Q (T.setTop (mkF m pc' Ls (v :: st)))) : Go p e below Q (T.setTop (mkF m pc Ls (.int j :: .ref a :: st))) := by
  subst hp
  obtain ⟨locs, Y, N, zs, eT⟩ := X
  obtain ⟨cl, B, e1, e2, e3⟩ := A
  obtain ⟨i1, i2⟩ := La.inb e1 q hv
  exact Go.back (fun t kt => Y.daload C.1 (by rw [eT]; exact B.1) (State.isArrayOf_alike C.hZ.alike B.2.1) B.2.2 i1 i2 (g := mkF m pc Ls (.int j :: .ref a :: st)) rfl rfl (C.cd hd) t kt) hr
theorem go_baloadBytes (C : Cx p s m meth c Z a0 own bytes maxL ret nm) (X : St Z p l e R s m args below meth c n0 T h k n) {a : Addr} {vs : List Value} {j : Int32} {v : Value} (A : La Z h a .byte vs) (q : 0 ≤ j.toInt) (hv : vs[j.toNatClampNeg]? = some v) (hp : pc + 1 = pc') (hd : decode bytes pc = .ok (.baload, 1)) (hr : Go p e below Q (T.setTop (mkF m pc' Ls (v :: st)))) : Go p e below Q (T.setTop (mkF m pc Ls (.int j :: .ref a :: st))) := by
  subst hp
  obtain ⟨locs, Y, N, zs, eT⟩ := X
  obtain ⟨cl, B, e1, e2, e3⟩ := A
  obtain ⟨i1, i2⟩ := La.inb e1 q hv
  exact Go.back (fun t kt => Y.baloadBytes C.1 (by rw [eT]; exact B.1) (State.isArrayOf_alike C.hZ.alike B.2.1) B.2.2 i1 i2 (g := mkF m pc Ls (.int j :: .ref a :: st)) rfl rfl (C.cd hd) t kt) hr
theorem go_baloadBooleans (C : Cx p s m meth c Z a0 own bytes maxL ret nm) (X : St Z p l e R s m args below meth c n0 T h k n) {a : Addr} {vs : List Value} {j : Int32} {v : Value} (A : La Z h a .boolean vs) (q : 0 ≤ j.toInt) (hv : vs[j.toNatClampNeg]? = some v) (hp : pc + 1 = pc') (hd : decode bytes pc = .ok (.baload, 1)) (hr : Go p e below Q (T.setTop (mkF m pc' Ls (v :: st)))) : Go p e below Q (T.setTop (mkF m pc Ls (.int j :: .ref a :: st))) := by
  subst hp
  obtain ⟨locs, Y, N, zs, eT⟩ := X
  obtain ⟨cl, B, e1, e2, e3⟩ := A
  obtain ⟨i1, i2⟩ := La.inb e1 q hv
  exact Go.back (fun t kt => Y.baloadBooleans C.1 (by rw [eT]; exact B.1) (State.isArrayOf_alike C.hZ.alike B.2.1) B.2.2 i1 i2 (g := mkF m pc Ls (.int j :: .ref a :: st)) rfl rfl (C.cd hd) t kt) hr
theorem go_aaload (C : Cx p s m meth c Z a0 own bytes maxL ret nm) (X : St Z p l e R s m args below meth c n0 T h k n) {a : Addr} {vs : List Value} {ty : FieldType} {j : Int32} {v : Value} (A : La Z h a ty vs) (ht : ty.isReference = true) (q : 0 ≤ j.toInt) (hv : vs[j.toNatClampNeg]? = some v) (hp : pc + 1 = pc') (hd : decode bytes pc = .ok (.aaload, 1)) (hr : Go p e below Q (T.setTop (mkF m pc' Ls (v :: st)))) : Go p e below Q (T.setTop (mkF m pc Ls (.int j :: .ref a :: st))) := by
  subst hp
  obtain ⟨locs, Y, N, zs, eT⟩ := X
  obtain ⟨cl, B, e1, e2, e3⟩ := A
  obtain ⟨i1, i2⟩ := La.inb e1 q hv
  exact Go.back (fun t kt => Y.aaload C.1 (by rw [eT]; exact B.1) (State.isArrayOf_alike C.hZ.alike B.2.1) ht B.2.2 i1 i2 (g := mkF m pc Ls (.int j :: .ref a :: st)) rfl rfl (C.cd hd) t kt) hr
theorem go_iastore (C : Cx p s m meth c Z a0 own bytes maxL ret nm) (X : St Z p l e R s m args below meth c n0 T h k n) {a : Addr} {vs : List Value} {j : Int32} {x : Int32} (A : La Z h a .int vs) (q : 0 ≤ j.toInt) (hj : j.toInt < vs.length) (ga : n0 ≤ a) (hp : pc + 1 = pc') (hd : decode bytes pc = .ok (.iastore, 1))
    (hr : ∀ T' h', Wr h h' a j.toNatClampNeg (.int x) → La Z h' a .int (vs.set j.toNatClampNeg (.int x)) → St Z p l e R s m args below meth c n0 T' h' k n → Go p e below Q (T'.setTop (mkF m pc' Ls st))) : Go p e below Q (T.setTop (mkF m pc Ls (.int x :: .int j :: .ref a :: st))) := by
  subst hp
  obtain ⟨locs, Y, N, zs, eT⟩ := X
  have A' := A
  obtain ⟨cl, B, e1, e2, e3⟩ := A
  have i1 : ¬ (j < 0 ∨ cl.slots.size ≤ j.toNatClampNeg) := fun r => r.elim (neg_not q) fun r => by
    rw [e1] at r; simp at r; have := clamp_eq q; omega
  obtain ⟨T', h', X', e', W, stp⟩ := stI Y C.1 C.hZ eT B i1 (g := mkF m pc Ls (.int x :: .int j :: .ref a :: st)) rfl rfl (C.cd hd)
  exact Go.back stp (hr T' h' W (A'.set W rfl) ⟨_, X', Fr.snoc X' N ga, zs, e'⟩)
theorem go_lastore (C : Cx p s m meth c Z a0 own bytes maxL ret nm) (X : St Z p l e R s m args below meth c n0 T h k n) {a : Addr} {vs : List Value} {j : Int32} {x : Int64} (A : La Z h a .long vs) (q : 0 ≤ j.toInt) (hj : j.toInt < vs.length) (ga : n0 ≤ a) (hp : pc + 1 = pc') (hd : decode bytes pc = .ok (.lastore, 1))
    (hr : ∀ T' h', Wr h h' a j.toNatClampNeg (.long x) → La Z h' a .long (vs.set j.toNatClampNeg (.long x)) → St Z p l e R s m args below meth c n0 T' h' k n → Go p e below Q (T'.setTop (mkF m pc' Ls st))) : Go p e below Q (T.setTop (mkF m pc Ls (.long x :: .int j :: .ref a :: st))) := by
  subst hp
  obtain ⟨locs, Y, N, zs, eT⟩ := X
  have A' := A
  obtain ⟨cl, B, e1, e2, e3⟩ := A
  have i1 : ¬ (j < 0 ∨ cl.slots.size ≤ j.toNatClampNeg) := fun r => r.elim (neg_not q) fun r => by
    rw [e1] at r; simp at r; have := clamp_eq q; omega
  obtain ⟨T', h', X', e', W, stp⟩ := stJ Y C.1 C.hZ eT B i1 (g := mkF m pc Ls (.long x :: .int j :: .ref a :: st)) rfl rfl (C.cd hd)
  exact Go.back stp (hr T' h' W (A'.set W rfl) ⟨_, X', Fr.snoc X' N ga, zs, e'⟩)
theorem go_dastore (C : Cx p s m meth c Z a0 own bytes maxL ret nm) (X : St Z p l e R s m args below meth c n0 T h k n) {a : Addr} {vs : List Value} {j : Int32} {x : UInt64} (A : La Z h a .double vs) (q : 0 ≤ j.toInt) (hj : j.toInt < vs.length) (ga : n0 ≤ a) (hp : pc + 1 = pc') (hd : decode bytes pc = .ok (.dastore, 1))
    (hr : ∀ T' h', Wr h h' a j.toNatClampNeg (.double x) → La Z h' a .double (vs.set j.toNatClampNeg (.double x)) → St Z p l e R s m args below meth c n0 T' h' k n → Go p e below Q (T'.setTop (mkF m pc' Ls st))) : Go p e below Q (T.setTop (mkF m pc Ls (.double x :: .int j :: .ref a :: st))) := by
  subst hp
  obtain ⟨locs, Y, N, zs, eT⟩ := X
  have A' := A
  obtain ⟨cl, B, e1, e2, e3⟩ := A
  have i1 : ¬ (j < 0 ∨ cl.slots.size ≤ j.toNatClampNeg) := fun r => r.elim (neg_not q) fun r => by
    rw [e1] at r; simp at r; have := clamp_eq q; omega
  obtain ⟨T', h', X', e', W, stp⟩ := stD Y C.1 C.hZ eT B i1 (g := mkF m pc Ls (.double x :: .int j :: .ref a :: st)) rfl rfl (C.cd hd)
  exact Go.back stp (hr T' h' W (A'.set W rfl) ⟨_, X', Fr.snoc X' N ga, zs, e'⟩)
theorem go_newarr (C : Cx p s m meth c Z a0 own bytes maxL ret nm) (X : St Z p l e R s m args below meth c n0 T h k n) {aty : ArrayType} (w : (Jvm.Cond.arrayClass (newarray.typeOf aty)).before a0 Z = true) {z : Int32} {cap : Nat} (hz : 0 ≤ z.toInt) (hcap : z.toInt ≤ cap) (hb8 : cap * 8 ≤ 536870912) (hc : k + 1 ≤ R.cells) (hl : n + cap ≤ R.slots) (hp : pc + 2 = pc') (hd : decode bytes pc = .ok (.newarray aty, 2))
    (hr : ∀ T' h' a, a = h.size → n0 ≤ a → Ext h h' → La Z h' a (newarray.typeOf aty) (List.replicate z.toNatClampNeg (defaultValue (newarray.typeOf aty))) → St Z p l e R s m args below meth c n0 T' h' (k + 1) (n + cap) → Go p e below Q (T'.setTop (mkF m pc' Ls (.ref a :: st)))) : Go p e below Q (T.setTop (mkF m pc Ls (.int z :: st))) := by
  subst hp
  have hsz := X.sz
  obtain ⟨locs, Y, N, zs, eT⟩ := X
  have hzc := clamp_eq hz
  obtain ⟨T', h', cA, X', e', E, A, stp⟩ := newP Y C.1 C.hZ w eT (g := mkF m pc Ls (.int z :: st)) rfl (C.cd hd) rfl (neg_not hz) (cap := cap) (by omega) hb8 hc hl
  refine Go.back stp (hr T' h' _ rfl hsz E ⟨_, A, by simp [newA], ?_, fun v hv => ?_⟩ ⟨_, X', N, zs, e'⟩)
  · have := z.toInt_lt; simp; omega
  · obtain ⟨-, rfl⟩ := List.mem_replicate.mp hv; cases aty <;> rfl
theorem go_newarrE (C : Cx p s m meth c Z a0 own bytes maxL ret nm) (X : St Z p l e R s m args below meth c n0 T h k n) {aty : ArrayType} (w : (Jvm.Cond.arrayClass (newarray.typeOf aty)).before a0 Z = true) {z : Int32} {cap : Nat} {ad : String} (had : "[" ++ (newarray.typeOf aty).toString = ad) (hz : 0 ≤ z.toInt) (hcap : z.toInt ≤ cap) (hb8 : cap * 8 ≤ 536870912) (hc : k + 1 ≤ R.cells) (hl : n + cap ≤ R.slots) (hp : pc + 2 = pc') (hd : decode bytes pc = .ok (.newarray aty, 2))
    (hr : ∀ T' h' a, a = h.size → n0 ≤ a → Ext h h' → La Z h' a (newarray.typeOf aty) (List.replicate z.toNatClampNeg (defaultValue (newarray.typeOf aty))) → Exa Z h' a ad → St Z p l e R s m args below meth c n0 T' h' (k + 1) (n + cap) → Go p e below Q (T'.setTop (mkF m pc' Ls (.ref a :: st)))) : Go p e below Q (T.setTop (mkF m pc Ls (.int z :: st))) := by
  subst hp
  have hsz := X.sz
  obtain ⟨locs, Y, N, zs, eT⟩ := X
  have hzc := clamp_eq hz
  obtain ⟨T', h', cA, X', e', E, A, EX, stp⟩ := newPE Y C.1 C.hZ w eT (g := mkF m pc Ls (.int z :: st)) rfl (C.cd hd) rfl (neg_not hz) (cap := cap) (by omega) hb8 hc hl had
  refine Go.back stp (hr T' h' _ rfl hsz E ⟨_, A, by simp [newA], ?_, fun v hv => ?_⟩ EX ⟨_, X', N, zs, e'⟩)
  · have := z.toInt_lt; simp; omega
  · obtain ⟨-, rfl⟩ := List.mem_replicate.mp hv; cases aty <;> rfl
theorem go_ifnull_n (C : Cx p s m meth c Z a0 own bytes maxL ret nm) (X : St Z p l e R s m args below meth c n0 T h k n) {o : Int} (hd : decode bytes pc = .ok (.ifnull o, 3)) (ho : 0 ≤ (pc : Int) + o) (hp2 : ((pc : Int) + o).toNat = pc2) (hr : Go p e below Q (T.setTop (mkF m pc2 Ls st))) : Go p e below Q (T.setTop (mkF m pc Ls (.null :: st))) := by
  obtain ⟨locs, Y, -, -, -⟩ := X
  exact Go.back (fun t kt => Jvm.Free.XS.ifnullYes Y.here C.1 rfl (pc0 := pc) rfl (C.cd hd) rfl ho hp2 kt) hr
theorem go_ifnull_r (C : Cx p s m meth c Z a0 own bytes maxL ret nm) (X : St Z p l e R s m args below meth c n0 T h k n) {o : Int} {b : Addr} (hp : pc + 3 = pc') (hd : decode bytes pc = .ok (.ifnull o, 3)) (hr : Go p e below Q (T.setTop (mkF m pc' Ls st))) : Go p e below Q (T.setTop (mkF m pc Ls (.ref b :: st))) := by
  subst hp
  obtain ⟨locs, Y, -, -, -⟩ := X
  exact Go.back (fun t kt => Jvm.Free.XS.ifnullNo Y.here C.1 rfl (C.cd hd) rfl kt) hr
theorem go_ifnonnull_r (C : Cx p s m meth c Z a0 own bytes maxL ret nm) (X : St Z p l e R s m args below meth c n0 T h k n) {o : Int} {b : Addr} (hd : decode bytes pc = .ok (.ifnonnull o, 3)) (ho : 0 ≤ (pc : Int) + o) (hp2 : ((pc : Int) + o).toNat = pc2) (hr : Go p e below Q (T.setTop (mkF m pc2 Ls st))) : Go p e below Q (T.setTop (mkF m pc Ls (.ref b :: st))) := by
  obtain ⟨locs, Y, -, -, -⟩ := X
  exact Go.back (fun t kt => Jvm.Free.XS.ifnonnullYes Y.here C.1 rfl (pc0 := pc) rfl (C.cd hd) rfl ho hp2 kt) hr
theorem go_ifnonnull_n (C : Cx p s m meth c Z a0 own bytes maxL ret nm) (X : St Z p l e R s m args below meth c n0 T h k n) {o : Int} (hp : pc + 3 = pc') (hd : decode bytes pc = .ok (.ifnonnull o, 3)) (hr : Go p e below Q (T.setTop (mkF m pc' Ls st))) : Go p e below Q (T.setTop (mkF m pc Ls (.null :: st))) := by
  subst hp
  obtain ⟨locs, Y, -, -, -⟩ := X
  exact Go.back (fun t kt => Jvm.Free.XS.ifnonnullNo Y.here C.1 rfl (C.cd hd) rfl kt) hr
theorem go_acmp_eq (C : Cx p s m meth c Z a0 own bytes maxL ret nm) (X : St Z p l e R s m args below meth c n0 T h k n) {o : Int} {x y : Value} (hx : x.isRef = true) (hy : y.isRef = true) (hd : decode bytes pc = .ok (.if_acmp .eq o, 3)) (hp : pc + 3 = pc') (ho : 0 ≤ (pc : Int) + o) (hp2 : ((pc : Int) + o).toNat = pc2) (h1 : x = y → Go p e below Q (T.setTop (mkF m pc2 Ls st))) (h2 : ¬ x = y → Go p e below Q (T.setTop (mkF m pc' Ls st))) : Go p e below Q (T.setTop (mkF m pc Ls (y :: x :: st))) := by
  obtain ⟨locs, Y, -, -, -⟩ := X
  by_cases q : x = y
  · exact Go.back (fun t kt => acmp (g := mkF m pc Ls (y :: x :: st)) Y C.1 rfl hx hy (pc0 := pc) (pc' := pc2) (same := true) rfl (C.cd hd) rfl (decide_eq_true q) ho (by simp [acV, hp2]) kt) (h1 q)
  · exact Go.back (fun t kt => acmp (g := mkF m pc Ls (y :: x :: st)) Y C.1 rfl hx hy (pc0 := pc) (pc' := pc') (same := false) rfl (C.cd hd) rfl (decide_eq_false q) ho (by simp [acV, hp]) kt) (h2 q)
theorem go_acmp_ne (C : Cx p s m meth c Z a0 own bytes maxL ret nm) (X : St Z p l e R s m args below meth c n0 T h k n) {o : Int} {x y : Value} (hx : x.isRef = true) (hy : y.isRef = true) (hd : decode bytes pc = .ok (.if_acmp .ne o, 3)) (hp : pc + 3 = pc') (ho : 0 ≤ (pc : Int) + o) (hp2 : ((pc : Int) + o).toNat = pc2) (h1 : ¬ x = y → Go p e below Q (T.setTop (mkF m pc2 Ls st))) (h2 : x = y → Go p e below Q (T.setTop (mkF m pc' Ls st))) : Go p e below Q (T.setTop (mkF m pc Ls (y :: x :: st))) := by
  obtain ⟨locs, Y, -, -, -⟩ := X
  by_cases q : x = y
  · exact Go.back (fun t kt => acmp (g := mkF m pc Ls (y :: x :: st)) Y C.1 rfl hx hy (pc0 := pc) (pc' := pc') (same := true) rfl (C.cd hd) rfl (decide_eq_true q) ho (by simp [acV, hp]) kt) (h2 q)
  · exact Go.back (fun t kt => acmp (g := mkF m pc Ls (y :: x :: st)) Y C.1 rfl hx hy (pc0 := pc) (pc' := pc2) (same := false) rfl (C.cd hd) rfl (decide_eq_false q) ho (by simp [acV, hp2]) kt) (h1 q)
theorem go_cast (C : Cx p s m meth c Z a0 own bytes maxL ret nm) (X : St Z p l e R s m args below meth c n0 T h k n) {cn : String} {a : Addr} (w : (Jvm.Cond.classLink own idx cn).before a0 Z = true) (F : Ins Z h a cn true) (hp : pc + 3 = pc') (hd : decode bytes pc = .ok (.checkcast idx, 3)) (hr : ∀ T', St Z p l e R s m args below meth c n0 T' h k n → Go p e below Q (T'.setTop (mkF m pc' Ls (.ref a :: st)))) : Go p e below Q (T.setTop (mkF m pc Ls (.ref a :: st))) := by
  subst hp
  obtain ⟨locs, Y, N, zs, eT⟩ := X
  obtain ⟨T', X', e', stp⟩ := castY Y C.1 C.hZ C.ow w eT F (g := mkF m pc Ls (.ref a :: st)) rfl rfl (C.cd hd)
  exact Go.back stp (hr T' ⟨_, X', N, zs, e'⟩)
theorem go_clone (C : Cx p s m meth c Z a0 own bytes maxL ret nm) (X : St Z p l e R s m args below meth c n0 T h k n) {ad : String} {a : Addr} {ty : FieldType} {vs : List Value} {cap : Nat} (w1 : (Jvm.Cond.methodLink own idx ⟨ad, "clone", "()Ljava/lang/Object;"⟩).before a0 Z = true) (w2 : (Jvm.Cond.sameMethod ad "java/lang/Object" "clone" "()Ljava/lang/Object;").before a0 Z = true) (w3 : (Jvm.Cond.native ⟨"java/lang/Object", "clone", "()Ljava/lang/Object;"⟩).before a0 Z = true)
    (w4 : (Jvm.Cond.instanceMethod ⟨"java/lang/Object", "clone", "()Ljava/lang/Object;"⟩).before a0 Z = true) (w5 : (Jvm.Cond.selects ad ⟨ad, "clone", "()Ljava/lang/Object;"⟩ ⟨"java/lang/Object", "clone", "()Ljava/lang/Object;"⟩).before a0 Z = true) (w6 : (Jvm.Cond.castable ad "java/lang/Cloneable").before a0 Z = true)
    (A : La Z h a ty vs) (E : Exa Z h a ad) (hf : 1 ≤ R.frames) (hl : (st.map fun v => v.category).sum + 14 ≤ R.locals) (hcap : vs.length ≤ cap) (hc : k + 1 ≤ R.cells) (hsl : n + cap ≤ R.slots) (hsz : Ls.size = maxL) (hp : pc + 3 = pc') (hd : decode bytes pc = .ok (.invokevirtual idx, 3))
    (hr : ∀ T' h' b, b = h.size → n0 ≤ b → Ext h h' → La Z h' b ty vs → Exa Z h' b ad → St Z p l e R s m args below meth c n0 T' h' (k + 1) (n + cap) → Go p e below Q (T'.setTop (mkF m pc' Ls (.ref b :: st)))) : Go p e below Q (T.setTop (mkF m pc Ls (.ref a :: st))) := by
  subst hp
  have hs0 := X.sz
  obtain ⟨locs, Y, N, zs, eT⟩ := X
  obtain ⟨cl, B, e1, e2, e3⟩ := A
  have FC : FitC Z cl := fitC_of B fun i hi v hv => e3 v (by rw [e1] at hv; simp at hv; exact List.mem_of_getElem? hv)
  obtain ⟨T', h', X', e', ex, A', E', stp⟩ := cloneA Y C.1 C.hZ C.ow w1 w2 w3 w4 w5 w6 eT B E FC (g := mkF m pc Ls (.ref a :: st)) rfl (hsz.trans C.ml.symm) rfl (C.cd hd) hf (W := (st.map fun v => v.category).sum) (cap := cap) (by show 2 * 0 + _ ≤ _; omega) hl (by rw [e1]; simpa using hcap) hc hsl
  exact Go.back stp (hr T' h' _ rfl hs0 ex ⟨_, A', e1, e2, e3⟩ E' ⟨_, X', N, zs, e'⟩)

theorem Laid.of {cn O fn d : String} (w : (Jvm.Cond.lays cn O fn d).before a0 Z = true) : Laid Z a0 cn O fn d := Or.inl w
theorem Laid.ofF {cn O fn d : String} (w : (Jvm.Cond.laysFinal cn O fn d).before a0 Z = true) : Laid Z a0 cn O fn d := Or.inr w
end Steps1
/-! numbers -/
theorem i_add {a b : Int32} {x y : Int} (ha : a.toInt = x) (hb : b.toInt = y) (h1 : -2147483648 ≤ x + y) (h2 : x + y < 2147483648) : (a + b).toInt = x + y := by have := c_iadd a b; have := rng32 (a + b); omega
theorem i_sub {a b : Int32} {x y : Int} (ha : a.toInt = x) (hb : b.toInt = y) (h1 : -2147483648 ≤ x - y) (h2 : x - y < 2147483648) : (a - b).toInt = x - y := by have := c_isub a b; have := rng32 (a - b); omega
theorem i_mul {a b : Int32} {x y : Int} (ha : a.toInt = x) (hb : b.toInt = y) (h1 : -2147483648 ≤ x * y) (h2 : x * y < 2147483648) : (a * b).toInt = x * y := by have := c_imul a b; have := rng32 (a * b); rw [ha, hb] at *; generalize x * y = z at *; omega
theorem l_add {a b : Int64} {x y : Int} (ha : a.toInt = x) (hb : b.toInt = y) (h1 : -9223372036854775808 ≤ x + y) (h2 : x + y < 9223372036854775808) : (a + b).toInt = x + y := by have := c_ladd a b; have := rng64 (a + b); omega
theorem l_sub {a b : Int64} {x y : Int} (ha : a.toInt = x) (hb : b.toInt = y) (h1 : -9223372036854775808 ≤ x - y) (h2 : x - y < 9223372036854775808) : (a - b).toInt = x - y := by have := c_lsub a b; have := rng64 (a - b); omega
theorem l_mul {a b : Int64} {x y : Int} (ha : a.toInt = x) (hb : b.toInt = y) (h1 : -9223372036854775808 ≤ x * y) (h2 : x * y < 9223372036854775808) : (a * b).toInt = x * y := by have := c_lmul a b; have := rng64 (a * b); rw [ha, hb] at *; generalize x * y = z at *; omega
theorem i_div {a b : Int32} {x y : Int} (ha : a.toInt = x) (hb : b.toInt = y) (h1 : 0 ≤ x) (h2 : 0 < y) : (a / b).toInt = x / y := by
  have := (c_idiv a b y hb (fun q => by subst q; have : (-1 : Int32).toInt = -1 := rfl; omega)).1 (by omega); rw [this, ha]
theorem l_div {a b : Int64} {x y : Int} (ha : a.toInt = x) (hb : b.toInt = y) (h1 : 0 ≤ x) (h2 : 0 < y) : (a / b).toInt = x / y := by
  have := (c_ldiv a b y hb (fun q => by subst q; have : (-1 : Int64).toInt = -1 := rfl; omega)).1 (by omega); rw [this, ha]
theorem i_rem {a b : Int32} {x y : Int} (ha : a.toInt = x) (hb : b.toInt = y) (h1 : 0 ≤ x) : (a % b).toInt = x % y := by
  have := (c_irem a b y hb).1 (by omega); rw [this, ha]
theorem l_rem {a b : Int64} {x y : Int} (ha : a.toInt = x) (hb : b.toInt = y) (h1 : 0 ≤ x) : (a % b).toInt = x % y := by
  rw [← lrem_mod]; have := (c_lrem a b y hb).1 (by omega); rw [this, ha]
/-- arrays of ints and longs as lists -/
def ia (xs : List Int32) : List Value := xs.map Value.int
def ja (xs : List Int64) : List Value := xs.map Value.long
def at32 (xs : List Int32) (i : Int32) : Int32 := xs.getD i.toNatClampNeg 0
def at64 (xs : List Int64) (i : Int32) : Int64 := xs.getD i.toNatClampNeg 0
def put32 (xs : List Int32) (i y : Int32) : List Int32 := xs.set i.toNatClampNeg y
def put64 (xs : List Int64) (i : Int32) (y : Int64) : List Int64 := xs.set i.toNatClampNeg y
theorem clamp_lt {i : Int32} {n : Nat} (h0 : 0 ≤ i.toInt) (h1 : i.toInt < n) : i.toNatClampNeg < n := by
  have := clamp_eq h0
  omega
theorem ia_at {xs : List Int32} {i : Int32} (h0 : 0 ≤ i.toInt) (h1 : i.toInt < xs.length) : (ia xs)[i.toNatClampNeg]? = some (.int (at32 xs i)) := by
  have := clamp_lt h0 h1; simp [ia, at32, this]
theorem ja_at {xs : List Int64} {i : Int32} (h0 : 0 ≤ i.toInt) (h1 : i.toInt < xs.length) : (ja xs)[i.toNatClampNeg]? = some (.long (at64 xs i)) := by
  have := clamp_lt h0 h1; simp [ja, at64, this]
theorem ia_put (xs : List Int32) (i y : Int32) : (ia xs).set i.toNatClampNeg (.int y) = ia (put32 xs i y) := by simp [ia, put32, List.map_set]
theorem ja_put (xs : List Int64) (i : Int32) (y : Int64) : (ja xs).set i.toNatClampNeg (.long y) = ja (put64 xs i y) := by simp [ja, put64, List.map_set]
theorem ia_len (xs : List Int32) : (ia xs).length = xs.length := by simp [ia]
theorem ja_len (xs : List Int64) : (ja xs).length = xs.length := by simp [ja]
theorem put32_len (xs : List Int32) (i y : Int32) : (put32 xs i y).length = xs.length := by simp [put32]
theorem put64_len (xs : List Int64) (i : Int32) (y : Int64) : (put64 xs i y).length = xs.length := by simp [put64]
theorem La.of {Z : State} {h : Heap} {a : Addr} {ty : FieldType} {c : Cell} (A : Arr Z h a c ty) (vs : List Value) (hl : c.slots.size = vs.length) (h31 : vs.length < 2 ^ 31) (H : ∀ i, i < vs.length → c.slots[i]? = vs[i]?) (G : ∀ v ∈ vs, fits ty v = true) : La Z h a ty vs := by
  refine ⟨c, A, Array.ext_getElem? fun i => ?_, h31, G⟩
  by_cases q : i < vs.length
  · rw [H i q]; simp
  · rw [Array.getElem?_eq_none (by omega)]; simp; omega
theorem eqv_r {Z : State} {args : Array Value} {X F : Term} {idx : List Nat} {y : Addr} (hF : F.eval args Z none idx Z = some (.ref y)) (h : (Jvm.Cond.eq X F).value args Z none Z idx = some true) : X.eval args Z none idx Z = some (.ref y) := by
  simp only [Jvm.Cond.value, hF] at h
  cases hx : X.eval args Z none idx Z with
  | none => simp [hx] at h
  | some v => cases v <;> simp [hx] at h ⊢; exact h
theorem i_eq {a b : Int32} (h : a.toInt = b.toInt) : a = b := Int32.toInt_inj.mp h
theorem l_eq {a b : Int64} (h : a.toInt = b.toInt) : a = b := Int64.toInt_inj.mp h
theorem i_ne {a b : Int32} (h : ¬ a = b) : ¬ a.toInt = b.toInt := fun q => h (i_eq q)
theorem l_ne {a b : Int64} (h : ¬ a = b) : ¬ a.toInt = b.toInt := fun q => h (l_eq q)
section Steps2
variable {p : Program} {l : Launch} {e : Env} {R : Room} {s : State} {m : MethodId} {args : Array Value} {below : List Frame} {meth : Method} {c : Code} {Z : State} {a0 : Array Value} {own : String} {bytes : ByteArray} {maxL : Nat} {ret : Option FieldType} {nm : String} {n0 : Nat} {T : State} {h : Heap} {k n : Nat} {Q : Outcome → State → Prop} {pc pc' pc2 idx : Nat} {Ls Ls' : Array Slot} {st : List Value}
theorem la_arv {a : Addr} {ty : FieldType} {vs : List Value} (F : La Z h a ty vs) (d : Value) : ∃ k, Arv Z h a k ty (Int32.ofNat vs.length) vs d := by
  obtain ⟨c, A, e1, e2, e3⟩ := F
  have ec : (Int32.ofNat vs.length).toNatClampNeg = vs.length := Int32.toNatClampNeg_ofNat_of_lt e2
  refine ⟨c.cls, c, A, rfl, ?_, ?_, fun i hi => ?_, fun i hi => ?_⟩
  · rw [ec, e1]; simp
  · have q := Int32.toInt_ofNat_of_lt e2
    exact neg_not (by rw [q]; omega)
  · rw [e1] at hi ⊢; simp at hi; simp [hi]
  · rw [e1] at hi; simp at hi
    have q : vs.getD i d = vs[i] := by simp [hi]
    rw [q]; exact e3 _ (List.getElem_mem hi)
theorem arv_la {a : Addr} {kc : ClassId} {ty : FieldType} {z : Int32} {vs : List Value} {d : Value} (F : Arv Z h a kc ty z vs d) (hl : z.toNatClampNeg = vs.length) (h31 : vs.length < 2 ^ 31) : La Z h a ty vs := by
  obtain ⟨c, A, -, e2, -, H, G⟩ := F
  refine La.of A vs (e2.trans hl) h31 (fun i hi => ?_) (fun v hv => ?_)
  · rw [H i (by omega)]; simp [hi]
  · obtain ⟨i, hi, rfl⟩ := List.mem_iff_getElem.mp hv
    have q := G i (by omega)
    simpa [hi] using q
theorem go_copy0 (C : Cx p s m meth c Z a0 own bytes maxL ret nm) (X : St Z p l e R s m args below meth c n0 T h k n) {a b : Addr} {ty : FieldType} {vs vd : List Value} (w1 : (Jvm.Cond.methodLink own idx Jvm.Stand.acN).before a0 Z = true) (w2 : (Jvm.Cond.native Jvm.Stand.acN).before a0 Z = true) (w3 : (Jvm.Cond.static Jvm.Stand.acN).before a0 Z = true) (w4 : (Jvm.Cond.initialized "java/lang/System").before a0 Z = true) (A : La Z h a ty vs) (B : La Z h b ty vd) (hty : refKind ty = false) (ge : n0 ≤ b)
    (hf : 1 ≤ R.frames) (hl : (st.map fun v => v.category).sum + (nativeFrameWords "java/lang/System" "arraycopy" 5 + 11) ≤ R.locals) (hsz : Ls.size = maxL) (hp : pc + 3 = pc') (hd : decode bytes pc = .ok (.invokestatic idx, 3))
    (hr : ∀ T' h', Keep h h' [b] → La Z h' b ty vd → St Z p l e R s m args below meth c n0 T' h' k n → Go p e below Q (T'.setTop (mkF m pc' Ls st))) : Go p e below Q (T.setTop (mkF m pc Ls (.int 0 :: .int 0 :: .ref b :: .int 0 :: .ref a :: st))) := by
  subst hp
  obtain ⟨locs, Y, N, zs, eT⟩ := X
  obtain ⟨k1, A1⟩ := la_arv A .null
  obtain ⟨k2, B1⟩ := la_arv B .null
  have z0 : (0 : Int32).toNatClampNeg = 0 := by decide
  obtain ⟨T', h', L, X', e', N', K, B2, stp⟩ := cpA Y C.1 C.hZ C.ow w1 w2 w3 w4 eT A1 B1 (us := []) (sp := 0) (dp := 0) (nn := 0) (Or.inl ⟨rfl, hty⟩) (by decide) (by decide) (by decide) (by rw [z0]; omega) (by rw [z0]; omega) (by first | rfl | simp [z0]) (by rw [z0]; omega) N ge (g := mkF m pc Ls (.int 0 :: .int 0 :: .ref b :: .int 0 :: .ref a :: st)) rfl (hsz.trans C.ml.symm) rfl (C.cd hd) hf (W := (st.map fun v => v.category).sum) (by show 2 * 0 + _ ≤ _; omega) hl
  rw [z0] at B2
  have ev : vd.take 0 ++ [] ++ vd.drop (0 + 0) = vd := by simp
  rw [ev] at B2
  exact Go.back stp (hr T' h' K (arv_la B2 (Int32.toNatClampNeg_ofNat_of_lt B.len) B.len) ⟨_, X', N', zs, e'⟩)
end Steps2

/-! trailing zeros -/
def own_ush (x k : Int32) : Int32 := (x.toUInt32 >>> (k &&& 31).toUInt32).toInt32
def own_s (lim sh ad : Int32) (q : Int32 × Int32) : Int32 × Int32 := if lim.toInt < q.1.toInt then (own_ush q.1 sh, q.2 + ad) else q
def own_g4 (q : Int32 × Int32) : Int32 := q.2 + own_ush q.1 1
def own_g (i : Int32) : Int32 := if 0 < i.toInt then own_g4 (own_s 4 2 2 (own_s 16 4 4 (own_s 256 8 8 (own_s 65536 16 16 (i, 1))))) else i &&& 32
def own_n32 (x : Int32) : Int32 := own_g ((x ^^^ (-1)) &&& (x - 1))
def own_n64 (x : Int64) : Int32 := if x.toInt32 = 0 then 32 + own_n32 (((x.toUInt64 >>> ((32 : Int32) &&& 0x3f).toInt64.toUInt64).toInt64).toInt32) else own_n32 x.toInt32
/-- k is the lowest bit that is set -/
def Low {w : Nat} (x : BitVec w) (k : Nat) : Prop := x.getLsbD k = true ∧ ∀ j, j < k → x.getLsbD j = false
theorem own_s_t {lim sh ad i n : Int32} (h : lim.toInt < i.toInt) : own_s lim sh ad (i, n) = (own_ush i sh, n + ad) := if_pos h
theorem own_s_f {lim sh ad i n : Int32} (h : i.toInt ≤ lim.toInt) : own_s lim sh ad (i, n) = (i, n) := if_neg (Int.not_lt.mpr h)
theorem own_gk : ∀ k : Fin 32, own_g (Int32.ofBitVec (BitVec.ofNat 32 (2 ^ k.val - 1))) = Int32.ofNat k.val := by decide +kernel
theorem low_nat {w : Nat} {x : BitVec w} {k : Nat} (h : Low x k) : ∃ q, x.toNat = 2 ^ (k + 1) * q + 2 ^ k := by
  refine ⟨x.toNat / 2 ^ (k + 1), ?_⟩
  have h1 : x.toNat % 2 ^ (k + 1) = 2 ^ k := by
    apply Nat.eq_of_testBit_eq
    intro j
    rw [Nat.testBit_mod_two_pow, Nat.testBit_two_pow]
    by_cases c : j < k + 1
    · by_cases d : j = k
      · subst d
        have t : x.toNat.testBit j = true := h.1
        rw [t]; simp
      · have t : x.toNat.testBit j = false := h.2 j (by omega)
        have d' : ¬ k = j := fun q => d q.symm
        rw [t]; simp [d']
    · have d' : ¬ k = j := by omega
      simp [c, d']
  have q := Nat.div_add_mod x.toNat (2 ^ (k + 1))
  rw [h1] at q
  exact q.symm
theorem low_mask {w : Nat} {x : BitVec w} {k : Nat} (hk : k < w) (h : Low x k) : (~~~ x &&& (x - 1#w)) = BitVec.ofNat w (2 ^ k - 1) := by
  obtain ⟨q, hq⟩ := low_nat h
  have hp : 1 ≤ 2 ^ k := Nat.two_pow_pos k
  have o1 : (1#w).toNat = 1 := by rw [BitVec.toNat_ofNat]; exact Nat.mod_eq_of_lt (Nat.one_lt_two_pow (by omega))
  have le : 1#w ≤ x := by rw [BitVec.le_def, o1, hq]; exact Nat.le_trans hp (Nat.le_add_left _ _)
  have e1 : (x - 1#w).toNat = 2 ^ (k + 1) * q + (2 ^ k - 1) := by rw [BitVec.toNat_sub_of_le le, o1, hq]; exact Nat.add_sub_assoc hp _
  apply BitVec.eq_of_getLsbD_eq
  intro j hj
  rw [BitVec.getLsbD_and, BitVec.getLsbD_not]
  have b1 : (x - 1#w).getLsbD j = (2 ^ (k + 1) * q + (2 ^ k - 1)).testBit j := by show (x - 1#w).toNat.testBit j = _; rw [e1]
  have b2 : x.getLsbD j = (2 ^ (k + 1) * q + 2 ^ k).testBit j := by show x.toNat.testBit j = _; rw [hq]
  have b3 : (BitVec.ofNat w (2 ^ k - 1)).getLsbD j = (2 ^ k - 1).testBit j := by rw [BitVec.getLsbD_ofNat]; simp [hj]
  have l1 : 2 ^ k - 1 < 2 ^ (k + 1) := by rw [Nat.pow_succ]; omega
  have l2 : 2 ^ k < 2 ^ (k + 1) := by rw [Nat.pow_succ]; omega
  rw [b1, b2, b3, Nat.testBit_two_pow_mul_add _ l1, Nat.testBit_two_pow_mul_add _ l2]
  by_cases c : j < k + 1
  · simp only [if_pos c, Nat.testBit_two_pow_sub_one, Nat.testBit_two_pow]
    by_cases d : j = k
    · subst d; simp
    · have d1 : j < k := by omega
      have d2 : ¬ k = j := by omega
      simp [d1, d2, hj]
  · simp only [if_neg c, Nat.testBit_two_pow_sub_one]
    have d1 : ¬ j < k := by omega
    cases q.testBit (j - (k + 1)) <;> simp [d1, hj]
theorem own_n32_low {x : Int32} {k : Nat} (hk : k < 32) (h : Low x.toBitVec k) : own_n32 x = Int32.ofNat k := by
  have e : (x ^^^ (-1)) &&& (x - 1) = Int32.ofBitVec (BitVec.ofNat 32 (2 ^ k - 1)) := by
    apply Int32.toBitVec_inj.mp
    rw [Int32.toBitVec_and, Int32.toBitVec_xor, Int32.toBitVec_sub]
    have m1 : (-1 : Int32).toBitVec = BitVec.allOnes 32 := by decide
    have m2 : (1 : Int32).toBitVec = 1#32 := by decide
    rw [m1, m2, BitVec.xor_allOnes]
    exact low_mask hk h
  unfold own_n32
  rw [e]
  exact own_gk ⟨k, hk⟩
/-! bits of longs -/
theorem shl_bv (x : Int64) (q : Int32) (k : Nat) (hk : q.toBitVec.toNat % 64 = k) : (x <<< (q &&& 0x3f).toInt64).toBitVec = x.toBitVec <<< k := by
  show x.toBitVec <<< ((q &&& 0x3f).toInt64.toBitVec.smod 64) = _
  rw [BitVec.shiftLeft_eq', (sm64 q k hk).1, smod64 k (sm64 q k hk).2]
theorem ushr_bv (x : Int64) (q : Int32) (k : Nat) (hk : q.toBitVec.toNat % 64 = k) : ((x.toUInt64 >>> (q &&& 0x3f).toInt64.toUInt64).toInt64).toBitVec = x.toBitVec >>> k := by
  have h5 := (sm64 q k hk).2
  have e : ((BitVec.ofNat 64 k) % 64).toNat = k := by rw [BitVec.toNat_umod, BitVec.toNat_ofNat]; show k % 2 ^ 64 % 64 = k; omega
  show x.toBitVec >>> ((q &&& 0x3f).toInt64.toBitVec % 64) = _
  rw [BitVec.ushiftRight_eq', (sm64 q k hk).1, e]
theorem nat32 {q : Int32} (h : 0 ≤ q.toInt) : (q.toBitVec.toNat : Int) = q.toInt := by
  have e : q.toInt = q.toBitVec.toInt := rfl
  have lt := q.toBitVec.isLt
  rw [BitVec.toInt_eq_toNat_cond] at e
  split at e <;> omega
/-- bit i of a long -/
def bt (x : Int64) (i : Nat) : Bool := x.toBitVec.getLsbD i
theorem bt_ge {x : Int64} {i : Nat} (h : 64 ≤ i) : bt x i = false := BitVec.getLsbD_of_ge _ _ h
theorem bt_ext {x y : Int64} (h : ∀ i, i < 64 → bt x i = bt y i) : x = y := Int64.toBitVec_inj.mp (BitVec.eq_of_getLsbD_eq fun i hi => h i hi)
theorem bt_and (x y : Int64) (i : Nat) : bt (x &&& y) i = (bt x i && bt y i) := by simp [bt, Int64.toBitVec_and]
theorem bt_or (x y : Int64) (i : Nat) : bt (x ||| y) i = (bt x i || bt y i) := by simp [bt, Int64.toBitVec_or]
theorem bt_not (x : Int64) {i : Nat} (h : i < 64) : bt (x ^^^ (-1)) i = !bt x i := by
  have m : (-1 : Int64).toBitVec = BitVec.allOnes 64 := by decide
  simp [bt, Int64.toBitVec_xor, m, h]
theorem bt_m1 {i : Nat} (h : i < 64) : bt (-1) i = true := by
  have m : (-1 : Int64).toBitVec = BitVec.allOnes 64 := by decide
  show (-1 : Int64).toBitVec.getLsbD i = true
  rw [m, BitVec.getLsbD_allOnes]
  exact decide_eq_true h
theorem bt_0 (i : Nat) : bt 0 i = false := by
  have m : (0 : Int64).toBitVec = 0#64 := by decide
  simp [bt, m]
theorem bt_shl (x : Int64) (q : Int32) {k i : Nat} (hk : q.toBitVec.toNat % 64 = k) (h : i < 64) : bt (x <<< (q &&& 0x3f).toInt64) i = (decide (k ≤ i) && bt x (i - k)) := by
  rw [bt, shl_bv x q k hk, BitVec.getLsbD_shiftLeft]
  by_cases c : i < k
  · have : ¬ k ≤ i := by omega
    simp [c, h, this]
  · have : k ≤ i := by omega
    simp [c, h, this, bt]
theorem bt_ushr (x : Int64) (q : Int32) {k : Nat} (i : Nat) (hk : q.toBitVec.toNat % 64 = k) : bt ((x.toUInt64 >>> (q &&& 0x3f).toInt64.toUInt64).toInt64) i = bt x (k + i) := by
  rw [bt, ushr_bv x q k hk, BitVec.getLsbD_ushiftRight]; rfl
theorem bt_one (q : Int32) {k i : Nat} (hk : q.toBitVec.toNat % 64 = k) (h : i < 64) : bt (1 <<< (q &&& 0x3f).toInt64) i = decide (i = k) := by
  rw [bt_shl 1 q hk h]
  have m : (1 : Int64).toBitVec = 1#64 := by decide
  by_cases c : k ≤ i
  · by_cases d : i = k
    · subst d; simp [bt, m]
    · simp only [c, d, decide_true, decide_false, Bool.true_and, bt, m]
      rw [BitVec.getLsbD_one]; simp; omega
  · have : ¬ i = k := by omega
    simp [c, this]
theorem nz_bt {x : Int64} {i : Nat} (h : bt x i = true) : ¬ x = 0 := fun q => by rw [q, bt_0] at h; cases h
theorem own_z0 : (0 : Int32).toNatClampNeg = 0 := by decide
theorem clamp64 {q : Int64} (h : 0 ≤ q.toInt) : (q.toNatClampNeg : Int) = q.toInt := by show ((q.toInt.toNat : Nat) : Int) = _; omega
theorem own_k64 {p : Int64} (h : 0 ≤ p.toInt) : p.toInt32.toBitVec.toNat % 64 = p.toNatClampNeg % 64 := by
  have e1 := c_l2i p
  have e2 : p.toInt32.toInt = p.toInt32.toBitVec.toInt := rfl
  rw [BitVec.toInt_eq_toNat_cond] at e2
  have e3 := clamp64 h
  split at e2 <;> omega
theorem own_k32 {p : Int32} (h : 0 ≤ p.toInt) : p.toBitVec.toNat % 64 = p.toNatClampNeg % 64 := by
  have e1 := nat32 h
  have e2 := clamp_eq h
  omega
/-! the lowest bit of a long -/
theorem low32_bit (x : Int64) (j : Nat) (hj : j < 32) : x.toInt32.toBitVec.getLsbD j = x.toBitVec.getLsbD j := by
  have e : x.toInt32.toBitVec = x.toBitVec.signExtend 32 := rfl
  rw [e, BitVec.getLsbD_signExtend]
  have h6 : j < 64 := by omega
  simp [hj, h6]
theorem own_z32 (j : Nat) : (0 : Int32).toBitVec.getLsbD j = false := by
  have m : (0 : Int32).toBitVec = 0#32 := by decide
  rw [m]; simp
theorem own_n64_low {x : Int64} {k : Nat} (hk : k < 64) (h : Low x.toBitVec k) : own_n64 x = Int32.ofNat k := by
  unfold own_n64
  by_cases c : k < 32
  · have hz : ¬ x.toInt32 = 0 := fun q => by
      have b := low32_bit x k c
      rw [q, h.1, own_z32] at b
      cases b
    rw [if_neg hz]
    exact own_n32_low c ⟨(low32_bit x k c).trans h.1, fun j hj => (low32_bit x j (by omega)).trans (h.2 j hj)⟩
  · have hz : x.toInt32 = 0 := by
      apply Int32.toBitVec_inj.mp
      apply BitVec.eq_of_getLsbD_eq
      intro j hj
      rw [low32_bit x j hj, h.2 j (by omega), own_z32]
    rw [if_pos hz]
    have hs := ushr_bv x 32 32 (by decide)
    have L : Low (((x.toUInt64 >>> ((32 : Int32) &&& 0x3f).toInt64.toUInt64).toInt64).toInt32).toBitVec (k - 32) := by
      refine ⟨?_, fun j hj => ?_⟩
      · rw [low32_bit _ _ (by omega), hs, BitVec.getLsbD_ushiftRight, show 32 + (k - 32) = k by omega]; exact h.1
      · rw [low32_bit _ _ (by omega), hs, BitVec.getLsbD_ushiftRight]; exact h.2 _ (by omega)
    rw [own_n32_low (by omega) L]
    have q0 : ∀ j : Fin 32, (32 : Int32) + Int32.ofNat j.val = Int32.ofNat (32 + j.val) := by decide +kernel
    have q : (32 : Int32) + Int32.ofNat (k - 32) = Int32.ofNat (32 + (k - 32)) := q0 ⟨k - 32, by omega⟩
    rw [show 32 + (k - 32) = k by omega] at q
    exact q
theorem own_low_ex {w : Nat} (x : BitVec w) : ∀ n, (∃ k, k < n ∧ Low x k) ∨ ∀ j, j < n → x.getLsbD j = false
  | 0 => Or.inr fun j h => absurd h (Nat.not_lt_zero j)
  | n + 1 => by
    rcases own_low_ex x n with ⟨k, h1, h2⟩ | h
    · exact Or.inl ⟨k, by omega, h2⟩
    · cases c : x.getLsbD n with
      | true => exact Or.inl ⟨n, by omega, c, h⟩
      | false =>
        refine Or.inr fun j hj => ?_
        by_cases d : j = n
        · subst d; exact c
        · exact h j (by omega)
theorem own_low64 {x : Int64} (h : ¬ x = 0) : ∃ k, k < 64 ∧ Low x.toBitVec k := by
  rcases own_low_ex x.toBitVec 64 with q | q
  · exact q
  · exact absurd (bt_ext fun i hi => (q i hi).trans (bt_0 i).symm) h
theorem own_i64k {k : Nat} (h : k < 64) : ((Int32.ofNat k).toInt64).toInt = (k : Int) := (c_i2l _).trans (Int32.toInt_ofNat_of_lt (by show k < 2147483648; omega))
/-! the map -/
def own_w (p : Int32) : Int32 := (p.toUInt32 >>> ((6 : Int32) &&& 31).toUInt32).toInt32
def own_w64 (p : Int64) : Int64 := (p.toUInt64 >>> ((6 : Int32) &&& 0x3f).toInt64.toUInt64).toInt64
def own_wd (n : Int32) : Int32 := ((((n.toInt64 + 64) - 1).toUInt64 >>> ((6 : Int32) &&& 0x3f).toInt64.toUInt64).toInt64).toInt32
def own_wat (xs : List Int64) (w : Int64) : Int64 := xs.getD w.toNatClampNeg (-1)
def own_bit (bs : List Int64) (x : Nat) : Bool := bt (bs.getD (x / 64) (-1)) (x % 64)
def own_clr (bs : List Int64) (p : Int32) : List Int64 := put64 bs (own_w p) (at64 bs (own_w p) &&& ((1 <<< (p &&& 0x3f).toInt64) ^^^ (-1)))
def own_set (bs : List Int64) (p : Int32) : List Int64 := put64 bs (own_w p) (at64 bs (own_w p) ||| (1 <<< (p &&& 0x3f).toInt64))
def own_isSet (bs : List Int64) (p : Int64) : Int32 := if own_wat bs (own_w64 p) &&& (1 <<< (p.toInt32 &&& 0x3f).toInt64) = 0 then 0 else 1
def own_from (bs : List Int64) (p : Int64) : Int64 := own_wat bs (own_w64 p) &&& ((-1) <<< (p.toInt32 &&& 0x3f).toInt64)
def own_next (bs : List Int64) (p : Int64) : Int64 := if own_from bs p = 0 then (own_w64 p + 1) * 64 + (own_n64 (own_wat bs (own_w64 p + 1))).toInt64 else own_w64 p * 64 + (own_n64 (own_from bs p)).toInt64
def own_sh (p : Int64) : Int32 := (p &&& 63).toInt32
def own_bf (bs : List Int64) (p : Int64) : Int64 := if own_sh p = 0 then ((own_wat bs (own_w64 p)).toUInt64 >>> (own_sh p &&& 0x3f).toInt64.toUInt64).toInt64 else ((own_wat bs (own_w64 p)).toUInt64 >>> (own_sh p &&& 0x3f).toInt64.toUInt64).toInt64 ||| (own_wat bs (own_w64 p + 1) <<< ((64 - own_sh p) &&& 0x3f).toInt64)
theorem own_l32 {n : Nat} {z : Int32} (h : (n : Int) = z.toInt) : n.toInt32 = z := by
  have r := rng32 z
  have q : (Int32.ofNat n).toInt = (n : Int) := Int32.toInt_ofNat_of_lt (by show n < 2147483648; omega)
  exact i_eq (q.trans h)
theorem own_jrep (n : Nat) (z : Int64) : List.replicate n (Value.long z) = ja (List.replicate n z) := by simp [ja]
theorem own_fstep {xs : List Int64} {z : Int64} {i : Int32} (h0 : 0 ≤ i.toInt) (h1 : i.toInt < xs.length) : put64 (List.replicate i.toNatClampNeg z ++ xs.drop i.toNatClampNeg) i z = List.replicate (i + 1).toNatClampNeg z ++ xs.drop (i + 1).toNatClampNeg ∨ 2147483647 ≤ i.toInt := by
  by_cases c : 2147483647 ≤ i.toInt
  · exact Or.inr c
  · refine Or.inl ?_
    have e1 : (i + 1).toInt = i.toInt + 1 := i_add rfl rfl (by omega) (by omega)
    have c1 := clamp_eq h0
    have c2 := clamp_eq (j := i + 1) (by omega)
    have e2 : (i + 1).toNatClampNeg = i.toNatClampNeg + 1 := by omega
    have hk : i.toNatClampNeg < xs.length := by omega
    unfold put64
    rw [List.set_append_right _ _ (by simp), List.length_replicate, Nat.sub_self, List.drop_eq_getElem_cons hk, List.set_cons_zero, e2, List.replicate_succ', List.append_assoc]
    all_goals rfl
theorem own_w_i {p : Int32} (h : 0 ≤ p.toInt) : (own_w p).toInt = p.toInt / 64 := by
  have e : (own_w p).toInt = (p.toInt % 4294967296) / (2 ^ 6 : Nat) := c_iushr p 6 6 (by decide) (by decide)
  have r := rng32 p
  omega
theorem own_w_n {p : Int32} (h : 0 ≤ p.toInt) : (own_w p).toNatClampNeg = p.toNatClampNeg / 64 := by
  have e := own_w_i h
  have e1 := clamp_eq h
  have e2 := clamp_eq (j := own_w p) (by omega)
  omega
theorem own_w64_i {p : Int64} (h : 0 ≤ p.toInt) : (own_w64 p).toInt = p.toInt / 64 := by
  have e : (own_w64 p).toInt = (p.toInt % 18446744073709551616) / (2 ^ 6 : Nat) := c_lushr p 6 6 (by decide) (by decide)
  have r := rng64 p
  omega
theorem own_w64_j {p : Int64} (h : 0 ≤ p.toInt) : (own_w64 p + 1).toInt = p.toInt / 64 + 1 := by
  have r := rng64 p
  exact l_add (own_w64_i h) rfl (by omega) (by omega)
theorem own_w64_0 {p : Int64} (h : 0 ≤ p.toInt) : 0 ≤ (own_w64 p).toInt := by rw [own_w64_i h]; omega
theorem own_w64_1 {p : Int64} (h : 0 ≤ p.toInt) : 0 ≤ (own_w64 p + 1).toInt := by rw [own_w64_j h]; omega
theorem own_w64_n {p : Int64} (h : 0 ≤ p.toInt) : (own_w64 p).toNatClampNeg = p.toNatClampNeg / 64 := by
  have e := own_w64_i h
  have e1 := clamp64 h
  have e2 := clamp64 (own_w64_0 h)
  omega
theorem own_w64_m {p : Int64} (h : 0 ≤ p.toInt) : (own_w64 p + 1).toNatClampNeg = p.toNatClampNeg / 64 + 1 := by
  have e := own_w64_j h
  have e1 := clamp64 h
  have e2 := clamp64 (own_w64_1 h)
  omega
theorem own_wd_i {n : Int32} (h0 : 0 ≤ n.toInt) (h1 : n.toInt < 1000000) : (own_wd n).toInt = (n.toInt + 63) / 64 := by
  have e1 := l_add (b := 64) (y := 64) (c_i2l n) rfl (by omega) (by omega)
  have e2 := l_sub (b := 1) (y := 1) e1 rfl (by omega) (by omega)
  have e3 := c_lushr ((n.toInt64 + 64) - 1) 6 6 (by decide) (by decide)
  rw [e2] at e3
  have e4 := c_l2i ((((n.toInt64 + 64) - 1).toUInt64 >>> ((6 : Int32) &&& 0x3f).toInt64.toUInt64).toInt64)
  rw [e3] at e4
  have r := rng32 (own_wd n)
  have e5 : (own_wd n).toInt = ((((n.toInt64 + 64) - 1).toUInt64 >>> ((6 : Int32) &&& 0x3f).toInt64.toUInt64).toInt64).toInt32.toInt := rfl
  omega
theorem own_wd_one {n : Int32} (h0 : 1 ≤ n.toInt) (h1 : n.toInt ≤ 64) : own_wd n = 1 := by
  apply i_eq
  have e : (1 : Int32).toInt = 1 := rfl
  rw [own_wd_i (by omega) (by omega), e]
  omega
theorem own_wat_in {xs : List Int64} {wq : Int64} (h0 : 0 ≤ wq.toInt) (h1 : wq.toInt < xs.length) (h2 : wq.toInt32.toInt = wq.toInt) : at64 xs wq.toInt32 = own_wat xs wq := by
  have e : wq.toInt32.toNatClampNeg = wq.toNatClampNeg := by show wq.toInt32.toInt.toNat = wq.toInt.toNat; rw [h2]
  have l : wq.toNatClampNeg < xs.length := by have := clamp64 h0; omega
  unfold at64 own_wat
  rw [e]
  simp [l]
theorem own_wat_out {xs : List Int64} {wq : Int64} (h1 : xs.length ≤ wq.toInt) : own_wat xs wq = -1 := by
  have c := clamp64 (q := wq) (by omega)
  unfold own_wat
  rw [List.getD_eq_getElem?_getD, List.getElem?_eq_none (by omega)]
  rfl
theorem own_wat1 (w : Int64) : own_wat [-1] w = -1 := by
  unfold own_wat
  cases w.toNatClampNeg with
  | zero => rfl
  | succ n => rfl
theorem own_gd {bs : List Int64} {w j : Nat} {x d : Int64} (h : w < bs.length) : (bs.set w x).getD j d = if j = w then x else bs.getD j d := by
  rw [List.getD_eq_getElem?_getD, List.getD_eq_getElem?_getD, List.getElem?_set]
  by_cases c : j = w
  · subst c; simp [h]
  · have c' : ¬ w = j := fun e => c e.symm
    simp [c, c']
theorem own_gd0 {bs : List Int64} {w : Nat} (h : w < bs.length) : bs.getD w 0 = bs.getD w (-1) := by simp [h]
theorem own_nw_b {w : Int64} (h0 : 0 ≤ w.toInt) {j : Nat} (hj : j < 64) : bt (own_from [-1] w) j = decide (w.toNatClampNeg % 64 ≤ j) := by
  unfold own_from
  rw [own_wat1, bt_and, bt_m1 hj, bt_shl _ _ (own_k64 h0) hj, bt_m1 (by omega)]
  simp
theorem own_nw_nz {w : Int64} (h0 : 0 ≤ w.toInt) : ¬ own_from [-1] w = 0 := nz_bt (i := w.toNatClampNeg % 64) ((own_nw_b h0 (by omega)).trans (decide_eq_true (Nat.le_refl _)))
theorem own_nw_eq {w : Int64} (h0 : 0 ≤ w.toInt) : own_w64 w * 64 + (own_n64 (own_from [-1] w)).toInt64 = w := by
  have L : Low (own_from [-1] w).toBitVec (w.toNatClampNeg % 64) := ⟨(own_nw_b h0 (by omega)).trans (decide_eq_true (Nat.le_refl _)), fun j hj => (own_nw_b h0 (by omega)).trans (decide_eq_false (by omega))⟩
  rw [own_n64_low (by omega) L]
  apply l_eq
  have r := rng64 w
  have e3 := clamp64 h0
  have e2 := own_i64k (k := w.toNatClampNeg % 64) (by omega)
  have e4 := l_mul (b := 64) (y := 64) (own_w64_i h0) rfl (by omega) (by omega)
  have e5 := l_add e4 e2 (by omega) (by omega)
  rw [e5]
  omega
theorem own_tst {W : Int64} {q : Int32} {k : Nat} (hk : q.toBitVec.toNat % 64 = k) : (W &&& (1 <<< (q &&& 0x3f).toInt64) = 0) ↔ bt W k = false := by
  have hk' : k < 64 := by omega
  constructor
  · intro e
    have b := congrArg (fun z => bt z k) e
    simp only [bt_and, bt_one q hk hk', bt_0] at b
    simpa using b
  · intro e
    apply bt_ext
    intro i hi
    rw [bt_and, bt_one q hk hi, bt_0]
    by_cases c : i = k
    · subst c; simp [e]
    · simp [c]
theorem own_wat_bit {bs : List Int64} {p : Int64} (h : 0 ≤ p.toInt) : own_wat bs (own_w64 p) = bs.getD (p.toNatClampNeg / 64) (-1) := by unfold own_wat; rw [own_w64_n h]
theorem own_wat_bit1 {bs : List Int64} {p : Int64} (h : 0 ≤ p.toInt) : own_wat bs (own_w64 p + 1) = bs.getD (p.toNatClampNeg / 64 + 1) (-1) := by unfold own_wat; rw [own_w64_m h]
theorem own_isSet_eq {bs : List Int64} {p : Int64} (h : 0 ≤ p.toInt) : own_isSet bs p = if own_bit bs p.toNatClampNeg = true then 1 else 0 := by
  have t := own_tst (W := own_wat bs (own_w64 p)) (own_k64 h)
  have e : own_bit bs p.toNatClampNeg = bt (own_wat bs (own_w64 p)) (p.toNatClampNeg % 64) := by unfold own_bit; rw [own_wat_bit h]
  unfold own_isSet
  rw [e]
  cases c : bt (own_wat bs (own_w64 p)) (p.toNatClampNeg % 64) with
  | true =>
    have nz : ¬ (own_wat bs (own_w64 p) &&& (1 <<< (p.toInt32 &&& 0x3f).toInt64) = 0) := fun q => by rw [t.mp q] at c; cases c
    rw [if_neg nz]
    all_goals first | rfl | simp
  | false =>
    rw [if_pos (t.mpr c)]
    all_goals first | rfl | simp
theorem own_clr_len (bs : List Int64) (p : Int32) : (own_clr bs p).length = bs.length := put64_len _ _ _
theorem own_set_len (bs : List Int64) (p : Int32) : (own_set bs p).length = bs.length := put64_len _ _ _
theorem own_bit_clr {bs : List Int64} {p : Int32} (h0 : 0 ≤ p.toInt) (h1 : p.toInt / 64 < bs.length) (x : Nat) : own_bit (own_clr bs p) x = (own_bit bs x && !decide (x = p.toNatClampNeg)) := by
  have c0 := clamp_eq h0
  have l : p.toNatClampNeg / 64 < bs.length := by omega
  unfold own_bit own_clr put64
  rw [own_w_n h0, own_gd l]
  by_cases c : x / 64 = p.toNatClampNeg / 64
  · rw [if_pos c, bt_and, bt_not _ (by omega), bt_one p (own_k32 h0) (by omega)]
    have e : at64 bs (own_w p) = bs.getD (x / 64) (-1) := by unfold at64; rw [own_w_n h0, own_gd0 l, c]
    rw [e]
    by_cases d : x = p.toNatClampNeg
    · have d' : x % 64 = p.toNatClampNeg % 64 := by rw [d]
      simp [d, d']
    · have d' : ¬ x % 64 = p.toNatClampNeg % 64 := by omega
      simp [d, d']
  · rw [if_neg c]
    have d : ¬ x = p.toNatClampNeg := fun q => c (by rw [q])
    simp [d]
theorem own_bit_set {bs : List Int64} {p : Int32} (h0 : 0 ≤ p.toInt) (h1 : p.toInt / 64 < bs.length) (x : Nat) : own_bit (own_set bs p) x = (own_bit bs x || decide (x = p.toNatClampNeg)) := by
  have c0 := clamp_eq h0
  have l : p.toNatClampNeg / 64 < bs.length := by omega
  unfold own_bit own_set put64
  rw [own_w_n h0, own_gd l]
  by_cases c : x / 64 = p.toNatClampNeg / 64
  · rw [if_pos c, bt_or, bt_one p (own_k32 h0) (by omega)]
    have e : at64 bs (own_w p) = bs.getD (x / 64) (-1) := by unfold at64; rw [own_w_n h0, own_gd0 l, c]
    rw [e]
    by_cases d : x = p.toNatClampNeg
    · have d' : x % 64 = p.toNatClampNeg % 64 := by rw [d]
      simp [d, d']
    · have d' : ¬ x % 64 = p.toNatClampNeg % 64 := by omega
      simp [d, d']
  · rw [if_neg c]
    have d : ¬ x = p.toNatClampNeg := fun q => c (by rw [q])
    simp [d]
theorem own_bit_rep (n x : Nat) : own_bit (List.replicate n (-1)) x = true := by
  unfold own_bit
  have e : (List.replicate n (-1 : Int64)).getD (x / 64) (-1) = -1 := by
    rw [List.getD_eq_getElem?_getD, List.getElem?_replicate]
    split <;> rfl
  rw [e]
  exact bt_m1 (by omega)
theorem own_clr_nz {bs : List Int64} {p : Int32} {x : Nat} (h0 : 0 ≤ p.toInt) (h1 : p.toInt / 64 < bs.length) (hx : x / 64 = p.toNatClampNeg / 64) (hb : own_bit (own_clr bs p) x = true) : ¬ at64 (own_clr bs p) (own_w p) = 0 := by
  have c0 := clamp_eq h0
  have l : p.toNatClampNeg / 64 < (own_clr bs p).length := by rw [own_clr_len]; omega
  have e : at64 (own_clr bs p) (own_w p) = (own_clr bs p).getD (x / 64) (-1) := by unfold at64; rw [own_w_n h0, own_gd0 l, hx]
  rw [e]
  exact nz_bt (i := x % 64) hb
theorem own_clr_nz2 {bs : List Int64} {p : Int32} {Q : Nat} (h0 : 0 ≤ p.toInt) (h1 : p.toInt / 64 < bs.length) (hall : ∀ x, x ≠ Q → own_bit bs x = true) : ¬ at64 (own_clr bs p) (own_w p) = 0 := by
  have pick : ∃ x, x / 64 = p.toNatClampNeg / 64 ∧ x ≠ p.toNatClampNeg ∧ x ≠ Q := by
    by_cases c : p.toNatClampNeg / 64 * 64 + (p.toNatClampNeg % 64 + 1) % 64 = Q
    · exact ⟨p.toNatClampNeg / 64 * 64 + (p.toNatClampNeg % 64 + 2) % 64, by omega, by omega, by omega⟩
    · exact ⟨p.toNatClampNeg / 64 * 64 + (p.toNatClampNeg % 64 + 1) % 64, by omega, by omega, c⟩
  obtain ⟨x, e1, e2, e3⟩ := pick
  refine own_clr_nz h0 h1 e1 ?_
  rw [own_bit_clr h0 h1, hall x e3]
  simp [e2]
theorem own_sh_i {p : Int64} (h : 0 ≤ p.toInt) : (own_sh p).toInt = p.toInt % 64 := by
  have e : (p &&& 63).toInt = p.toInt % (2 ^ 6 : Nat) := c_maskL p 63 6 (by decide) (by decide)
  have e1 := c_l2i (p &&& 63)
  have r := rng32 (own_sh p)
  have e2 : (own_sh p).toInt = (p &&& 63).toInt32.toInt := rfl
  omega
theorem own_bf_bt {bs : List Int64} {p : Int64} {i : Nat} (h : 0 ≤ p.toInt) (hi : i < 64) : bt (own_bf bs p) i = own_bit bs (p.toNatClampNeg + i) := by
  have es := own_sh_i h
  have ec := clamp64 h
  have en := nat32 (q := own_sh p) (by omega)
  have hk : (own_sh p).toBitVec.toNat % 64 = p.toNatClampNeg % 64 := by omega
  unfold own_bf own_bit
  rw [own_wat_bit h, own_wat_bit1 h]
  by_cases c : own_sh p = 0
  · rw [if_pos c, bt_ushr _ _ _ hk]
    have c0 : (own_sh p).toInt = 0 := by rw [c]; rfl
    have d1 : (p.toNatClampNeg + i) / 64 = p.toNatClampNeg / 64 := by omega
    have d2 : (p.toNatClampNeg + i) % 64 = p.toNatClampNeg % 64 + i := by omega
    rw [d1, d2]
  · rw [if_neg c]
    have c0 : ¬ (own_sh p).toInt = 0 := i_ne c
    have e6 : (64 - own_sh p : Int32).toInt = 64 - (own_sh p).toInt := i_sub rfl rfl (by omega) (by omega)
    have en6 := nat32 (q := 64 - own_sh p) (by omega)
    have hk6 : (64 - own_sh p : Int32).toBitVec.toNat % 64 = 64 - p.toNatClampNeg % 64 := by omega
    rw [bt_or, bt_ushr _ _ _ hk, bt_shl _ _ hk6 hi]
    by_cases d : p.toNatClampNeg % 64 + i < 64
    · have d1 : (p.toNatClampNeg + i) / 64 = p.toNatClampNeg / 64 := by omega
      have d2 : (p.toNatClampNeg + i) % 64 = p.toNatClampNeg % 64 + i := by omega
      have d3 : ¬ 64 - p.toNatClampNeg % 64 ≤ i := by omega
      rw [d1, d2]
      simp [d3]
    · have d1 : (p.toNatClampNeg + i) / 64 = p.toNatClampNeg / 64 + 1 := by omega
      have d2 : (p.toNatClampNeg + i) % 64 = i - (64 - p.toNatClampNeg % 64) := by omega
      have d3 : 64 - p.toNatClampNeg % 64 ≤ i := by omega
      rw [d1, d2, bt_ge (i := p.toNatClampNeg % 64 + i) (by omega)]
      simp [d3]
theorem own_from_b {bs : List Int64} {p : Int64} (h0 : 0 ≤ p.toInt) {j : Nat} (hj : j < 64) : bt (own_from bs p) j = (own_bit bs (p.toNatClampNeg / 64 * 64 + j) && decide (p.toNatClampNeg % 64 ≤ j)) := by
  have d1 : (p.toNatClampNeg / 64 * 64 + j) / 64 = p.toNatClampNeg / 64 := by omega
  have d2 : (p.toNatClampNeg / 64 * 64 + j) % 64 = j := by omega
  unfold own_from own_bit
  rw [bt_and, bt_shl _ _ (own_k64 h0) hj, bt_m1 (by omega), own_wat_bit h0, d1, d2, Bool.and_true]
theorem own_next_spec {bs : List Int64} {p : Int64} {U V : Nat} (h0 : 0 ≤ p.toInt) (hb : p.toInt < 100000) (hall : ∀ x, x ≠ U → x ≠ V → own_bit bs x = true) : ∃ r : Nat, (own_next bs p).toInt = (r : Int) ∧ p.toNatClampNeg ≤ r ∧ own_bit bs r = true ∧ ∀ q, p.toNatClampNeg ≤ q → q < r → own_bit bs q = false := by
  have ec := clamp64 h0
  unfold own_next
  by_cases c : own_from bs p = 0
  · rw [if_pos c]
    have hz : ∀ j, j < 64 → p.toNatClampNeg % 64 ≤ j → own_bit bs (p.toNatClampNeg / 64 * 64 + j) = false := fun j hj hk => by
      have b := own_from_b (bs := bs) h0 hj
      rw [c, bt_0, decide_eq_true hk, Bool.and_true] at b
      exact b.symm
    have pick : ∃ x, x / 64 = p.toNatClampNeg / 64 + 1 ∧ x ≠ U ∧ x ≠ V := by
      by_cases c1 : (p.toNatClampNeg / 64 + 1) * 64 = U ∨ (p.toNatClampNeg / 64 + 1) * 64 = V
      · by_cases c2 : (p.toNatClampNeg / 64 + 1) * 64 + 1 = U ∨ (p.toNatClampNeg / 64 + 1) * 64 + 1 = V
        · exact ⟨(p.toNatClampNeg / 64 + 1) * 64 + 2, by omega, by omega, by omega⟩
        · exact ⟨(p.toNatClampNeg / 64 + 1) * 64 + 1, by omega, by omega, by omega⟩
      · exact ⟨(p.toNatClampNeg / 64 + 1) * 64, by omega, by omega, by omega⟩
    obtain ⟨x, x1, x2, x3⟩ := pick
    have hx := hall x x2 x3
    have nz : ¬ own_wat bs (own_w64 p + 1) = 0 := by
      rw [own_wat_bit1 h0, ← x1]
      exact nz_bt (i := x % 64) hx
    obtain ⟨k, hk, L⟩ := own_low64 nz
    rw [own_n64_low hk L]
    have e1 := l_mul (b := 64) (y := 64) (own_w64_j h0) rfl (by omega) (by omega)
    have e2 := l_add e1 (own_i64k hk) (by omega) (by omega)
    have bitk : ∀ j, j < 64 → own_bit bs ((p.toNatClampNeg / 64 + 1) * 64 + j) = (own_wat bs (own_w64 p + 1)).toBitVec.getLsbD j := fun j hj => by
      have d1 : ((p.toNatClampNeg / 64 + 1) * 64 + j) / 64 = p.toNatClampNeg / 64 + 1 := by omega
      have d2 : ((p.toNatClampNeg / 64 + 1) * 64 + j) % 64 = j := by omega
      unfold own_bit
      rw [d1, d2, ← own_wat_bit1 h0]
      all_goals rfl
    refine ⟨(p.toNatClampNeg / 64 + 1) * 64 + k, by rw [e2]; omega, by omega, (bitk k hk).trans L.1, fun q q1 q2 => ?_⟩
    by_cases d : q < (p.toNatClampNeg / 64 + 1) * 64
    · have e3 := hz (q % 64) (by omega) (by omega)
      have e4 : p.toNatClampNeg / 64 * 64 + q % 64 = q := by omega
      rw [e4] at e3
      exact e3
    · have e3 := bitk (q % 64) (by omega)
      have e4 : (p.toNatClampNeg / 64 + 1) * 64 + q % 64 = q := by omega
      rw [e4] at e3
      exact e3.trans (L.2 _ (by omega))
  · rw [if_neg c]
    obtain ⟨k, hk, L⟩ := own_low64 c
    rw [own_n64_low hk L]
    have e1 := l_mul (b := 64) (y := 64) (own_w64_i h0) rfl (by omega) (by omega)
    have e2 := l_add e1 (own_i64k hk) (by omega) (by omega)
    have b := own_from_b (bs := bs) h0 hk
    have b1 : bt (own_from bs p) k = true := L.1
    rw [b1] at b
    have b2 : own_bit bs (p.toNatClampNeg / 64 * 64 + k) = true ∧ p.toNatClampNeg % 64 ≤ k := by simpa using b.symm
    have b3 := b2.2
    refine ⟨p.toNatClampNeg / 64 * 64 + k, by rw [e2]; omega, by omega, b2.1, fun q q1 q2 => ?_⟩
    have f := own_from_b (bs := bs) h0 (j := q % 64) (by omega)
    have f1 : bt (own_from bs p) (q % 64) = false := L.2 _ (by omega)
    have e4 : p.toNatClampNeg / 64 * 64 + q % 64 = q := by omega
    rw [f1, e4, decide_eq_true (by omega), Bool.and_true] at f
    exact f.symm
theorem own_eb_no {e : Int64} {P R : Nat} (h : ∀ i, i < 64 → ¬ R + i = P) : ∀ i, i < 64 → bt e i = (bt e i && !decide (R + i = P)) := fun i hi => by rw [decide_eq_false (h i hi)]; simp
theorem own_eb_yes {e d : Int64} {P R : Nat} (hd : d.toInt = (P : Int) - R) (h0 : R ≤ P) (h1 : P < R + 64) : ∀ i, i < 64 → bt (e &&& ((1 <<< (d.toInt32 &&& 0x3f).toInt64) ^^^ (-1))) i = (bt e i && !decide (R + i = P)) := fun i hi => by
  have ed := clamp64 (q := d) (by omega)
  have hk := own_k64 (p := d) (by omega)
  rw [bt_and, bt_not _ hi, bt_one d.toInt32 hk hi]
  by_cases c : R + i = P
  · have c' : i = d.toNatClampNeg % 64 := by omega
    rw [decide_eq_true c', decide_eq_true c]
  · have c' : ¬ i = d.toNatClampNeg % 64 := by omega
    rw [decide_eq_false c', decide_eq_false c]
theorem own_nz0 {y : Int32} (h : 1 ≤ y.toInt) : y ≠ 0 := fun q => by rw [q] at h; exact absurd h (by decide)
theorem own_rm (x y : Int32) (h : 1 ≤ y.toInt) : 0 ≤ ((x &&& 2147483647) % y).toInt ∧ ((x &&& 2147483647) % y).toInt < y.toInt := by
  have e := c_mask x 2147483647 31 (by decide) (by decide)
  have e2 := i_rem (b := y) e rfl (by omega)
  rw [e2]
  exact ⟨Int.emod_nonneg _ (by omega), Int.emod_lt_of_pos _ (by omega)⟩
theorem own_rm64 (x y : Int32) (h : 1 ≤ y.toInt) : 0 ≤ ((x &&& 2147483647) % y).toInt64.toInt ∧ ((x &&& 2147483647) % y).toInt64.toInt < y.toInt := by rw [c_i2l]; exact own_rm x y h
theorem own_len (x : Int32) (k : Nat) (mk : Int32) (hk : k ≤ 12) (hm : mk.toBitVec.toNat = 2 ^ k - 1) : 1 ≤ ((x &&& mk) + 1).toInt ∧ ((x &&& mk) + 1).toInt ≤ (2 ^ k : Nat) := by
  have e := c_mask x mk k (by omega) hm
  have l : 2 ^ k ≤ 2 ^ 12 := Nat.pow_le_pow_right (by decide) hk
  have hp : 0 < 2 ^ k := Nat.two_pow_pos k
  generalize 2 ^ k = K at e l hp ⊢
  have e1 := Int.emod_nonneg x.toInt (show (K : Int) ≠ 0 by omega)
  have e2 := Int.emod_lt_of_pos x.toInt (show (0 : Int) < (K : Int) by omega)
  have e3 := i_add (b := 1) (y := 1) e rfl (by omega) (by omega)
  omega
theorem own_next_two {bs : List Int64} {r n2 : Int64} {P Q : Nat} {pp qq n1 : Int} (h0 : 0 ≤ r.toInt) (hb : r.toInt < 100000) (e1 : (P : Int) = pp) (e2 : (Q : Int) = qq) (hBit : ∀ x, own_bit bs x = (!decide (x = P) && !decide (x = Q))) (hn1 : n1 = if r.toInt = pp ∨ r.toInt = qq then r.toInt + 1 else r.toInt) (hn2 : n2.toInt = if n1 = pp ∨ n1 = qq then n1 + 1 else n1) : own_next bs r = n2 := by
  obtain ⟨k, k1, k2, k3, k4⟩ := own_next_spec (U := P) (V := Q) h0 hb (fun x a b => by rw [hBit]; simp [a, b])
  have ec := clamp64 h0
  rw [hBit] at k3
  have k5 : k ≠ P ∧ k ≠ Q := by simpa using k3
  apply l_eq
  rw [k1]
  have n0 : 0 ≤ n2.toInt := by split at hn1 <;> split at hn2 <;> omega
  have en := clamp64 n0
  have k6 : r.toNatClampNeg ≤ n2.toNatClampNeg → n2.toNatClampNeg < k → n2.toNatClampNeg = P ∨ n2.toNatClampNeg = Q := fun a b => by
    have q := k4 _ a b
    rw [hBit] at q
    by_cases c1 : n2.toNatClampNeg = P
    · exact Or.inl c1
    · by_cases c2 : n2.toNatClampNeg = Q
      · exact Or.inr c2
      · simp [c1, c2] at q
  split at hn1 <;> split at hn2 <;> omega
theorem d5_0 : decode prog_27_method_12_code 0 = .ok (.iload_n 0, 1) := by decide +kernel
theorem d5_1 : decode prog_27_method_12_code 1 = .ok (.i2l, 1) := by decide +kernel
theorem d5_2 : decode prog_27_method_12_code 2 = .ok (.ldc2_w 35, 3) := by decide +kernel
theorem d5_5 : decode prog_27_method_12_code 5 = .ok (.ladd, 1) := by decide +kernel
theorem d5_6 : decode prog_27_method_12_code 6 = .ok (.lconst 1, 1) := by decide +kernel
theorem d5_7 : decode prog_27_method_12_code 7 = .ok (.lsub, 1) := by decide +kernel
theorem d5_8 : decode prog_27_method_12_code 8 = .ok (.bipush 6, 2) := by decide +kernel
theorem d5_10 : decode prog_27_method_12_code 10 = .ok (.lushr, 1) := by decide +kernel
theorem d5_11 : decode prog_27_method_12_code 11 = .ok (.l2i, 1) := by decide +kernel
theorem d5_12 : decode prog_27_method_12_code 12 = .ok (.ireturn, 1) := by decide +kernel
theorem pn_com_example_tokushima_tokushima_SummaryBitmap : plainName "com/example/tokushima/tokushima/SummaryBitmap" = true := by first | (simp [plainName, overriddenIn]; done) | decide +kernel
theorem ef_own_words (m : MethodId) (n : Int32)  : entryFrame m #[(.int n)] 1 = mkF m 0 #[iv n] [] := by
  first | (simp [entryFrame, mkF, argsToLocals, Value.category]; done) | rfl
set_option maxRecDepth 65536 in
set_option maxHeartbeats 40000000 in
theorem own_words (l : Launch) (Z : State) (a0 : Array Value) (hw : ∀ d ∈ tables_1, d.before a0 Z = true) (n : Int32)  (h : Heap) (n0 : Nat) (hn0 : Old Z n0 h)  :
    Con l Z (⟨"com/example/tokushima/tokushima/SummaryBitmap", "words", "(I)I"⟩ : MethodName) prog_27_method_12_code 1 (some .int) ({ frames := 0, cells := 0, slots := 0, locals := 0 } : Room) #[(.int n)] h n0 (fun v h' => v = some (.int (own_wd n)) ∧ h = h') := by
  refine con_of hw (plainFor_of_name pn_com_example_tokushima_tokushima_SummaryBitmap) hn0 ?_
  intro p e s m below meth c T0 C X0
  refine Go.cast (congrArg T0.setTop (ef_own_words m n)) ?_
  refine go_iloadN C X0 1 rfl d5_0 rfl ?_
  refine go_i2l C X0 2 rfl d5_1 ?_
  refine go_ldc2Long C X0 (C.w 29 rfl) (pc' := 5) rfl d5_2 ?_
  refine go_ladd C X0 6 rfl d5_5 ?_
  refine go_lconst C X0 7 rfl d5_6 (z := 1) rfl ?_
  refine go_lsub C X0 8 rfl d5_7 ?_
  refine go_bipush C X0 10 rfl d5_8 (z := 6) rfl ?_
  refine go_lushr C X0 11 rfl d5_10 ?_
  refine go_l2i C X0 12 rfl d5_11 ?_
  exact go_retI C X0 d5_12 ⟨rfl, rfl⟩ (by decide) (by decide)
theorem d8_0 : decode jdk_29_method_69_code 0 = .ok (.iload_n 0, 1) := by decide +kernel
theorem d8_1 : decode jdk_29_method_69_code 1 = .ok (.iload_n 1, 1) := by decide +kernel
theorem d8_2 : decode jdk_29_method_69_code 2 = .ok (.if_icmp .gt 7, 3) := by decide +kernel
theorem d8_5 : decode jdk_29_method_69_code 5 = .ok (.iload_n 0, 1) := by decide +kernel
theorem d8_6 : decode jdk_29_method_69_code 6 = .ok (.goto 4, 3) := by decide +kernel
theorem d8_10 : decode jdk_29_method_69_code 10 = .ok (.ireturn, 1) := by decide +kernel
theorem ef_own_min (m : MethodId) (a : Int32) (b : Int32)  : entryFrame m #[(.int a), (.int b)] 2 = mkF m 0 #[iv a, iv b] [] := by
  first | (simp [entryFrame, mkF, argsToLocals, Value.category]; done) | rfl
set_option maxRecDepth 65536 in
set_option maxHeartbeats 40000000 in
theorem own_min (l : Launch) (Z : State) (a0 : Array Value) (hw : ∀ d ∈ tables_1, d.before a0 Z = true) (a : Int32) (b : Int32)  (h : Heap) (n0 : Nat) (hn0 : Old Z n0 h) (q : a.toInt ≤ b.toInt) :
    Con l Z (⟨"java/lang/Math", "min", "(II)I"⟩ : MethodName) jdk_29_method_69_code 2 (some .int) ({ frames := 0, cells := 0, slots := 0, locals := 0 } : Room) #[(.int a), (.int b)] h n0 (fun v h' => v = some (.int a) ∧ h = h') := by
  refine con_of hw (Jvm.Free.JP.mathPlain rfl (by decide +kernel)) hn0 ?_
  intro p e s m below meth c T0 C X0
  refine Go.cast (congrArg T0.setTop (ef_own_min m a b)) ?_
  refine go_iloadN C X0 1 rfl d8_0 rfl ?_
  refine go_iloadN C X0 2 rfl d8_1 rfl ?_
  refine go_icmp_gt C X0 d8_2 (pc' := 5) (pc2 := 9) rfl (by decide) (by decide) (fun (c2 : b.toInt < a.toInt) => False.elim (by omega)) (fun (c2 : a.toInt ≤ b.toInt) => ?_)
  refine go_iloadN C X0 6 rfl d8_5 rfl ?_
  refine go_goto C X0 d8_6 (pc' := 10) (by decide) (by decide) ?_
  exact go_retI C X0 d8_10 ⟨rfl, rfl⟩ (by decide) (by decide)
theorem d10_0 : decode jdk_65_method_30_code 0 = .ok (.iload_n 1, 1) := by decide +kernel
theorem d10_1 : decode jdk_65_method_30_code 1 = .ok (.iload_n 2, 1) := by decide +kernel
theorem d10_2 : decode jdk_65_method_30_code 2 = .ok (.if_icmp .le 44, 3) := by decide +kernel
theorem d10_46 : decode jdk_65_method_30_code 46 = .ok (.iload_n 1, 1) := by decide +kernel
theorem d10_47 : decode jdk_65_method_30_code 47 = .ok (.ifCond .ge 12, 3) := by decide +kernel
theorem d10_59 : decode jdk_65_method_30_code 59 = .ok (.iload_n 2, 1) := by decide +kernel
theorem d10_60 : decode jdk_65_method_30_code 60 = .ok (.iload_n 0, 1) := by decide +kernel
theorem d10_61 : decode jdk_65_method_30_code 61 = .ok (.if_icmp .le 12, 3) := by decide +kernel
theorem d10_73 : decode jdk_65_method_30_code 73 = .ok (.return_, 1) := by decide +kernel
theorem pn_java_util_Arrays : plainName "java/util/Arrays" = true := by first | (simp [plainName, overriddenIn]; done) | decide +kernel
theorem ef_own_rc (m : MethodId) (ln : Int32) (lo : Int32) (hi : Int32)  : entryFrame m #[(.int ln), (.int lo), (.int hi)] 3 = mkF m 0 #[iv ln, iv lo, iv hi] [] := by
  first | (simp [entryFrame, mkF, argsToLocals, Value.category]; done) | rfl
set_option maxRecDepth 65536 in
set_option maxHeartbeats 40000000 in
theorem own_rc (l : Launch) (Z : State) (a0 : Array Value) (hw : ∀ d ∈ tables_1, d.before a0 Z = true) (ln : Int32) (lo : Int32) (hi : Int32)  (h : Heap) (n0 : Nat) (hn0 : Old Z n0 h) (q1 : 0 ≤ lo.toInt) (q2 : lo.toInt ≤ hi.toInt) (q3 : hi.toInt ≤ ln.toInt) :
    Con l Z (⟨"java/util/Arrays", "rangeCheck", "(III)V"⟩ : MethodName) jdk_65_method_30_code 3 none ({ frames := 0, cells := 0, slots := 0, locals := 0 } : Room) #[(.int ln), (.int lo), (.int hi)] h n0 (fun v h' => v = none ∧ h = h') := by
  refine con_of hw (plainFor_of_name pn_java_util_Arrays) hn0 ?_
  intro p e s m below meth c T0 C X0
  refine Go.cast (congrArg T0.setTop (ef_own_rc m ln lo hi)) ?_
  refine go_iloadN C X0 1 rfl d10_0 rfl ?_
  refine go_iloadN C X0 2 rfl d10_1 rfl ?_
  refine go_icmp_le C X0 d10_2 (pc' := 5) (pc2 := 46) rfl (by decide) (by decide) (fun (c2 : lo.toInt ≤ hi.toInt) => ?_) (fun (c2 : hi.toInt < lo.toInt) => False.elim (by omega))
  refine go_iloadN C X0 47 rfl d10_46 rfl ?_
  refine go_if_ge C X0 d10_47 (pc' := 50) (pc2 := 59) rfl (by decide) (by decide) (fun (c47 : 0 ≤ lo.toInt) => ?_) (fun (c47 : lo.toInt < 0) => False.elim (by omega))
  refine go_iloadN C X0 60 rfl d10_59 rfl ?_
  refine go_iloadN C X0 61 rfl d10_60 rfl ?_
  refine go_icmp_le C X0 d10_61 (pc' := 64) (pc2 := 73) rfl (by decide) (by decide) (fun (c61 : hi.toInt ≤ ln.toInt) => ?_) (fun (c61 : ln.toInt < hi.toInt) => False.elim (by omega))
  exact go_ret0 C X0 d10_73 ⟨rfl, rfl⟩ (by decide) (by decide)
theorem d9_0 : decode jdk_65_method_102_code 0 = .ok (.aload_n 0, 1) := by decide +kernel
theorem d9_1 : decode jdk_65_method_102_code 1 = .ok (.arraylength, 1) := by decide +kernel
theorem d9_2 : decode jdk_65_method_102_code 2 = .ok (.iload_n 1, 1) := by decide +kernel
theorem d9_3 : decode jdk_65_method_102_code 3 = .ok (.iload_n 2, 1) := by decide +kernel
theorem pd_0 : parseMethodDescriptor "(III)V" = some ⟨[.int, .int, .int], none⟩ := by decide +kernel
theorem d9_4 : decode jdk_65_method_102_code 4 = .ok (.invokestatic 13, 3) := by decide +kernel
theorem d9_7 : decode jdk_65_method_102_code 7 = .ok (.iload_n 1, 1) := by decide +kernel
theorem d9_8 : decode jdk_65_method_102_code 8 = .ok (.istore 5, 2) := by decide +kernel
theorem d9_10 : decode jdk_65_method_102_code 10 = .ok (.iload 5, 2) := by decide +kernel
theorem d9_12 : decode jdk_65_method_102_code 12 = .ok (.iload_n 2, 1) := by decide +kernel
theorem d9_13 : decode jdk_65_method_102_code 13 = .ok (.if_icmp .ge 14, 3) := by decide +kernel
theorem d9_27 : decode jdk_65_method_102_code 27 = .ok (.return_, 1) := by decide +kernel
theorem d9_16 : decode jdk_65_method_102_code 16 = .ok (.aload_n 0, 1) := by decide +kernel
theorem d9_17 : decode jdk_65_method_102_code 17 = .ok (.iload 5, 2) := by decide +kernel
theorem d9_19 : decode jdk_65_method_102_code 19 = .ok (.lload_n 3, 1) := by decide +kernel
theorem d9_20 : decode jdk_65_method_102_code 20 = .ok (.lastore, 1) := by decide +kernel
theorem d9_21 : decode jdk_65_method_102_code 21 = .ok (.iinc 5 1, 3) := by decide +kernel
theorem d9_24 : decode jdk_65_method_102_code 24 = .ok (.goto (-14), 3) := by decide +kernel
theorem ef_own_fill (m : MethodId) (b : Addr) (hi : Int32) (z : Int64)  : entryFrame m #[(.ref b), (.int (0 : Int32)), (.int hi), (.long z)] 6 = mkF m 0 #[rv b, iv (0 : Int32), iv hi, jv z, sc, un] [] := by
  first | (simp [entryFrame, mkF, argsToLocals, Value.category]; done) | rfl
set_option maxRecDepth 65536 in
set_option maxHeartbeats 40000000 in
theorem own_fill (l : Launch) (Z : State) (a0 : Array Value) (hw : ∀ d ∈ tables_1, d.before a0 Z = true) (b : Addr) (hi : Int32) (z : Int64) (xs : List Int64) (h : Heap) (n0 : Nat) (hn0 : Old Z n0 h) (A1 : La Z h b .long (ja xs)) (hx : (xs.length : Int) = hi.toInt) (gb : n0 ≤ b) :
    Con l Z (⟨"java/util/Arrays", "fill", "([JIIJ)V"⟩ : MethodName) jdk_65_method_102_code 6 none ({ frames := 1, cells := 0, slots := 0, locals := 14 } : Room) #[(.ref b), (.int (0 : Int32)), (.int hi), (.long z)] h n0 (fun v h' => v = none ∧ Keep h h' [b] ∧ La Z h' b .long (ja (List.replicate xs.length z))) := by
  refine con_of hw (plainFor_of_name pn_java_util_Arrays) hn0 ?_
  intro p e s m below meth c T0 C X0
  refine Go.cast (congrArg T0.setTop (ef_own_fill m b hi z)) ?_
  have hh : (0 : Int32).toInt ≤ hi.toInt := by have : (0 : Int32).toInt = 0 := rfl; omega
  refine go_aloadN C X0 1 rfl d9_0 rfl rfl ?_
  refine go_alen C X0 A1 (z := hi) (by rw [ja_len]; exact own_l32 hx) (pc' := 2) rfl d9_1 ?_
  refine go_iloadN C X0 3 rfl d9_2 rfl ?_
  refine go_iloadN C X0 4 rfl d9_3 rfl ?_
  refine go_callS C X0 (C.w 48 rfl) (C.w 49 rfl) (C.w 35 rfl) (C.w 50 rfl) (own_rc l Z a0 C.ws hi (0 : Int32) hi h n0 X0.old (by decide) hh (Int.le_refl _)) (argsL := [(.int hi), (.int (0 : Int32)), (.int hi)]) (rest := []) (lenOf pd_0 rfl) rfl (by decide) (by decide) (Nat.le_of_ble_eq_true rfl) (by decide) (by decide) rfl rfl (pc' := 7) rfl d9_4 ?_
  rintro T1 _ _ ⟨rfl, rfl⟩ X2
  show Go p e below _ (T1.setTop (mkF m 7 #[rv b, iv (0 : Int32), iv hi, jv z, sc, un] []))
  refine go_iloadN C X2 8 rfl d9_7 rfl ?_
  refine go_istore C X2 10 rfl d9_8 #[rv b, iv (0 : Int32), iv hi, jv z, sc, iv (0 : Int32)] rfl ?_
  have LP : ∀ (mm : Nat) (T1 : State) (h1 : Heap) (X1 : St Z p l e ({ frames := 1, cells := 0, slots := 0, locals := 14 } : Room) s m #[(.ref b), (.int (0 : Int32)), (.int hi), (.long z)] below meth c n0 T1 h1 (0) (0)) (i : Int32) (_ : La Z h1 b .long (ja (List.replicate i.toNatClampNeg z ++ xs.drop i.toNatClampNeg))) (_ : Keep h h1 [b]) (_ : 0 ≤ i.toInt ∧ i.toInt + mm = hi.toInt), Go p e below (FinQ s ({ frames := 1, cells := 0, slots := 0, locals := 14 } : Room).cells ({ frames := 1, cells := 0, slots := 0, locals := 14 } : Room).slots n0 (fun v h' => v = none ∧ Keep h h' [b] ∧ La Z h' b .long (ja (List.replicate xs.length z)))) (T1.setTop (mkF m 10 #[rv b, iv (0 : Int32), iv hi, jv z, sc, iv i] [])) := by
    intro mm
    induction mm with
    | zero =>
      intro T1 h1 X1 i A9 K9 q9
      refine go_iload C X1 12 rfl d9_10 rfl ?_
      refine go_iloadN C X1 13 rfl d9_12 rfl ?_
      refine go_icmp_ge C X1 d9_13 (pc' := 16) (pc2 := 27) rfl (by decide) (by decide) (fun (c13 : hi.toInt ≤ i.toInt) => ?_) (fun (c13 : i.toInt < hi.toInt) => False.elim (by omega))
      exact go_ret0 C X1 d9_27 (by have e : i.toNatClampNeg = xs.length := (by have := clamp_eq (j := i) (by omega); omega); rw [e, List.drop_length, List.append_nil] at A9; exact ⟨rfl, K9, A9⟩) (by decide) (by decide)
    | succ mm ih =>
      intro T1 h1 X1 i A9 K9 q9
      refine go_iload C X1 12 rfl d9_10 rfl ?_
      refine go_iloadN C X1 13 rfl d9_12 rfl ?_
      refine go_icmp_ge C X1 d9_13 (pc' := 16) (pc2 := 27) rfl (by decide) (by decide) (fun (c13 : hi.toInt ≤ i.toInt) => False.elim (by omega)) (fun (c13 : i.toInt < hi.toInt) => ?_)
      refine go_aloadN C X1 17 rfl d9_16 rfl rfl ?_
      refine go_iload C X1 19 rfl d9_17 rfl ?_
      refine go_lloadN C X1 20 rfl d9_19 rfl ?_
      refine go_lastore C X1 A9 q9.1 (by rw [ja_len]; have := clamp_eq q9.1; simp only [List.length_append, List.length_replicate, List.length_drop]; omega) gb (pc' := 21) rfl d9_20 (fun T4 h6 W7 A8 X5 => ?_)
      have K9 := K9.wr W7 (Or.inl (List.mem_of_getElem? (i := 0) rfl))
      rw [ja_put] at A8
      refine go_iinc C X5 24 rfl d9_21 rfl (z := 1) rfl #[rv b, iv (0 : Int32), iv hi, jv z, sc, iv (i + (1 : Int32))] rfl ?_
      refine go_goto C X5 d9_24 (pc' := 10) (by decide) (by decide) ?_
      rw [(own_fstep (z := z) q9.1 (xs := xs) (by omega)).resolve_right (by have := rng32 hi; omega)] at A8
      have e1 : (i + 1).toInt = i.toInt + 1 := i_add rfl rfl (by omega) (by have := rng32 hi; omega)
      exact ih _ _ X5 _ A8 K9 ⟨by omega, by omega⟩
  exact LP hi.toNatClampNeg _ _ X2 (0 : Int32) (by rw [own_z0]; exact A1) (Keep.refl h [b]) ⟨by decide, by have := clamp_eq (j := hi) (by omega); have : (0 : Int32).toInt = 0 := rfl; omega⟩
theorem d7_0 : decode jdk_65_method_124_code 0 = .ok (.iload_n 1, 1) := by decide +kernel
theorem d7_1 : decode jdk_65_method_124_code 1 = .ok (.aload_n 0, 1) := by decide +kernel
theorem d7_2 : decode jdk_65_method_124_code 2 = .ok (.arraylength, 1) := by decide +kernel
theorem d7_3 : decode jdk_65_method_124_code 3 = .ok (.if_icmp .ne 11, 3) := by decide +kernel
theorem d7_14 : decode jdk_65_method_124_code 14 = .ok (.iload_n 1, 1) := by decide +kernel
theorem d7_15 : decode jdk_65_method_124_code 15 = .ok (.newarray .long, 2) := by decide +kernel
theorem d7_17 : decode jdk_65_method_124_code 17 = .ok (.astore_n 2, 1) := by decide +kernel
theorem d7_18 : decode jdk_65_method_124_code 18 = .ok (.aload_n 0, 1) := by decide +kernel
theorem d7_19 : decode jdk_65_method_124_code 19 = .ok (.iconst 0, 1) := by decide +kernel
theorem d7_20 : decode jdk_65_method_124_code 20 = .ok (.aload_n 2, 1) := by decide +kernel
theorem d7_21 : decode jdk_65_method_124_code 21 = .ok (.iconst 0, 1) := by decide +kernel
theorem d7_22 : decode jdk_65_method_124_code 22 = .ok (.aload_n 0, 1) := by decide +kernel
theorem d7_23 : decode jdk_65_method_124_code 23 = .ok (.arraylength, 1) := by decide +kernel
theorem d7_24 : decode jdk_65_method_124_code 24 = .ok (.iload_n 1, 1) := by decide +kernel
theorem pd_1 : parseMethodDescriptor "(II)I" = some ⟨[.int, .int], some .int⟩ := by decide +kernel
theorem d7_25 : decode jdk_65_method_124_code 25 = .ok (.invokestatic 304, 3) := by decide +kernel
theorem d7_28 : decode jdk_65_method_124_code 28 = .ok (.invokestatic 150, 3) := by decide +kernel
theorem d7_31 : decode jdk_65_method_124_code 31 = .ok (.aload_n 2, 1) := by decide +kernel
theorem d7_32 : decode jdk_65_method_124_code 32 = .ok (.areturn, 1) := by decide +kernel
theorem ef_own_copy (m : MethodId) (a : Addr) (ct : Int32)  : entryFrame m #[(.ref a), (.int ct)] 3 = mkF m 0 #[rv a, iv ct, un] [] := by
  first | (simp [entryFrame, mkF, argsToLocals, Value.category]; done) | rfl
set_option maxRecDepth 65536 in
set_option maxHeartbeats 40000000 in
theorem own_copy (l : Launch) (Z : State) (a0 : Array Value) (hw : ∀ d ∈ tables_1, d.before a0 Z = true) (a : Addr) (ct : Int32)  (h : Heap) (n0 : Nat) (hn0 : Old Z n0 h) (A1 : La Z h a .long []) (q0 : 0 < ct.toInt) (q1 : ct.toInt ≤ (16 : Nat)) :
    Con l Z (⟨"java/util/Arrays", "copyOf", "([JI)[J"⟩ : MethodName) jdk_65_method_124_code 3 (some (.array .long)) ({ frames := 1, cells := 1, slots := 16, locals := 18 } : Room) #[(.ref a), (.int ct)] h n0 (fun v h' => ∃ b : Addr, v = some (.ref b) ∧ Keep h h' [] ∧ h.size ≤ b ∧ La Z h' b .long (ja (List.replicate ct.toNatClampNeg 0))) := by
  refine con_of hw (plainFor_of_name pn_java_util_Arrays) hn0 ?_
  intro p e s m below meth c T0 C X0
  refine Go.cast (congrArg T0.setTop (ef_own_copy m a ct)) ?_
  refine go_iloadN C X0 1 rfl d7_0 rfl ?_
  refine go_aloadN C X0 2 rfl d7_1 rfl rfl ?_
  refine go_alen C X0 A1 (z := (0 : Int32)) rfl (pc' := 3) rfl d7_2 ?_
  refine go_icmp_ne C X0 d7_3 (pc' := 6) (pc2 := 14) rfl (by decide) (by decide) (fun (c3 : ¬ ct = (0 : Int32)) => ?_) (fun (c3 : ct = (0 : Int32)) => False.elim (by rw [c3] at q0; exact absurd q0 (by decide)))
  refine go_iloadN C X0 15 rfl d7_14 rfl ?_
  refine go_newarr C X0 (C.w 14 rfl) (cap := 16) (Int.le_of_lt q0) q1 (by decide) (by decide) (by decide) (pc' := 17) rfl d7_15 (fun T1 h3 b ha_b ga_b E4 A5  X2 => ?_)
  have ne_a_b : a ≠ b := Nat.ne_of_lt (Nat.lt_of_lt_of_le A1.lt (Nat.le_of_eq ha_b.symm))
  have sz_b : h.size ≤ b := Nat.le_trans (Keep.refl h []).1 (Nat.le_of_eq ha_b.symm)
  have A6 := A1.ext E4
  have K7 := (Keep.refl h []).ext E4
  replace A5 : La Z h3 b .long (List.replicate ct.toNatClampNeg (.long 0)) := A5
  rw [own_jrep] at A5
  refine go_astoreN C X2 18 rfl d7_17 rfl #[rv a, iv ct, rv b] rfl ?_
  refine go_aloadN C X2 19 rfl d7_18 rfl rfl ?_
  refine go_iconst C X2 20 rfl d7_19 (z := 0) rfl ?_
  refine go_aloadN C X2 21 rfl d7_20 rfl rfl ?_
  refine go_iconst C X2 22 rfl d7_21 (z := 0) rfl ?_
  refine go_aloadN C X2 23 rfl d7_22 rfl rfl ?_
  refine go_alen C X2 A6 (z := (0 : Int32)) rfl (pc' := 24) rfl d7_23 ?_
  refine go_iloadN C X2 25 rfl d7_24 rfl ?_
  refine go_callS C X2 (C.w 37 rfl) (C.w 38 rfl) (C.w 3 rfl) (C.w 39 rfl) (own_min l Z a0 C.ws (0 : Int32) ct h3 n0 X2.old (by have : (0 : Int32).toInt = 0 := rfl; omega)) (argsL := [(.int (0 : Int32)), (.int ct)]) (rest := [(.int (0 : Int32)), (.ref b), (.int (0 : Int32)), (.ref a)]) (lenOf pd_1 rfl) rfl (by decide) (by decide) (Nat.le_of_ble_eq_true rfl) (by decide) (by decide) rfl rfl (pc' := 28) rfl d7_25 ?_
  rintro T8 _ _ ⟨rfl, rfl⟩ X9
  show Go p e below _ (T8.setTop (mkF m 28 #[rv a, iv ct, rv b] [(.int (0 : Int32)), (.int (0 : Int32)), (.ref b), (.int (0 : Int32)), (.ref a)]))
  refine go_copy0 C X9 (C.w 40 rfl) (C.w 43 rfl) (C.w 41 rfl) (C.w 42 rfl) A6 A5 rfl ga_b (by decide) (by first | decide | exact Nat.le_of_ble_eq_true rfl) rfl (pc' := 31) rfl d7_28 (fun T11 h13 K14 A15 X12 => ?_)
  have A16 := A6.keep K14 (ninS ne_a_b nin0)
  have K17 := K7.trans K14 (allS (Or.inr sz_b) all0)
  refine go_aloadN C X12 32 rfl d7_31 rfl rfl ?_
  exact go_retA C X12 d7_32 rfl rfl ⟨b, rfl, K17, sz_b, A15⟩ (by decide) (by decide)
theorem d6_0 : decode prog_27_method_11_code 0 = .ok (.aload_n 0, 1) := by decide +kernel
theorem d6_1 : decode prog_27_method_11_code 1 = .ok (.astore_n 2, 1) := by decide +kernel
theorem d6_2 : decode prog_27_method_11_code 2 = .ok (.iload_n 1, 1) := by decide +kernel
theorem d6_3 : decode prog_27_method_11_code 3 = .ok (.aload_n 0, 1) := by decide +kernel
theorem d6_4 : decode prog_27_method_11_code 4 = .ok (.arraylength, 1) := by decide +kernel
theorem d6_5 : decode prog_27_method_11_code 5 = .ok (.if_icmp .le 19, 3) := by decide +kernel
theorem d6_8 : decode prog_27_method_11_code 8 = .ok (.aload_n 0, 1) := by decide +kernel
theorem d6_9 : decode prog_27_method_11_code 9 = .ok (.iload_n 1, 1) := by decide +kernel
theorem pd_2 : parseMethodDescriptor "([JI)[J" = some ⟨[(.array .long), .int], some (.array .long)⟩ := by decide +kernel
theorem d6_10 : decode prog_27_method_11_code 10 = .ok (.invokestatic 53, 3) := by decide +kernel
theorem d6_13 : decode prog_27_method_11_code 13 = .ok (.astore_n 2, 1) := by decide +kernel
theorem d6_14 : decode prog_27_method_11_code 14 = .ok (.aload_n 2, 1) := by decide +kernel
theorem d6_15 : decode prog_27_method_11_code 15 = .ok (.aload_n 0, 1) := by decide +kernel
theorem d6_16 : decode prog_27_method_11_code 16 = .ok (.arraylength, 1) := by decide +kernel
theorem d6_17 : decode prog_27_method_11_code 17 = .ok (.iload_n 1, 1) := by decide +kernel
theorem d6_18 : decode prog_27_method_11_code 18 = .ok (.ldc2_w 23, 3) := by decide +kernel
theorem pd_3 : parseMethodDescriptor "([JIIJ)V" = some ⟨[(.array .long), .int, .int, .long], none⟩ := by decide +kernel
theorem d6_21 : decode prog_27_method_11_code 21 = .ok (.invokestatic 58, 3) := by decide +kernel
theorem d6_24 : decode prog_27_method_11_code 24 = .ok (.aload_n 2, 1) := by decide +kernel
theorem d6_25 : decode prog_27_method_11_code 25 = .ok (.areturn, 1) := by decide +kernel
theorem ef_own_grown (m : MethodId) (a : Addr) (ct : Int32)  : entryFrame m #[(.ref a), (.int ct)] 3 = mkF m 0 #[rv a, iv ct, un] [] := by
  first | (simp [entryFrame, mkF, argsToLocals, Value.category]; done) | rfl
set_option maxRecDepth 65536 in
set_option maxHeartbeats 40000000 in
theorem own_grown (l : Launch) (Z : State) (a0 : Array Value) (hw : ∀ d ∈ tables_1, d.before a0 Z = true) (a : Addr) (ct : Int32)  (h : Heap) (n0 : Nat) (hn0 : Old Z n0 h) (A1 : La Z h a .long []) (q0 : 0 < ct.toInt) (q1 : ct.toInt ≤ (16 : Nat)) :
    Con l Z (⟨"com/example/tokushima/tokushima/SummaryBitmap", "grown", "([JI)[J"⟩ : MethodName) prog_27_method_11_code 3 (some (.array .long)) ({ frames := 2, cells := 1, slots := 16, locals := 32 } : Room) #[(.ref a), (.int ct)] h n0 (fun v h' => ∃ b : Addr, v = some (.ref b) ∧ Keep h h' [] ∧ h.size ≤ b ∧ La Z h' b .long (ja (List.replicate ct.toNatClampNeg (-1)))) := by
  refine con_of hw (plainFor_of_name pn_com_example_tokushima_tokushima_SummaryBitmap) hn0 ?_
  intro p e s m below meth c T0 C X0
  refine Go.cast (congrArg T0.setTop (ef_own_grown m a ct)) ?_
  refine go_aloadN C X0 1 rfl d6_0 rfl rfl ?_
  refine go_astoreN C X0 2 rfl d6_1 rfl #[rv a, iv ct, rv a] rfl ?_
  refine go_iloadN C X0 3 rfl d6_2 rfl ?_
  refine go_aloadN C X0 4 rfl d6_3 rfl rfl ?_
  refine go_alen C X0 A1 (z := (0 : Int32)) rfl (pc' := 5) rfl d6_4 ?_
  refine go_icmp_le C X0 d6_5 (pc' := 8) (pc2 := 24) rfl (by decide) (by decide) (fun (c5 : ct.toInt ≤ 0) => False.elim (by omega)) (fun (c5 : 0 < ct.toInt) => ?_)
  refine go_aloadN C X0 9 rfl d6_8 rfl rfl ?_
  refine go_iloadN C X0 10 rfl d6_9 rfl ?_
  have hsz_10 := X0.sz
  have lt_a_10 := A1.lt
  refine go_callS C X0 (C.w 33 rfl) (C.w 34 rfl) (C.w 35 rfl) (C.w 36 rfl) (own_copy l Z a0 C.ws a ct h n0 X0.old A1 q0 q1) (argsL := [(.ref a), (.int ct)]) (rest := []) (lenOf pd_2 rfl) rfl (by decide) (by decide) (Nat.le_of_ble_eq_true rfl) (by decide) (by decide) rfl rfl (pc' := 13) rfl d6_10 ?_
  rintro T1 h3 _ ⟨b, rfl, K7, sz7, A7⟩ X2
  show Go p e below _ (T1.setTop (mkF m 13 #[rv a, iv ct, rv a] [(.ref b)]))
  have ne_a_b : a ≠ b := Nat.ne_of_lt (Nat.lt_of_lt_of_le lt_a_10 sz7)
  have ga_b : n0 ≤ b := Nat.le_trans hsz_10 sz7
  have sz_b : h.size ≤ b := Nat.le_trans (Keep.refl h []).1 sz7
  have A4 := A1.keep K7 nin0
  have K5 := (Keep.refl h []).trans K7 all0
  refine go_astoreN C X2 14 rfl d6_13 rfl #[rv a, iv ct, rv b] rfl ?_
  refine go_aloadN C X2 15 rfl d6_14 rfl rfl ?_
  refine go_aloadN C X2 16 rfl d6_15 rfl rfl ?_
  refine go_alen C X2 A4 (z := (0 : Int32)) rfl (pc' := 17) rfl d6_16 ?_
  refine go_iloadN C X2 18 rfl d6_17 rfl ?_
  refine go_ldc2Long C X2 (C.w 44 rfl) (pc' := 21) rfl d6_18 ?_
  refine go_callS C X2 (C.w 45 rfl) (C.w 46 rfl) (C.w 35 rfl) (C.w 47 rfl) (own_fill l Z a0 C.ws b ct (-1 : Int64) (List.replicate ct.toNatClampNeg 0) h3 n0 X2.old A7 (by rw [List.length_replicate]; exact clamp_eq (Int.le_of_lt q0)) ga_b) (argsL := [(.ref b), (.int (0 : Int32)), (.int ct), (.long (-1 : Int64))]) (rest := []) (lenOf pd_3 rfl) rfl (by decide) (by decide) (Nat.le_of_ble_eq_true rfl) (by decide) (by decide) rfl rfl (pc' := 24) rfl d6_21 ?_
  rintro T6 h8 _ ⟨rfl, K8, A8⟩ X7
  show Go p e below _ (T6.setTop (mkF m 24 #[rv a, iv ct, rv b] []))
  have A9 := A4.keep K8 (ninS ne_a_b nin0)
  have K10 := K5.trans K8 (allS (Or.inr sz_b) all0)
  rw [List.length_replicate] at A8
  refine go_aloadN C X7 25 rfl d6_24 rfl rfl ?_
  exact go_retA C X7 d6_25 rfl rfl ⟨b, rfl, K10, sz_b, A8⟩ (by decide) (by decide)
theorem d4_0 : decode prog_27_method_7_code 0 = .ok (.aload_n 0, 1) := by decide +kernel
theorem d4_1 : decode prog_27_method_7_code 1 = .ok (.aload_n 0, 1) := by decide +kernel
theorem d4_2 : decode prog_27_method_7_code 2 = .ok (.getfield 7, 3) := by decide +kernel
theorem d4_5 : decode prog_27_method_7_code 5 = .ok (.iload_n 1, 1) := by decide +kernel
theorem pd_4 : parseMethodDescriptor "(I)I" = some ⟨[.int], some .int⟩ := by decide +kernel
theorem d4_6 : decode prog_27_method_7_code 6 = .ok (.invokestatic 43, 3) := by decide +kernel
theorem d4_9 : decode prog_27_method_7_code 9 = .ok (.invokestatic 46, 3) := by decide +kernel
theorem d4_12 : decode prog_27_method_7_code 12 = .ok (.putfield 7, 3) := by decide +kernel
theorem d4_15 : decode prog_27_method_7_code 15 = .ok (.aload_n 0, 1) := by decide +kernel
theorem d4_16 : decode prog_27_method_7_code 16 = .ok (.aload_n 0, 1) := by decide +kernel
theorem d4_17 : decode prog_27_method_7_code 17 = .ok (.getfield 13, 3) := by decide +kernel
theorem d4_20 : decode prog_27_method_7_code 20 = .ok (.aload_n 0, 1) := by decide +kernel
theorem d4_21 : decode prog_27_method_7_code 21 = .ok (.getfield 7, 3) := by decide +kernel
theorem d4_24 : decode prog_27_method_7_code 24 = .ok (.arraylength, 1) := by decide +kernel
theorem d4_25 : decode prog_27_method_7_code 25 = .ok (.invokestatic 43, 3) := by decide +kernel
theorem d4_28 : decode prog_27_method_7_code 28 = .ok (.invokestatic 46, 3) := by decide +kernel
theorem d4_31 : decode prog_27_method_7_code 31 = .ok (.putfield 13, 3) := by decide +kernel
theorem d4_34 : decode prog_27_method_7_code 34 = .ok (.aload_n 0, 1) := by decide +kernel
theorem d4_35 : decode prog_27_method_7_code 35 = .ok (.aload_n 0, 1) := by decide +kernel
theorem d4_36 : decode prog_27_method_7_code 36 = .ok (.getfield 16, 3) := by decide +kernel
theorem d4_39 : decode prog_27_method_7_code 39 = .ok (.aload_n 0, 1) := by decide +kernel
theorem d4_40 : decode prog_27_method_7_code 40 = .ok (.getfield 13, 3) := by decide +kernel
theorem d4_43 : decode prog_27_method_7_code 43 = .ok (.arraylength, 1) := by decide +kernel
theorem d4_44 : decode prog_27_method_7_code 44 = .ok (.invokestatic 43, 3) := by decide +kernel
theorem d4_47 : decode prog_27_method_7_code 47 = .ok (.invokestatic 46, 3) := by decide +kernel
theorem d4_50 : decode prog_27_method_7_code 50 = .ok (.putfield 16, 3) := by decide +kernel
theorem d4_53 : decode prog_27_method_7_code 53 = .ok (.return_, 1) := by decide +kernel
theorem ef_own_grow (m : MethodId) (a : Addr) (n : Int32)  : entryFrame m #[(.ref a), (.int n)] 2 = mkF m 0 #[rv a, iv n] [] := by
  first | (simp [entryFrame, mkF, argsToLocals, Value.category]; done) | rfl
set_option maxRecDepth 65536 in
set_option maxHeartbeats 40000000 in
theorem own_grow (l : Launch) (Z : State) (a0 : Array Value) (hw : ∀ d ∈ tables_1, d.before a0 Z = true) (a : Addr) (n : Int32) (e1 e2 e3 : Addr) (h : Heap) (n0 : Nat) (hn0 : Old Z n0 h) (E0 : Exa Z h a "com/example/tokushima/tokushima/SummaryBitmap") (F1 : Fld Z h a "com/example/tokushima/tokushima/SummaryBitmap" "bits" "[J" (.ref e1)) (F2 : Fld Z h a "com/example/tokushima/tokushima/SummaryBitmap" "words" "[J" (.ref e2)) (F3 : Fld Z h a "com/example/tokushima/tokushima/SummaryBitmap" "tops" "[J" (.ref e3)) (A1 : La Z h e1 .long []) (A2 : La Z h e2 .long []) (A3 : La Z h e3 .long []) (ga : n0 ≤ a) (na1 : a ≠ e1) (na2 : a ≠ e2) (na3 : a ≠ e3) (qn1 : 1 ≤ n.toInt) (qn2 : n.toInt ≤ 1024) :
    Con l Z (⟨"com/example/tokushima/tokushima/SummaryBitmap", "grow", "(I)V"⟩ : MethodName) prog_27_method_7_code 2 none ({ frames := 3, cells := 3, slots := 48, locals := 47 } : Room) #[(.ref a), (.int n)] h n0 (fun v h' => v = none ∧ ∃ b1 b2 b3 : Addr, Keep h h' [a] ∧ Exa Z h' a "com/example/tokushima/tokushima/SummaryBitmap" ∧ Fld Z h' a "com/example/tokushima/tokushima/SummaryBitmap" "bits" "[J" (.ref b1) ∧ Fld Z h' a "com/example/tokushima/tokushima/SummaryBitmap" "words" "[J" (.ref b2) ∧ Fld Z h' a "com/example/tokushima/tokushima/SummaryBitmap" "tops" "[J" (.ref b3) ∧ La Z h' b1 .long (ja (List.replicate (own_wd n).toNatClampNeg (-1))) ∧ La Z h' b2 .long (ja [-1]) ∧ La Z h' b3 .long (ja [-1]) ∧ h.size ≤ b1 ∧ h.size ≤ b2 ∧ h.size ≤ b3 ∧ b1 ≠ b2 ∧ b1 ≠ b3 ∧ b2 ≠ b3) := by
  refine con_of hw (plainFor_of_name pn_com_example_tokushima_tokushima_SummaryBitmap) hn0 ?_
  intro p e s m below meth c T0 C X0
  refine Go.cast (congrArg T0.setTop (ef_own_grow m a n)) ?_
  have hcw := own_wd_i (n := n) (by omega) (by omega)
  have hc0 : 0 < (own_wd n).toInt := by omega
  have hc1 : (own_wd n).toInt ≤ (16 : Nat) := by omega
  refine go_aloadN C X0 1 rfl d4_0 rfl rfl ?_
  refine go_aloadN C X0 2 rfl d4_1 rfl rfl ?_
  refine go_getF C X0 (C.w 15 rfl) Via.refl F1 (pc' := 5) rfl d4_2 (fun T1 X2 => ?_)
  refine go_iloadN C X2 6 rfl d4_5 rfl ?_
  refine go_callS C X2 (C.w 26 rfl) (C.w 27 rfl) (C.w 7 rfl) (C.w 28 rfl) (own_words l Z a0 C.ws n h n0 X2.old ) (argsL := [(.int n)]) (rest := [(.ref e1), (.ref a)]) (lenOf pd_4 rfl) rfl (by decide) (by decide) (Nat.le_of_ble_eq_true rfl) (by decide) (by decide) rfl rfl (pc' := 9) rfl d4_6 ?_
  rintro T3 _ _ ⟨rfl, rfl⟩ X4
  show Go p e below _ (T3.setTop (mkF m 9 #[rv a, iv n] [(.int (own_wd n)), (.ref e1), (.ref a)]))
  have hsz_9 := X4.sz
  have lt_a_9 := E0.lt
  have lt_e1_9 := A1.lt
  have lt_e2_9 := A2.lt
  have lt_e3_9 := A3.lt
  refine go_callS C X4 (C.w 30 rfl) (C.w 31 rfl) (C.w 7 rfl) (C.w 32 rfl) (own_grown l Z a0 C.ws e1 (own_wd n) h n0 X4.old A1 hc0 hc1) (argsL := [(.ref e1), (.int (own_wd n))]) (rest := [(.ref a)]) (lenOf pd_2 rfl) rfl (by decide) (by decide) (Nat.le_of_ble_eq_true rfl) (by decide) (by decide) rfl rfl (pc' := 12) rfl d4_9 ?_
  rintro T6 h8 _ ⟨b1, rfl, K_b1, sz7b1, A_b1⟩ X7
  show Go p e below _ (T6.setTop (mkF m 12 #[rv a, iv n] [(.ref b1), (.ref a)]))
  have ne_a_b1 : a ≠ b1 := Nat.ne_of_lt (Nat.lt_of_lt_of_le lt_a_9 sz7b1)
  have ne_e1_b1 : e1 ≠ b1 := Nat.ne_of_lt (Nat.lt_of_lt_of_le lt_e1_9 sz7b1)
  have ne_e2_b1 : e2 ≠ b1 := Nat.ne_of_lt (Nat.lt_of_lt_of_le lt_e2_9 sz7b1)
  have ne_e3_b1 : e3 ≠ b1 := Nat.ne_of_lt (Nat.lt_of_lt_of_le lt_e3_9 sz7b1)
  have ga_b1 : n0 ≤ b1 := Nat.le_trans hsz_9 sz7b1
  have sz_b1 : h.size ≤ b1 := Nat.le_trans (Keep.refl h [a]).1 sz7b1
  have E9 := E0.keep K_b1
  have F10 := F1.keep K_b1 nin0
  have A11 := A1.keep K_b1 nin0
  have F12 := F2.keep K_b1 nin0
  have A13 := A2.keep K_b1 nin0
  have F14 := F3.keep K_b1 nin0
  have A15 := A3.keep K_b1 nin0
  have K16 := (Keep.refl h [a]).trans K_b1 all0
  refine go_putF C X7 (C.w 15 rfl) Via.refl F10 E9 (Or.inl (C.w 16 rfl)) (C.w 6 rfl) ga (ty := (.array .long)) (by decide) rfl rfl (pc' := 15) rfl d4_12 (fun T17 h19 W20 X18 => ?_)
  have F21 := F10.same W20
  have E22 := E9.wr W20
  have A23 := A11.other W20 (Ne.symm na1)
  have F24 := F12.other W20 (Or.inr (slot_ne (Or.inl (C.w 18 rfl)) (Or.inl (C.w 16 rfl)) (by decide) (t := (.array .long)) (t' := (.array .long)) (by decide) (by decide)))
  have A25 := A13.other W20 (Ne.symm na2)
  have F26 := F14.other W20 (Or.inr (slot_ne (Or.inl (C.w 20 rfl)) (Or.inl (C.w 16 rfl)) (by decide) (t := (.array .long)) (t' := (.array .long)) (by decide) (by decide)))
  have A27 := A15.other W20 (Ne.symm na3)
  have A28 := A_b1.other W20 (Ne.symm ne_a_b1)
  have K29 := K16.wr W20 (Or.inl (List.mem_of_getElem? (i := 0) rfl))
  refine go_aloadN C X18 16 rfl d4_15 rfl rfl ?_
  refine go_aloadN C X18 17 rfl d4_16 rfl rfl ?_
  refine go_getF C X18 (C.w 17 rfl) Via.refl F24 (pc' := 20) rfl d4_17 (fun T30 X31 => ?_)
  refine go_aloadN C X31 21 rfl d4_20 rfl rfl ?_
  refine go_getF C X31 (C.w 15 rfl) Via.refl F21 (pc' := 24) rfl d4_21 (fun T32 X33 => ?_)
  refine go_alen C X33 A28 (z := (own_wd n)) (by rw [ja_len, List.length_replicate]; exact own_l32 (clamp_eq (Int.le_of_lt hc0))) (pc' := 25) rfl d4_24 ?_
  refine go_callS C X33 (C.w 26 rfl) (C.w 27 rfl) (C.w 7 rfl) (C.w 28 rfl) (own_words l Z a0 C.ws (own_wd n) h19 n0 X33.old ) (argsL := [(.int (own_wd n))]) (rest := [(.ref e2), (.ref a)]) (lenOf pd_4 rfl) rfl (by decide) (by decide) (Nat.le_of_ble_eq_true rfl) (by decide) (by decide) rfl rfl (pc' := 28) rfl d4_25 ?_
  rintro T34 _ _ ⟨rfl, rfl⟩ X35
  show Go p e below _ (T34.setTop (mkF m 28 #[rv a, iv n] [(.int (own_wd (own_wd n))), (.ref e2), (.ref a)]))
  rw [own_wd_one (n := own_wd n) (by omega) (by omega)]
  have hsz_28 := X35.sz
  have lt_a_28 := E22.lt
  have lt_e1_28 := A23.lt
  have lt_e2_28 := A25.lt
  have lt_e3_28 := A27.lt
  have lt_b1_28 := A28.lt
  refine go_callS C X35 (C.w 30 rfl) (C.w 31 rfl) (C.w 7 rfl) (C.w 32 rfl) (own_grown l Z a0 C.ws e2 (1 : Int32) h19 n0 X35.old A25 (by decide) (by decide)) (argsL := [(.ref e2), (.int (1 : Int32))]) (rest := [(.ref a)]) (lenOf pd_2 rfl) rfl (by decide) (by decide) (Nat.le_of_ble_eq_true rfl) (by decide) (by decide) rfl rfl (pc' := 31) rfl d4_28 ?_
  rintro T37 h39 _ ⟨b2, rfl, K_b2, sz7b2, A_b2⟩ X38
  show Go p e below _ (T37.setTop (mkF m 31 #[rv a, iv n] [(.ref b2), (.ref a)]))
  have ne_a_b2 : a ≠ b2 := Nat.ne_of_lt (Nat.lt_of_lt_of_le lt_a_28 sz7b2)
  have ne_e1_b2 : e1 ≠ b2 := Nat.ne_of_lt (Nat.lt_of_lt_of_le lt_e1_28 sz7b2)
  have ne_e2_b2 : e2 ≠ b2 := Nat.ne_of_lt (Nat.lt_of_lt_of_le lt_e2_28 sz7b2)
  have ne_e3_b2 : e3 ≠ b2 := Nat.ne_of_lt (Nat.lt_of_lt_of_le lt_e3_28 sz7b2)
  have ne_b1_b2 : b1 ≠ b2 := Nat.ne_of_lt (Nat.lt_of_lt_of_le lt_b1_28 sz7b2)
  have ga_b2 : n0 ≤ b2 := Nat.le_trans hsz_28 sz7b2
  have sz_b2 : h.size ≤ b2 := Nat.le_trans K29.1 sz7b2
  have E40 := E22.keep K_b2
  have F41 := F21.keep K_b2 nin0
  have A42 := A23.keep K_b2 nin0
  have F43 := F24.keep K_b2 nin0
  have A44 := A25.keep K_b2 nin0
  have F45 := F26.keep K_b2 nin0
  have A46 := A27.keep K_b2 nin0
  have A47 := A28.keep K_b2 nin0
  have K48 := K29.trans K_b2 all0
  replace A_b2 : La Z h39 b2 .long (ja [-1]) := A_b2
  refine go_putF C X38 (C.w 17 rfl) Via.refl F43 E40 (Or.inl (C.w 18 rfl)) (C.w 6 rfl) ga (ty := (.array .long)) (by decide) rfl rfl (pc' := 34) rfl d4_31 (fun T49 h51 W52 X50 => ?_)
  have F53 := F43.same W52
  have E54 := E40.wr W52
  have F55 := F41.other W52 (Or.inr (slot_ne (Or.inl (C.w 16 rfl)) (Or.inl (C.w 18 rfl)) (by decide) (t := (.array .long)) (t' := (.array .long)) (by decide) (by decide)))
  have A56 := A42.other W52 (Ne.symm na1)
  have A57 := A44.other W52 (Ne.symm na2)
  have F58 := F45.other W52 (Or.inr (slot_ne (Or.inl (C.w 20 rfl)) (Or.inl (C.w 18 rfl)) (by decide) (t := (.array .long)) (t' := (.array .long)) (by decide) (by decide)))
  have A59 := A46.other W52 (Ne.symm na3)
  have A60 := A47.other W52 (Ne.symm ne_a_b1)
  have A61 := A_b2.other W52 (Ne.symm ne_a_b2)
  have K62 := K48.wr W52 (Or.inl (List.mem_of_getElem? (i := 0) rfl))
  refine go_aloadN C X50 35 rfl d4_34 rfl rfl ?_
  refine go_aloadN C X50 36 rfl d4_35 rfl rfl ?_
  refine go_getF C X50 (C.w 19 rfl) Via.refl F58 (pc' := 39) rfl d4_36 (fun T63 X64 => ?_)
  refine go_aloadN C X64 40 rfl d4_39 rfl rfl ?_
  refine go_getF C X64 (C.w 17 rfl) Via.refl F53 (pc' := 43) rfl d4_40 (fun T65 X66 => ?_)
  refine go_alen C X66 A61 (z := (1 : Int32)) (by first | rfl | (rw [ja_len]; rfl)) (pc' := 44) rfl d4_43 ?_
  refine go_callS C X66 (C.w 26 rfl) (C.w 27 rfl) (C.w 7 rfl) (C.w 28 rfl) (own_words l Z a0 C.ws (1 : Int32) h51 n0 X66.old ) (argsL := [(.int (1 : Int32))]) (rest := [(.ref e3), (.ref a)]) (lenOf pd_4 rfl) rfl (by decide) (by decide) (Nat.le_of_ble_eq_true rfl) (by decide) (by decide) rfl rfl (pc' := 47) rfl d4_44 ?_
  rintro T67 _ _ ⟨rfl, rfl⟩ X68
  show Go p e below _ (T67.setTop (mkF m 47 #[rv a, iv n] [(.int (own_wd (1 : Int32))), (.ref e3), (.ref a)]))
  rw [own_wd_one (n := 1) (by decide) (by decide)]
  have hsz_47 := X68.sz
  have lt_a_47 := E54.lt
  have lt_e1_47 := A56.lt
  have lt_e2_47 := A57.lt
  have lt_e3_47 := A59.lt
  have lt_b1_47 := A60.lt
  have lt_b2_47 := A61.lt
  refine go_callS C X68 (C.w 30 rfl) (C.w 31 rfl) (C.w 7 rfl) (C.w 32 rfl) (own_grown l Z a0 C.ws e3 (1 : Int32) h51 n0 X68.old A59 (by decide) (by decide)) (argsL := [(.ref e3), (.int (1 : Int32))]) (rest := [(.ref a)]) (lenOf pd_2 rfl) rfl (by decide) (by decide) (Nat.le_of_ble_eq_true rfl) (by decide) (by decide) rfl rfl (pc' := 50) rfl d4_47 ?_
  rintro T70 h72 _ ⟨b3, rfl, K_b3, sz7b3, A_b3⟩ X71
  show Go p e below _ (T70.setTop (mkF m 50 #[rv a, iv n] [(.ref b3), (.ref a)]))
  have ne_a_b3 : a ≠ b3 := Nat.ne_of_lt (Nat.lt_of_lt_of_le lt_a_47 sz7b3)
  have ne_e1_b3 : e1 ≠ b3 := Nat.ne_of_lt (Nat.lt_of_lt_of_le lt_e1_47 sz7b3)
  have ne_e2_b3 : e2 ≠ b3 := Nat.ne_of_lt (Nat.lt_of_lt_of_le lt_e2_47 sz7b3)
  have ne_e3_b3 : e3 ≠ b3 := Nat.ne_of_lt (Nat.lt_of_lt_of_le lt_e3_47 sz7b3)
  have ne_b1_b3 : b1 ≠ b3 := Nat.ne_of_lt (Nat.lt_of_lt_of_le lt_b1_47 sz7b3)
  have ne_b2_b3 : b2 ≠ b3 := Nat.ne_of_lt (Nat.lt_of_lt_of_le lt_b2_47 sz7b3)
  have ga_b3 : n0 ≤ b3 := Nat.le_trans hsz_47 sz7b3
  have sz_b3 : h.size ≤ b3 := Nat.le_trans K62.1 sz7b3
  have E73 := E54.keep K_b3
  have F74 := F55.keep K_b3 nin0
  have A75 := A56.keep K_b3 nin0
  have F76 := F53.keep K_b3 nin0
  have A77 := A57.keep K_b3 nin0
  have F78 := F58.keep K_b3 nin0
  have A79 := A59.keep K_b3 nin0
  have A80 := A60.keep K_b3 nin0
  have A81 := A61.keep K_b3 nin0
  have K82 := K62.trans K_b3 all0
  replace A_b3 : La Z h72 b3 .long (ja [-1]) := A_b3
  refine go_putF C X71 (C.w 19 rfl) Via.refl F78 E73 (Or.inl (C.w 20 rfl)) (C.w 6 rfl) ga (ty := (.array .long)) (by decide) rfl rfl (pc' := 53) rfl d4_50 (fun T83 h85 W86 X84 => ?_)
  have F87 := F78.same W86
  have E88 := E73.wr W86
  have F89 := F74.other W86 (Or.inr (slot_ne (Or.inl (C.w 16 rfl)) (Or.inl (C.w 20 rfl)) (by decide) (t := (.array .long)) (t' := (.array .long)) (by decide) (by decide)))
  have A90 := A75.other W86 (Ne.symm na1)
  have F91 := F76.other W86 (Or.inr (slot_ne (Or.inl (C.w 18 rfl)) (Or.inl (C.w 20 rfl)) (by decide) (t := (.array .long)) (t' := (.array .long)) (by decide) (by decide)))
  have A92 := A77.other W86 (Ne.symm na2)
  have A93 := A79.other W86 (Ne.symm na3)
  have A94 := A80.other W86 (Ne.symm ne_a_b1)
  have A95 := A81.other W86 (Ne.symm ne_a_b2)
  have A96 := A_b3.other W86 (Ne.symm ne_a_b3)
  have K97 := K82.wr W86 (Or.inl (List.mem_of_getElem? (i := 0) rfl))
  exact go_ret0 C X84 d4_53 ⟨rfl, b1, b2, b3, K97, E88, F89, F91, F87, A94, A95, A96, sz_b1, sz_b2, sz_b3, ne_b1_b2, ne_b1_b3, ne_b2_b3⟩ (by decide) (by decide)
theorem d2_0 : decode prog_27_method_1_code 0 = .ok (.aload_n 0, 1) := by decide +kernel
theorem d2_1 : decode prog_27_method_1_code 1 = .ok (.invokespecial 1, 3) := by decide +kernel
theorem d2_4 : decode prog_27_method_1_code 4 = .ok (.aload_n 0, 1) := by decide +kernel
theorem d2_5 : decode prog_27_method_1_code 5 = .ok (.iconst 0, 1) := by decide +kernel
theorem d2_6 : decode prog_27_method_1_code 6 = .ok (.newarray .long, 2) := by decide +kernel
theorem d2_8 : decode prog_27_method_1_code 8 = .ok (.putfield 7, 3) := by decide +kernel
theorem d2_11 : decode prog_27_method_1_code 11 = .ok (.aload_n 0, 1) := by decide +kernel
theorem d2_12 : decode prog_27_method_1_code 12 = .ok (.iconst 0, 1) := by decide +kernel
theorem d2_13 : decode prog_27_method_1_code 13 = .ok (.newarray .long, 2) := by decide +kernel
theorem d2_15 : decode prog_27_method_1_code 15 = .ok (.putfield 13, 3) := by decide +kernel
theorem d2_18 : decode prog_27_method_1_code 18 = .ok (.aload_n 0, 1) := by decide +kernel
theorem d2_19 : decode prog_27_method_1_code 19 = .ok (.iconst 0, 1) := by decide +kernel
theorem d2_20 : decode prog_27_method_1_code 20 = .ok (.newarray .long, 2) := by decide +kernel
theorem d2_22 : decode prog_27_method_1_code 22 = .ok (.putfield 16, 3) := by decide +kernel
theorem d2_25 : decode prog_27_method_1_code 25 = .ok (.aload_n 0, 1) := by decide +kernel
theorem d2_26 : decode prog_27_method_1_code 26 = .ok (.iload_n 1, 1) := by decide +kernel
theorem pd_5 : parseMethodDescriptor "(I)V" = some ⟨[.int], none⟩ := by decide +kernel
theorem d2_27 : decode prog_27_method_1_code 27 = .ok (.invokevirtual 19, 3) := by decide +kernel
theorem d2_30 : decode prog_27_method_1_code 30 = .ok (.return_, 1) := by decide +kernel
theorem ef_own_init (m : MethodId) (a : Addr) (n : Int32)  : entryFrame m #[(.ref a), (.int n)] 2 = mkF m 0 #[rv a, iv n] [] := by
  first | (simp [entryFrame, mkF, argsToLocals, Value.category]; done) | rfl
set_option maxRecDepth 65536 in
set_option maxHeartbeats 40000000 in
theorem own_init (l : Launch) (Z : State) (a0 : Array Value) (hw : ∀ d ∈ tables_1, d.before a0 Z = true) (a : Addr) (n : Int32)  (h : Heap) (n0 : Nat) (hn0 : Old Z n0 h) (E0 : Exa Z h a "com/example/tokushima/tokushima/SummaryBitmap") (F1 : Fld Z h a "com/example/tokushima/tokushima/SummaryBitmap" "bits" "[J" .null) (F2 : Fld Z h a "com/example/tokushima/tokushima/SummaryBitmap" "words" "[J" .null) (F3 : Fld Z h a "com/example/tokushima/tokushima/SummaryBitmap" "tops" "[J" .null) (ga : n0 ≤ a) (qn1 : 1 ≤ n.toInt) (qn2 : n.toInt ≤ 1024) :
    Con l Z (⟨"com/example/tokushima/tokushima/SummaryBitmap", "<init>", "(I)V"⟩ : MethodName) prog_27_method_1_code 2 none ({ frames := 4, cells := 6, slots := 48, locals := 60 } : Room) #[(.ref a), (.int n)] h n0 (fun v h' => v = none ∧ ∃ b1 b2 b3 : Addr, Keep h h' [a] ∧ Exa Z h' a "com/example/tokushima/tokushima/SummaryBitmap" ∧ Fld Z h' a "com/example/tokushima/tokushima/SummaryBitmap" "bits" "[J" (.ref b1) ∧ Fld Z h' a "com/example/tokushima/tokushima/SummaryBitmap" "words" "[J" (.ref b2) ∧ Fld Z h' a "com/example/tokushima/tokushima/SummaryBitmap" "tops" "[J" (.ref b3) ∧ La Z h' b1 .long (ja (List.replicate (own_wd n).toNatClampNeg (-1))) ∧ La Z h' b2 .long (ja [-1]) ∧ La Z h' b3 .long (ja [-1]) ∧ h.size ≤ b1 ∧ h.size ≤ b2 ∧ h.size ≤ b3 ∧ b1 ≠ b2 ∧ b1 ≠ b3 ∧ b2 ≠ b3) := by
  refine con_of hw (plainFor_of_name pn_com_example_tokushima_tokushima_SummaryBitmap) hn0 ?_
  intro p e s m below meth c T0 C X0
  refine Go.cast (congrArg T0.setTop (ef_own_init m a n)) ?_
  refine go_aloadN C X0 1 rfl d2_0 rfl rfl ?_
  refine go_initO C X0 (C.w 11 rfl) (C.w 12 rfl) (C.w 13 rfl) (by decide) (Nat.le_of_ble_eq_true rfl) rfl (pc' := 4) rfl d2_1 (fun T1 X2 => ?_)
  refine go_aloadN C X2 5 rfl d2_4 rfl rfl ?_
  refine go_iconst C X2 6 rfl d2_5 (z := 0) rfl ?_
  refine go_newarr C X2 (C.w 14 rfl) (cap := 0) (by decide) (by decide) (by decide) (by decide) (by decide) (pc' := 8) rfl d2_6 (fun T3 h5 e1 ha_e1 ga_e1 E6 A7  X4 => ?_)
  have ne_a_e1 : a ≠ e1 := Nat.ne_of_lt (Nat.lt_of_lt_of_le E0.lt (Nat.le_of_eq ha_e1.symm))
  have sz_e1 : h.size ≤ e1 := Nat.le_trans (Keep.refl h [a]).1 (Nat.le_of_eq ha_e1.symm)
  have E8 := E0.ext E6
  have F9 := F1.ext E6
  have F10 := F2.ext E6
  have F11 := F3.ext E6
  have K12 := (Keep.refl h [a]).ext E6
  replace A7 : La Z h5 e1 .long ([]) := A7
  refine go_putF C X4 (C.w 15 rfl) Via.refl F9 E8 (Or.inl (C.w 16 rfl)) (C.w 6 rfl) ga (ty := (.array .long)) (by decide) rfl rfl (pc' := 11) rfl d2_8 (fun T13 h15 W16 X14 => ?_)
  have F17 := F9.same W16
  have E18 := E8.wr W16
  have F19 := F10.other W16 (Or.inr (slot_ne (Or.inl (C.w 18 rfl)) (Or.inl (C.w 16 rfl)) (by decide) (t := (.array .long)) (t' := (.array .long)) (by decide) (by decide)))
  have F20 := F11.other W16 (Or.inr (slot_ne (Or.inl (C.w 20 rfl)) (Or.inl (C.w 16 rfl)) (by decide) (t := (.array .long)) (t' := (.array .long)) (by decide) (by decide)))
  have A21 := A7.other W16 (Ne.symm ne_a_e1)
  have K22 := K12.wr W16 (Or.inl (List.mem_of_getElem? (i := 0) rfl))
  refine go_aloadN C X14 12 rfl d2_11 rfl rfl ?_
  refine go_iconst C X14 13 rfl d2_12 (z := 0) rfl ?_
  refine go_newarr C X14 (C.w 14 rfl) (cap := 0) (by decide) (by decide) (by decide) (by decide) (by decide) (pc' := 15) rfl d2_13 (fun T23 h25 e2 ha_e2 ga_e2 E26 A27  X24 => ?_)
  have ne_a_e2 : a ≠ e2 := Nat.ne_of_lt (Nat.lt_of_lt_of_le E18.lt (Nat.le_of_eq ha_e2.symm))
  have ne_e1_e2 : e1 ≠ e2 := Nat.ne_of_lt (Nat.lt_of_lt_of_le A21.lt (Nat.le_of_eq ha_e2.symm))
  have sz_e2 : h.size ≤ e2 := Nat.le_trans K22.1 (Nat.le_of_eq ha_e2.symm)
  have E28 := E18.ext E26
  have F29 := F17.ext E26
  have F30 := F19.ext E26
  have F31 := F20.ext E26
  have A32 := A21.ext E26
  have K33 := K22.ext E26
  replace A27 : La Z h25 e2 .long ([]) := A27
  refine go_putF C X24 (C.w 17 rfl) Via.refl F30 E28 (Or.inl (C.w 18 rfl)) (C.w 6 rfl) ga (ty := (.array .long)) (by decide) rfl rfl (pc' := 18) rfl d2_15 (fun T34 h36 W37 X35 => ?_)
  have F38 := F30.same W37
  have E39 := E28.wr W37
  have F40 := F29.other W37 (Or.inr (slot_ne (Or.inl (C.w 16 rfl)) (Or.inl (C.w 18 rfl)) (by decide) (t := (.array .long)) (t' := (.array .long)) (by decide) (by decide)))
  have F41 := F31.other W37 (Or.inr (slot_ne (Or.inl (C.w 20 rfl)) (Or.inl (C.w 18 rfl)) (by decide) (t := (.array .long)) (t' := (.array .long)) (by decide) (by decide)))
  have A42 := A32.other W37 (Ne.symm ne_a_e1)
  have A43 := A27.other W37 (Ne.symm ne_a_e2)
  have K44 := K33.wr W37 (Or.inl (List.mem_of_getElem? (i := 0) rfl))
  refine go_aloadN C X35 19 rfl d2_18 rfl rfl ?_
  refine go_iconst C X35 20 rfl d2_19 (z := 0) rfl ?_
  refine go_newarr C X35 (C.w 14 rfl) (cap := 0) (by decide) (by decide) (by decide) (by decide) (by decide) (pc' := 22) rfl d2_20 (fun T45 h47 e3 ha_e3 ga_e3 E48 A49  X46 => ?_)
  have ne_a_e3 : a ≠ e3 := Nat.ne_of_lt (Nat.lt_of_lt_of_le E39.lt (Nat.le_of_eq ha_e3.symm))
  have ne_e1_e3 : e1 ≠ e3 := Nat.ne_of_lt (Nat.lt_of_lt_of_le A42.lt (Nat.le_of_eq ha_e3.symm))
  have ne_e2_e3 : e2 ≠ e3 := Nat.ne_of_lt (Nat.lt_of_lt_of_le A43.lt (Nat.le_of_eq ha_e3.symm))
  have sz_e3 : h.size ≤ e3 := Nat.le_trans K44.1 (Nat.le_of_eq ha_e3.symm)
  have E50 := E39.ext E48
  have F51 := F40.ext E48
  have F52 := F38.ext E48
  have F53 := F41.ext E48
  have A54 := A42.ext E48
  have A55 := A43.ext E48
  have K56 := K44.ext E48
  replace A49 : La Z h47 e3 .long ([]) := A49
  refine go_putF C X46 (C.w 19 rfl) Via.refl F53 E50 (Or.inl (C.w 20 rfl)) (C.w 6 rfl) ga (ty := (.array .long)) (by decide) rfl rfl (pc' := 25) rfl d2_22 (fun T57 h59 W60 X58 => ?_)
  have F61 := F53.same W60
  have E62 := E50.wr W60
  have F63 := F51.other W60 (Or.inr (slot_ne (Or.inl (C.w 16 rfl)) (Or.inl (C.w 20 rfl)) (by decide) (t := (.array .long)) (t' := (.array .long)) (by decide) (by decide)))
  have F64 := F52.other W60 (Or.inr (slot_ne (Or.inl (C.w 18 rfl)) (Or.inl (C.w 20 rfl)) (by decide) (t := (.array .long)) (t' := (.array .long)) (by decide) (by decide)))
  have A65 := A54.other W60 (Ne.symm ne_a_e1)
  have A66 := A55.other W60 (Ne.symm ne_a_e2)
  have A67 := A49.other W60 (Ne.symm ne_a_e3)
  have K68 := K56.wr W60 (Or.inl (List.mem_of_getElem? (i := 0) rfl))
  refine go_aloadN C X58 26 rfl d2_25 rfl rfl ?_
  refine go_iloadN C X58 27 rfl d2_26 rfl ?_
  have hsz_27 := X58.sz
  have lt_a_27 := E62.lt
  have lt_e1_27 := A65.lt
  have lt_e2_27 := A66.lt
  have lt_e3_27 := A67.lt
  refine go_virtual C X58 E62 (C.w 21 rfl) (C.w 22 rfl) (notFace_of_selects (args := #[]) (mvT C.hZ (C.w 24 rfl))) (C.w 24 rfl) (C.w 23 rfl) (C.w 7 rfl) (C.w 25 rfl) (own_grow l Z a0 C.ws a n e1 e2 e3 h59 n0 X58.old E62 F63 F64 F61 A65 A66 A67 ga ne_a_e1 ne_a_e2 ne_a_e3 qn1 qn2) (argsL := [(.int n)]) (rest := []) (lenOf pd_5 rfl) rfl (by decide) (by decide) (Nat.le_of_ble_eq_true rfl) (by decide) (by decide) rfl rfl (pc' := 30) rfl d2_27 ?_
  rintro T69 h71 _ ⟨rfl, b1, b2, b3, K5, E5, F51, F52, F53, A51, A52, A53, sz51, sz52, sz53, n12, n13, n23⟩ X70
  show Go p e below _ (T69.setTop (mkF m 30 #[rv a, iv n] []))
  have ne_a_b1 : a ≠ b1 := Nat.ne_of_lt (Nat.lt_of_lt_of_le lt_a_27 sz51)
  have ne_e1_b1 : e1 ≠ b1 := Nat.ne_of_lt (Nat.lt_of_lt_of_le lt_e1_27 sz51)
  have ne_e2_b1 : e2 ≠ b1 := Nat.ne_of_lt (Nat.lt_of_lt_of_le lt_e2_27 sz51)
  have ne_e3_b1 : e3 ≠ b1 := Nat.ne_of_lt (Nat.lt_of_lt_of_le lt_e3_27 sz51)
  have ga_b1 : n0 ≤ b1 := Nat.le_trans hsz_27 sz51
  have sz_b1 : h.size ≤ b1 := Nat.le_trans K68.1 sz51
  have ne_a_b2 : a ≠ b2 := Nat.ne_of_lt (Nat.lt_of_lt_of_le lt_a_27 sz52)
  have ne_e1_b2 : e1 ≠ b2 := Nat.ne_of_lt (Nat.lt_of_lt_of_le lt_e1_27 sz52)
  have ne_e2_b2 : e2 ≠ b2 := Nat.ne_of_lt (Nat.lt_of_lt_of_le lt_e2_27 sz52)
  have ne_e3_b2 : e3 ≠ b2 := Nat.ne_of_lt (Nat.lt_of_lt_of_le lt_e3_27 sz52)
  have ga_b2 : n0 ≤ b2 := Nat.le_trans hsz_27 sz52
  have sz_b2 : h.size ≤ b2 := Nat.le_trans K68.1 sz52
  have ne_a_b3 : a ≠ b3 := Nat.ne_of_lt (Nat.lt_of_lt_of_le lt_a_27 sz53)
  have ne_e1_b3 : e1 ≠ b3 := Nat.ne_of_lt (Nat.lt_of_lt_of_le lt_e1_27 sz53)
  have ne_e2_b3 : e2 ≠ b3 := Nat.ne_of_lt (Nat.lt_of_lt_of_le lt_e2_27 sz53)
  have ne_e3_b3 : e3 ≠ b3 := Nat.ne_of_lt (Nat.lt_of_lt_of_le lt_e3_27 sz53)
  have ga_b3 : n0 ≤ b3 := Nat.le_trans hsz_27 sz53
  have sz_b3 : h.size ≤ b3 := Nat.le_trans K68.1 sz53
  have E72 := E62.keep K5
  have A73 := A65.keep K5 (ninS (Ne.symm ne_a_e1) nin0)
  have A74 := A66.keep K5 (ninS (Ne.symm ne_a_e2) nin0)
  have A75 := A67.keep K5 (ninS (Ne.symm ne_a_e3) nin0)
  have K76 := K68.trans K5 (allS (Or.inl (List.mem_of_getElem? (i := 0) rfl)) all0)
  exact go_ret0 C X70 d2_30 ⟨rfl, b1, b2, b3, K76, E5, F51, F52, F53, A51, A52, A53, sz_b1, sz_b2, sz_b3, n12, n13, n23⟩ (by decide) (by decide)
theorem d11_0 : decode prog_27_method_2_code 0 = .ok (.iload_n 1, 1) := by decide +kernel
theorem d11_1 : decode prog_27_method_2_code 1 = .ok (.bipush 6, 2) := by decide +kernel
theorem d11_3 : decode prog_27_method_2_code 3 = .ok (.iushr, 1) := by decide +kernel
theorem d11_4 : decode prog_27_method_2_code 4 = .ok (.istore_n 2, 1) := by decide +kernel
theorem d11_5 : decode prog_27_method_2_code 5 = .ok (.aload_n 0, 1) := by decide +kernel
theorem d11_6 : decode prog_27_method_2_code 6 = .ok (.getfield 7, 3) := by decide +kernel
theorem d11_9 : decode prog_27_method_2_code 9 = .ok (.iload_n 2, 1) := by decide +kernel
theorem d11_10 : decode prog_27_method_2_code 10 = .ok (.dup2, 1) := by decide +kernel
theorem d11_11 : decode prog_27_method_2_code 11 = .ok (.laload, 1) := by decide +kernel
theorem d11_12 : decode prog_27_method_2_code 12 = .ok (.lconst 1, 1) := by decide +kernel
theorem d11_13 : decode prog_27_method_2_code 13 = .ok (.iload_n 1, 1) := by decide +kernel
theorem d11_14 : decode prog_27_method_2_code 14 = .ok (.lshl, 1) := by decide +kernel
theorem d11_15 : decode prog_27_method_2_code 15 = .ok (.ldc2_w 23, 3) := by decide +kernel
theorem d11_18 : decode prog_27_method_2_code 18 = .ok (.lxor, 1) := by decide +kernel
theorem d11_19 : decode prog_27_method_2_code 19 = .ok (.land, 1) := by decide +kernel
theorem d11_20 : decode prog_27_method_2_code 20 = .ok (.lastore, 1) := by decide +kernel
theorem d11_21 : decode prog_27_method_2_code 21 = .ok (.aload_n 0, 1) := by decide +kernel
theorem d11_22 : decode prog_27_method_2_code 22 = .ok (.getfield 7, 3) := by decide +kernel
theorem d11_25 : decode prog_27_method_2_code 25 = .ok (.iload_n 2, 1) := by decide +kernel
theorem d11_26 : decode prog_27_method_2_code 26 = .ok (.laload, 1) := by decide +kernel
theorem d11_27 : decode prog_27_method_2_code 27 = .ok (.lconst 0, 1) := by decide +kernel
theorem d11_28 : decode prog_27_method_2_code 28 = .ok (.lcmp, 1) := by decide +kernel
theorem d11_29 : decode prog_27_method_2_code 29 = .ok (.ifCond .ne 54, 3) := by decide +kernel
theorem d11_83 : decode prog_27_method_2_code 83 = .ok (.return_, 1) := by decide +kernel
theorem ef_own_clear (m : MethodId) (a : Addr) (p1 : Int32)  : entryFrame m #[(.ref a), (.int p1)] 4 = mkF m 0 #[rv a, iv p1, un, un] [] := by
  first | (simp [entryFrame, mkF, argsToLocals, Value.category]; done) | rfl
set_option maxRecDepth 65536 in
set_option maxHeartbeats 40000000 in
theorem own_clear (l : Launch) (Z : State) (a0 : Array Value) (hw : ∀ d ∈ tables_1, d.before a0 Z = true) (a : Addr) (p1 : Int32) (b1 : Addr) (bs : List Int64) (h : Heap) (n0 : Nat) (hn0 : Old Z n0 h) (F1 : Fld Z h a "com/example/tokushima/tokushima/SummaryBitmap" "bits" "[J" (.ref b1)) (A1 : La Z h b1 .long (ja bs)) (gb : n0 ≤ b1) (nab : a ≠ b1) (q0 : 0 ≤ p1.toInt) (q1 : p1.toInt / 64 < bs.length) (hz : ¬ at64 (own_clr bs p1) (own_w p1) = 0) :
    Con l Z (⟨"com/example/tokushima/tokushima/SummaryBitmap", "clear", "(I)V"⟩ : MethodName) prog_27_method_2_code 4 none ({ frames := 0, cells := 0, slots := 0, locals := 0 } : Room) #[(.ref a), (.int p1)] h n0 (fun v h' => v = none ∧ Keep h h' [b1] ∧ La Z h' b1 .long (ja (own_clr bs p1))) := by
  refine con_of hw (plainFor_of_name pn_com_example_tokushima_tokushima_SummaryBitmap) hn0 ?_
  intro p e s m below meth c T0 C X0
  refine Go.cast (congrArg T0.setTop (ef_own_clear m a p1)) ?_
  refine go_iloadN C X0 1 rfl d11_0 rfl ?_
  refine go_bipush C X0 3 rfl d11_1 (z := 6) rfl ?_
  refine go_iushr C X0 4 rfl d11_3 ?_
  refine go_istoreN C X0 5 rfl d11_4 #[rv a, iv p1, iv ((p1.toUInt32 >>> ((6 : Int32) &&& 31).toUInt32).toInt32), un] rfl ?_
  have hw6 := own_w_i q0
  show Go p e below _ (T0.setTop (mkF m 5 #[rv a, iv p1, iv (own_w p1), un] []))
  refine go_aloadN C X0 6 rfl d11_5 rfl rfl ?_
  refine go_getF C X0 (C.w 15 rfl) Via.refl F1 (pc' := 9) rfl d11_6 (fun T1 X2 => ?_)
  refine go_iloadN C X2 10 rfl d11_9 rfl ?_
  refine go_dup2 C X2 11 rfl d11_10 rfl rfl ?_
  refine go_laload C X2 A1 (by omega) (v := (.long (at64 bs (own_w p1)))) (ja_at (by omega) (by omega)) (pc' := 12) rfl d11_11 ?_
  refine go_lconst C X2 13 rfl d11_12 (z := 1) rfl ?_
  refine go_iloadN C X2 14 rfl d11_13 rfl ?_
  refine go_lshl C X2 15 rfl d11_14 ?_
  refine go_ldc2Long C X2 (C.w 44 rfl) (pc' := 18) rfl d11_15 ?_
  refine go_lxor C X2 19 rfl d11_18 ?_
  refine go_land C X2 20 rfl d11_19 ?_
  refine go_lastore C X2 A1 (by omega) (by rw [ja_len]; omega) gb (pc' := 21) rfl d11_20 (fun T3 h5 W6 A7 X4 => ?_)
  have F8 := F1.other W6 (Or.inl nab)
  have K9 := (Keep.refl h [b1]).wr W6 (Or.inl (List.mem_of_getElem? (i := 0) rfl))
  rw [ja_put] at A7
  refine go_aloadN C X4 22 rfl d11_21 rfl rfl ?_
  refine go_getF C X4 (C.w 15 rfl) Via.refl F8 (pc' := 25) rfl d11_22 (fun T10 X11 => ?_)
  refine go_iloadN C X11 26 rfl d11_25 rfl ?_
  refine go_laload C X11 A7 (by omega) (v := (.long (at64 (put64 bs (own_w p1) ((at64 bs (own_w p1)) &&& (((1 : Int64) <<< (p1 &&& 0x3f).toInt64) ^^^ (-1 : Int64)))) (own_w p1)))) (ja_at (by omega) (by rw [put64_len]; omega)) (pc' := 27) rfl d11_26 ?_
  refine go_lconst C X11 28 rfl d11_27 (z := 0) rfl ?_
  refine go_lif_ne C X11 (pc1 := 29) rfl d11_28 d11_29 (pc' := 32) (pc2 := 83) rfl (by decide) (by decide) (fun (c29 : ¬ (at64 (put64 bs (own_w p1) ((at64 bs (own_w p1)) &&& (((1 : Int64) <<< (p1 &&& 0x3f).toInt64) ^^^ (-1 : Int64)))) (own_w p1)) = (0 : Int64)) => ?_) (fun (c29 : (at64 (put64 bs (own_w p1) ((at64 bs (own_w p1)) &&& (((1 : Int64) <<< (p1 &&& 0x3f).toInt64) ^^^ (-1 : Int64)))) (own_w p1)) = (0 : Int64)) => False.elim (hz c29))
  exact go_ret0 C X11 d11_83 ⟨rfl, K9, A7⟩ (by decide) (by decide)
theorem own_m1or (x : Int64) : (-1 : Int64) ||| x = -1 := bt_ext fun i hi => by rw [bt_or, bt_m1 hi, Bool.true_or]
theorem own_keep1 {i : Int32} (h : i.toInt = 0) (x : Int64) : put64 [-1] i (at64 [-1] i ||| x) = [-1] := by
  obtain rfl : i = 0 := i_eq h
  have e : at64 [-1] 0 = -1 := rfl
  rw [e, own_m1or]
  rfl
theorem d12_0 : decode prog_27_method_3_code 0 = .ok (.iload_n 1, 1) := by decide +kernel
theorem d12_1 : decode prog_27_method_3_code 1 = .ok (.bipush 6, 2) := by decide +kernel
theorem d12_3 : decode prog_27_method_3_code 3 = .ok (.iushr, 1) := by decide +kernel
theorem d12_4 : decode prog_27_method_3_code 4 = .ok (.istore_n 2, 1) := by decide +kernel
theorem d12_5 : decode prog_27_method_3_code 5 = .ok (.aload_n 0, 1) := by decide +kernel
theorem d12_6 : decode prog_27_method_3_code 6 = .ok (.getfield 7, 3) := by decide +kernel
theorem d12_9 : decode prog_27_method_3_code 9 = .ok (.iload_n 2, 1) := by decide +kernel
theorem d12_10 : decode prog_27_method_3_code 10 = .ok (.dup2, 1) := by decide +kernel
theorem d12_11 : decode prog_27_method_3_code 11 = .ok (.laload, 1) := by decide +kernel
theorem d12_12 : decode prog_27_method_3_code 12 = .ok (.lconst 1, 1) := by decide +kernel
theorem d12_13 : decode prog_27_method_3_code 13 = .ok (.iload_n 1, 1) := by decide +kernel
theorem d12_14 : decode prog_27_method_3_code 14 = .ok (.lshl, 1) := by decide +kernel
theorem d12_15 : decode prog_27_method_3_code 15 = .ok (.lor, 1) := by decide +kernel
theorem d12_16 : decode prog_27_method_3_code 16 = .ok (.lastore, 1) := by decide +kernel
theorem d12_17 : decode prog_27_method_3_code 17 = .ok (.aload_n 0, 1) := by decide +kernel
theorem d12_18 : decode prog_27_method_3_code 18 = .ok (.getfield 13, 3) := by decide +kernel
theorem d12_21 : decode prog_27_method_3_code 21 = .ok (.iload_n 2, 1) := by decide +kernel
theorem d12_22 : decode prog_27_method_3_code 22 = .ok (.bipush 6, 2) := by decide +kernel
theorem d12_24 : decode prog_27_method_3_code 24 = .ok (.iushr, 1) := by decide +kernel
theorem d12_25 : decode prog_27_method_3_code 25 = .ok (.dup2, 1) := by decide +kernel
theorem d12_26 : decode prog_27_method_3_code 26 = .ok (.laload, 1) := by decide +kernel
theorem d12_27 : decode prog_27_method_3_code 27 = .ok (.lconst 1, 1) := by decide +kernel
theorem d12_28 : decode prog_27_method_3_code 28 = .ok (.iload_n 2, 1) := by decide +kernel
theorem d12_29 : decode prog_27_method_3_code 29 = .ok (.lshl, 1) := by decide +kernel
theorem d12_30 : decode prog_27_method_3_code 30 = .ok (.lor, 1) := by decide +kernel
theorem d12_31 : decode prog_27_method_3_code 31 = .ok (.lastore, 1) := by decide +kernel
theorem d12_32 : decode prog_27_method_3_code 32 = .ok (.aload_n 0, 1) := by decide +kernel
theorem d12_33 : decode prog_27_method_3_code 33 = .ok (.getfield 16, 3) := by decide +kernel
theorem d12_36 : decode prog_27_method_3_code 36 = .ok (.iload_n 2, 1) := by decide +kernel
theorem d12_37 : decode prog_27_method_3_code 37 = .ok (.bipush 12, 2) := by decide +kernel
theorem d12_39 : decode prog_27_method_3_code 39 = .ok (.iushr, 1) := by decide +kernel
theorem d12_40 : decode prog_27_method_3_code 40 = .ok (.dup2, 1) := by decide +kernel
theorem d12_41 : decode prog_27_method_3_code 41 = .ok (.laload, 1) := by decide +kernel
theorem d12_42 : decode prog_27_method_3_code 42 = .ok (.lconst 1, 1) := by decide +kernel
theorem d12_43 : decode prog_27_method_3_code 43 = .ok (.iload_n 2, 1) := by decide +kernel
theorem d12_44 : decode prog_27_method_3_code 44 = .ok (.bipush 6, 2) := by decide +kernel
theorem d12_46 : decode prog_27_method_3_code 46 = .ok (.iushr, 1) := by decide +kernel
theorem d12_47 : decode prog_27_method_3_code 47 = .ok (.lshl, 1) := by decide +kernel
theorem d12_48 : decode prog_27_method_3_code 48 = .ok (.lor, 1) := by decide +kernel
theorem d12_49 : decode prog_27_method_3_code 49 = .ok (.lastore, 1) := by decide +kernel
theorem d12_50 : decode prog_27_method_3_code 50 = .ok (.return_, 1) := by decide +kernel
theorem ef_own_setM (m : MethodId) (a : Addr) (p1 : Int32)  : entryFrame m #[(.ref a), (.int p1)] 3 = mkF m 0 #[rv a, iv p1, un] [] := by
  first | (simp [entryFrame, mkF, argsToLocals, Value.category]; done) | rfl
set_option maxRecDepth 65536 in
set_option maxHeartbeats 40000000 in
theorem own_setM (l : Launch) (Z : State) (a0 : Array Value) (hw : ∀ d ∈ tables_1, d.before a0 Z = true) (a : Addr) (p1 : Int32) (b1 b2 b3 : Addr) (bs : List Int64) (h : Heap) (n0 : Nat) (hn0 : Old Z n0 h) (F1 : Fld Z h a "com/example/tokushima/tokushima/SummaryBitmap" "bits" "[J" (.ref b1)) (F2 : Fld Z h a "com/example/tokushima/tokushima/SummaryBitmap" "words" "[J" (.ref b2)) (F3 : Fld Z h a "com/example/tokushima/tokushima/SummaryBitmap" "tops" "[J" (.ref b3)) (A1 : La Z h b1 .long (ja bs)) (A2 : La Z h b2 .long (ja [-1])) (A3 : La Z h b3 .long (ja [-1])) (g1 : n0 ≤ b1) (g2 : n0 ≤ b2) (g3 : n0 ≤ b3) (na1 : a ≠ b1) (na2 : a ≠ b2) (na3 : a ≠ b3) (n12 : b1 ≠ b2) (n13 : b1 ≠ b3) (n23 : b2 ≠ b3) (q0 : 0 ≤ p1.toInt) (q1 : p1.toInt / 64 < bs.length) (q2 : p1.toInt < 4096) :
    Con l Z (⟨"com/example/tokushima/tokushima/SummaryBitmap", "set", "(I)V"⟩ : MethodName) prog_27_method_3_code 3 none ({ frames := 0, cells := 0, slots := 0, locals := 0 } : Room) #[(.ref a), (.int p1)] h n0 (fun v h' => v = none ∧ Keep h h' [b1, b2, b3] ∧ La Z h' b1 .long (ja (own_set bs p1)) ∧ La Z h' b2 .long (ja [-1]) ∧ La Z h' b3 .long (ja [-1])) := by
  refine con_of hw (plainFor_of_name pn_com_example_tokushima_tokushima_SummaryBitmap) hn0 ?_
  intro p e s m below meth c T0 C X0
  refine Go.cast (congrArg T0.setTop (ef_own_setM m a p1)) ?_
  refine go_iloadN C X0 1 rfl d12_0 rfl ?_
  refine go_bipush C X0 3 rfl d12_1 (z := 6) rfl ?_
  refine go_iushr C X0 4 rfl d12_3 ?_
  refine go_istoreN C X0 5 rfl d12_4 #[rv a, iv p1, iv ((p1.toUInt32 >>> ((6 : Int32) &&& 31).toUInt32).toInt32)] rfl ?_
  have hw6 := own_w_i q0
  show Go p e below _ (T0.setTop (mkF m 5 #[rv a, iv p1, iv (own_w p1)] []))
  refine go_aloadN C X0 6 rfl d12_5 rfl rfl ?_
  refine go_getF C X0 (C.w 15 rfl) Via.refl F1 (pc' := 9) rfl d12_6 (fun T1 X2 => ?_)
  refine go_iloadN C X2 10 rfl d12_9 rfl ?_
  refine go_dup2 C X2 11 rfl d12_10 rfl rfl ?_
  refine go_laload C X2 A1 (by omega) (v := (.long (at64 bs (own_w p1)))) (ja_at (by omega) (by omega)) (pc' := 12) rfl d12_11 ?_
  refine go_lconst C X2 13 rfl d12_12 (z := 1) rfl ?_
  refine go_iloadN C X2 14 rfl d12_13 rfl ?_
  refine go_lshl C X2 15 rfl d12_14 ?_
  refine go_lor C X2 16 rfl d12_15 ?_
  refine go_lastore C X2 A1 (by omega) (by rw [ja_len]; omega) g1 (pc' := 17) rfl d12_16 (fun T3 h5 W6 A7 X4 => ?_)
  have F8 := F1.other W6 (Or.inl na1)
  have F9 := F2.other W6 (Or.inl na1)
  have A10 := A2.other W6 (Ne.symm n12)
  have F11 := F3.other W6 (Or.inl na1)
  have A12 := A3.other W6 (Ne.symm n13)
  have K13 := (Keep.refl h [b1, b2, b3]).wr W6 (Or.inl (List.mem_of_getElem? (i := 0) rfl))
  rw [ja_put] at A7
  refine go_aloadN C X4 18 rfl d12_17 rfl rfl ?_
  refine go_getF C X4 (C.w 17 rfl) Via.refl F9 (pc' := 21) rfl d12_18 (fun T14 X15 => ?_)
  refine go_iloadN C X15 22 rfl d12_21 rfl ?_
  refine go_bipush C X15 24 rfl d12_22 (z := 6) rfl ?_
  refine go_iushr C X15 25 rfl d12_24 ?_
  refine go_dup2 C X15 26 rfl d12_25 rfl rfl ?_
  have hz6 : (((own_w p1).toUInt32 >>> ((6 : Int32) &&& 31).toUInt32).toInt32).toInt = 0 := by have e : (((own_w p1).toUInt32 >>> ((6 : Int32) &&& 31).toUInt32).toInt32).toInt = ((own_w p1).toInt % 4294967296) / (2 ^ 6 : Nat) := c_iushr _ 6 6 (by decide) (by decide); omega
  generalize ej6 : (((own_w p1).toUInt32 >>> ((6 : Int32) &&& 31).toUInt32).toInt32) = j6 at hz6 ⊢
  refine go_laload C X15 A10 (by omega) (v := (.long (at64 [-1] j6))) (ja_at (by omega) (by show j6.toInt < (1 : Nat); omega)) (pc' := 27) rfl d12_26 ?_
  refine go_lconst C X15 28 rfl d12_27 (z := 1) rfl ?_
  refine go_iloadN C X15 29 rfl d12_28 rfl ?_
  refine go_lshl C X15 30 rfl d12_29 ?_
  refine go_lor C X15 31 rfl d12_30 ?_
  refine go_lastore C X15 A10 (by omega) (by rw [ja_len]; show j6.toInt < (1 : Nat); omega) g2 (pc' := 32) rfl d12_31 (fun T16 h18 W19 A20 X17 => ?_)
  have F21 := F8.other W19 (Or.inl na2)
  have A22 := A7.other W19 n12
  have F23 := F9.other W19 (Or.inl na2)
  have F24 := F11.other W19 (Or.inl na2)
  have A25 := A12.other W19 (Ne.symm n23)
  have K26 := K13.wr W19 (Or.inl (List.mem_of_getElem? (i := 1) rfl))
  rw [ja_put] at A20
  rw [own_keep1 hz6] at A20
  refine go_aloadN C X17 33 rfl d12_32 rfl rfl ?_
  refine go_getF C X17 (C.w 19 rfl) Via.refl F24 (pc' := 36) rfl d12_33 (fun T27 X28 => ?_)
  refine go_iloadN C X28 37 rfl d12_36 rfl ?_
  refine go_bipush C X28 39 rfl d12_37 (z := 12) rfl ?_
  refine go_iushr C X28 40 rfl d12_39 ?_
  refine go_dup2 C X28 41 rfl d12_40 rfl rfl ?_
  have hz12 : (((own_w p1).toUInt32 >>> ((12 : Int32) &&& 31).toUInt32).toInt32).toInt = 0 := by have e : (((own_w p1).toUInt32 >>> ((12 : Int32) &&& 31).toUInt32).toInt32).toInt = ((own_w p1).toInt % 4294967296) / (2 ^ 12 : Nat) := c_iushr _ 12 12 (by decide) (by decide); omega
  generalize ej7 : (((own_w p1).toUInt32 >>> ((12 : Int32) &&& 31).toUInt32).toInt32) = j7 at hz12 ⊢
  refine go_laload C X28 A25 (by omega) (v := (.long (at64 [-1] j7))) (ja_at (by omega) (by show j7.toInt < (1 : Nat); omega)) (pc' := 42) rfl d12_41 ?_
  refine go_lconst C X28 43 rfl d12_42 (z := 1) rfl ?_
  refine go_iloadN C X28 44 rfl d12_43 rfl ?_
  refine go_bipush C X28 46 rfl d12_44 (z := 6) rfl ?_
  refine go_iushr C X28 47 rfl d12_46 ?_
  refine go_lshl C X28 48 rfl d12_47 ?_
  refine go_lor C X28 49 rfl d12_48 ?_
  refine go_lastore C X28 A25 (by omega) (by rw [ja_len]; show j7.toInt < (1 : Nat); omega) g3 (pc' := 50) rfl d12_49 (fun T29 h31 W32 A33 X30 => ?_)
  have F34 := F21.other W32 (Or.inl na3)
  have A35 := A22.other W32 n13
  have F36 := F23.other W32 (Or.inl na3)
  have A37 := A20.other W32 n23
  have F38 := F24.other W32 (Or.inl na3)
  have K39 := K26.wr W32 (Or.inl (List.mem_of_getElem? (i := 2) rfl))
  rw [ja_put] at A33
  rw [own_keep1 hz12] at A33
  exact go_ret0 C X30 d12_50 ⟨rfl, K39, A35, A37, A33⟩ (by decide) (by decide)
theorem d14_0 : decode prog_27_method_10_code 0 = .ok (.lload_n 1, 1) := by decide +kernel
theorem d14_1 : decode prog_27_method_10_code 1 = .ok (.aload_n 0, 1) := by decide +kernel
theorem d14_2 : decode prog_27_method_10_code 2 = .ok (.arraylength, 1) := by decide +kernel
theorem d14_3 : decode prog_27_method_10_code 3 = .ok (.i2l, 1) := by decide +kernel
theorem d14_4 : decode prog_27_method_10_code 4 = .ok (.lcmp, 1) := by decide +kernel
theorem d14_5 : decode prog_27_method_10_code 5 = .ok (.ifCond .ge 10, 3) := by decide +kernel
theorem d14_15 : decode prog_27_method_10_code 15 = .ok (.ldc2_w 23, 3) := by decide +kernel
theorem d14_18 : decode prog_27_method_10_code 18 = .ok (.lreturn, 1) := by decide +kernel
theorem d14_8 : decode prog_27_method_10_code 8 = .ok (.aload_n 0, 1) := by decide +kernel
theorem d14_9 : decode prog_27_method_10_code 9 = .ok (.lload_n 1, 1) := by decide +kernel
theorem d14_10 : decode prog_27_method_10_code 10 = .ok (.l2i, 1) := by decide +kernel
theorem d14_11 : decode prog_27_method_10_code 11 = .ok (.laload, 1) := by decide +kernel
theorem d14_12 : decode prog_27_method_10_code 12 = .ok (.goto 6, 3) := by decide +kernel
theorem ef_own_word (m : MethodId) (b : Addr) (wq : Int64)  : entryFrame m #[(.ref b), (.long wq)] 3 = mkF m 0 #[rv b, jv wq, sc] [] := by
  first | (simp [entryFrame, mkF, argsToLocals, Value.category]; done) | rfl
set_option maxRecDepth 65536 in
set_option maxHeartbeats 40000000 in
theorem own_word (l : Launch) (Z : State) (a0 : Array Value) (hw : ∀ d ∈ tables_1, d.before a0 Z = true) (b : Addr) (wq : Int64) (xs : List Int64) (h : Heap) (n0 : Nat) (hn0 : Old Z n0 h) (A1 : La Z h b .long (ja xs)) (q0 : 0 ≤ wq.toInt) :
    Con l Z (⟨"com/example/tokushima/tokushima/SummaryBitmap", "word", "([JJ)J"⟩ : MethodName) prog_27_method_10_code 3 (some .long) ({ frames := 0, cells := 0, slots := 0, locals := 0 } : Room) #[(.ref b), (.long wq)] h n0 (fun v h' => v = some (.long (own_wat xs wq)) ∧ h = h') := by
  refine con_of hw (plainFor_of_name pn_com_example_tokushima_tokushima_SummaryBitmap) hn0 ?_
  intro p e s m below meth c T0 C X0
  refine Go.cast (congrArg T0.setTop (ef_own_word m b wq)) ?_
  have hl31 := A1.len
  rw [ja_len] at hl31
  have hlen : xs.length.toInt32.toInt64.toInt = (xs.length : Int) := (c_i2l _).trans (Int32.toInt_ofNat_of_lt hl31)
  refine go_lloadN C X0 1 rfl d14_0 rfl ?_
  refine go_aloadN C X0 2 rfl d14_1 rfl rfl ?_
  refine go_alen C X0 A1 (z := (xs.length.toInt32)) (by rw [ja_len]) (pc' := 3) rfl d14_2 ?_
  refine go_i2l C X0 4 rfl d14_3 ?_
  refine go_lif_ge C X0 (pc1 := 5) rfl d14_4 d14_5 (pc' := 8) (pc2 := 15) rfl (by decide) (by decide) (fun (c5 : ((xs.length.toInt32).toInt64).toInt ≤ wq.toInt) => ?_) (fun (c5 : wq.toInt < ((xs.length.toInt32).toInt64).toInt) => ?_)
  · refine go_ldc2Long C X0 (C.w 44 rfl) (pc' := 18) rfl d14_15 ?_
    exact go_retJ C X0 d14_18 ⟨congrArg (fun z => some (Value.long z)) ((own_wat_out (by omega)).symm), rfl⟩ (by decide) (by decide)
  · refine go_aloadN C X0 9 rfl d14_8 rfl rfl ?_
    refine go_lloadN C X0 10 rfl d14_9 rfl ?_
    refine go_l2i C X0 11 rfl d14_10 ?_
    have e32 : wq.toInt32.toInt = wq.toInt := by have := c_l2i wq; have := rng32 wq.toInt32; omega
    refine go_laload C X0 A1 (by omega) (v := (.long (at64 xs (wq.toInt32)))) (ja_at (by omega) (by omega)) (pc' := 12) rfl d14_11 ?_
    refine go_goto C X0 d14_12 (pc' := 18) (by decide) (by decide) ?_
    exact go_retJ C X0 d14_18 ⟨congrArg (fun z => some (Value.long z)) (own_wat_in q0 (by omega) e32), rfl⟩ (by decide) (by decide)
theorem d20_0 : decode jdk_33_method_48_code 0 = .ok (.iload_n 0, 1) := by decide +kernel
theorem d20_1 : decode jdk_33_method_48_code 1 = .ok (.iconst (-1), 1) := by decide +kernel
theorem d20_2 : decode jdk_33_method_48_code 2 = .ok (.ixor, 1) := by decide +kernel
theorem d20_3 : decode jdk_33_method_48_code 3 = .ok (.iload_n 0, 1) := by decide +kernel
theorem d20_4 : decode jdk_33_method_48_code 4 = .ok (.iconst 1, 1) := by decide +kernel
theorem d20_5 : decode jdk_33_method_48_code 5 = .ok (.isub, 1) := by decide +kernel
theorem d20_6 : decode jdk_33_method_48_code 6 = .ok (.iand, 1) := by decide +kernel
theorem d20_7 : decode jdk_33_method_48_code 7 = .ok (.istore_n 0, 1) := by decide +kernel
theorem d20_8 : decode jdk_33_method_48_code 8 = .ok (.iload_n 0, 1) := by decide +kernel
theorem d20_9 : decode jdk_33_method_48_code 9 = .ok (.ifCond .gt 8, 3) := by decide +kernel
theorem d20_17 : decode jdk_33_method_48_code 17 = .ok (.iconst 1, 1) := by decide +kernel
theorem d20_18 : decode jdk_33_method_48_code 18 = .ok (.istore_n 1, 1) := by decide +kernel
theorem d20_74 : decode jdk_33_method_48_code 74 = .ok (.iload_n 1, 1) := by decide +kernel
theorem d20_75 : decode jdk_33_method_48_code 75 = .ok (.iload_n 0, 1) := by decide +kernel
theorem d20_76 : decode jdk_33_method_48_code 76 = .ok (.iconst 1, 1) := by decide +kernel
theorem d20_77 : decode jdk_33_method_48_code 77 = .ok (.iushr, 1) := by decide +kernel
theorem d20_78 : decode jdk_33_method_48_code 78 = .ok (.iadd, 1) := by decide +kernel
theorem d20_79 : decode jdk_33_method_48_code 79 = .ok (.ireturn, 1) := by decide +kernel
theorem d20_62 : decode jdk_33_method_48_code 62 = .ok (.iload_n 0, 1) := by decide +kernel
theorem d20_63 : decode jdk_33_method_48_code 63 = .ok (.iconst 4, 1) := by decide +kernel
theorem d20_64 : decode jdk_33_method_48_code 64 = .ok (.if_icmp .le 10, 3) := by decide +kernel
theorem d20_67 : decode jdk_33_method_48_code 67 = .ok (.iinc 1 2, 3) := by decide +kernel
theorem d20_70 : decode jdk_33_method_48_code 70 = .ok (.iload_n 0, 1) := by decide +kernel
theorem d20_71 : decode jdk_33_method_48_code 71 = .ok (.iconst 2, 1) := by decide +kernel
theorem d20_72 : decode jdk_33_method_48_code 72 = .ok (.iushr, 1) := by decide +kernel
theorem d20_73 : decode jdk_33_method_48_code 73 = .ok (.istore_n 0, 1) := by decide +kernel
theorem d20_49 : decode jdk_33_method_48_code 49 = .ok (.iload_n 0, 1) := by decide +kernel
theorem d20_50 : decode jdk_33_method_48_code 50 = .ok (.bipush 16, 2) := by decide +kernel
theorem d20_52 : decode jdk_33_method_48_code 52 = .ok (.if_icmp .le 10, 3) := by decide +kernel
theorem d20_55 : decode jdk_33_method_48_code 55 = .ok (.iinc 1 4, 3) := by decide +kernel
theorem d20_58 : decode jdk_33_method_48_code 58 = .ok (.iload_n 0, 1) := by decide +kernel
theorem d20_59 : decode jdk_33_method_48_code 59 = .ok (.iconst 4, 1) := by decide +kernel
theorem d20_60 : decode jdk_33_method_48_code 60 = .ok (.iushr, 1) := by decide +kernel
theorem d20_61 : decode jdk_33_method_48_code 61 = .ok (.istore_n 0, 1) := by decide +kernel
theorem d20_34 : decode jdk_33_method_48_code 34 = .ok (.iload_n 0, 1) := by decide +kernel
theorem d20_35 : decode jdk_33_method_48_code 35 = .ok (.sipush 256, 3) := by decide +kernel
theorem d20_38 : decode jdk_33_method_48_code 38 = .ok (.if_icmp .le 11, 3) := by decide +kernel
theorem d20_41 : decode jdk_33_method_48_code 41 = .ok (.iinc 1 8, 3) := by decide +kernel
theorem d20_44 : decode jdk_33_method_48_code 44 = .ok (.iload_n 0, 1) := by decide +kernel
theorem d20_45 : decode jdk_33_method_48_code 45 = .ok (.bipush 8, 2) := by decide +kernel
theorem d20_47 : decode jdk_33_method_48_code 47 = .ok (.iushr, 1) := by decide +kernel
theorem d20_48 : decode jdk_33_method_48_code 48 = .ok (.istore_n 0, 1) := by decide +kernel
theorem d20_19 : decode jdk_33_method_48_code 19 = .ok (.iload_n 0, 1) := by decide +kernel
theorem d20_20 : decode jdk_33_method_48_code 20 = .ok (.ldc_w 264, 3) := by decide +kernel
theorem d20_23 : decode jdk_33_method_48_code 23 = .ok (.if_icmp .le 11, 3) := by decide +kernel
theorem d20_26 : decode jdk_33_method_48_code 26 = .ok (.iinc 1 16, 3) := by decide +kernel
theorem d20_29 : decode jdk_33_method_48_code 29 = .ok (.iload_n 0, 1) := by decide +kernel
theorem d20_30 : decode jdk_33_method_48_code 30 = .ok (.bipush 16, 2) := by decide +kernel
theorem d20_32 : decode jdk_33_method_48_code 32 = .ok (.iushr, 1) := by decide +kernel
theorem d20_33 : decode jdk_33_method_48_code 33 = .ok (.istore_n 0, 1) := by decide +kernel
theorem d20_12 : decode jdk_33_method_48_code 12 = .ok (.iload_n 0, 1) := by decide +kernel
theorem d20_13 : decode jdk_33_method_48_code 13 = .ok (.bipush 32, 2) := by decide +kernel
theorem d20_15 : decode jdk_33_method_48_code 15 = .ok (.iand, 1) := by decide +kernel
theorem d20_16 : decode jdk_33_method_48_code 16 = .ok (.ireturn, 1) := by decide +kernel
theorem pn_java_lang_Integer : plainName "java/lang/Integer" = true := by first | (simp [plainName, overriddenIn]; done) | decide +kernel
theorem ef_own_n32M (m : MethodId) (x : Int32)  : entryFrame m #[(.int x)] 2 = mkF m 0 #[iv x, un] [] := by
  first | (simp [entryFrame, mkF, argsToLocals, Value.category]; done) | rfl
set_option maxRecDepth 65536 in
set_option maxHeartbeats 40000000 in
theorem own_n32M (l : Launch) (Z : State) (a0 : Array Value) (hw : ∀ d ∈ tables_1, d.before a0 Z = true) (x : Int32)  (h : Heap) (n0 : Nat) (hn0 : Old Z n0 h)  :
    Con l Z (⟨"java/lang/Integer", "numberOfTrailingZeros", "(I)I"⟩ : MethodName) jdk_33_method_48_code 2 (some .int) ({ frames := 0, cells := 0, slots := 0, locals := 0 } : Room) #[(.int x)] h n0 (fun v h' => v = some (.int (own_n32 x)) ∧ h = h') := by
  refine con_of hw (plainFor_of_name pn_java_lang_Integer) hn0 ?_
  intro p e s m below meth c T0 C X0
  refine Go.cast (congrArg T0.setTop (ef_own_n32M m x)) ?_
  refine go_iloadN C X0 1 rfl d20_0 rfl ?_
  refine go_iconst C X0 2 rfl d20_1 (z := (-1)) rfl ?_
  refine go_ixor C X0 3 rfl d20_2 ?_
  refine go_iloadN C X0 4 rfl d20_3 rfl ?_
  refine go_iconst C X0 5 rfl d20_4 (z := 1) rfl ?_
  refine go_isub C X0 6 rfl d20_5 ?_
  refine go_iand C X0 7 rfl d20_6 ?_
  refine go_istoreN C X0 8 rfl d20_7 #[iv ((x ^^^ (-1 : Int32)) &&& (x - (1 : Int32))), un] rfl ?_
  have hR : own_n32 x = own_g ((x ^^^ (-1 : Int32)) &&& (x - (1 : Int32))) := rfl
  generalize ei0 : ((x ^^^ (-1 : Int32)) &&& (x - (1 : Int32))) = i0 at hR ⊢
  refine go_iloadN C X0 9 rfl d20_8 rfl ?_
  refine go_if_gt C X0 d20_9 (pc' := 12) (pc2 := 17) rfl (by decide) (by decide) (fun (c9 : 0 < i0.toInt) => ?_) (fun (c9 : i0.toInt ≤ 0) => ?_)
  · refine go_iconst C X0 18 rfl d20_17 (z := 1) rfl ?_
    refine go_istoreN C X0 19 rfl d20_18 #[iv i0, iv (1 : Int32)] rfl ?_
    have g0 : own_g4 (own_s 4 2 2 (own_s 16 4 4 (own_s 256 8 8 (own_s 65536 16 16 (i0, 1))))) = own_n32 x := by rw [hR]; unfold own_g; rw [if_pos c9]
    have J1 : ∀ (i1 : Int32) (n1 : Int32) (_ : own_g4 (own_s 4 2 2 (own_s 16 4 4 (own_s 256 8 8 (i1, n1)))) = own_n32 x), Go p e below (FinQ s ({ frames := 0, cells := 0, slots := 0, locals := 0 } : Room).cells ({ frames := 0, cells := 0, slots := 0, locals := 0 } : Room).slots n0 (fun v h' => v = some (.int (own_n32 x)) ∧ h = h')) (T0.setTop (mkF m 34 #[iv i1, iv n1] [])) := by
      intro i1 n1 g1
      have J2 : ∀ (i2 : Int32) (n2 : Int32) (_ : own_g4 (own_s 4 2 2 (own_s 16 4 4 (i2, n2))) = own_n32 x), Go p e below (FinQ s ({ frames := 0, cells := 0, slots := 0, locals := 0 } : Room).cells ({ frames := 0, cells := 0, slots := 0, locals := 0 } : Room).slots n0 (fun v h' => v = some (.int (own_n32 x)) ∧ h = h')) (T0.setTop (mkF m 49 #[iv i2, iv n2] [])) := by
        intro i2 n2 g2
        have J3 : ∀ (i3 : Int32) (n3 : Int32) (_ : own_g4 (own_s 4 2 2 (i3, n3)) = own_n32 x), Go p e below (FinQ s ({ frames := 0, cells := 0, slots := 0, locals := 0 } : Room).cells ({ frames := 0, cells := 0, slots := 0, locals := 0 } : Room).slots n0 (fun v h' => v = some (.int (own_n32 x)) ∧ h = h')) (T0.setTop (mkF m 62 #[iv i3, iv n3] [])) := by
          intro i3 n3 g3
          have J4 : ∀ (i4 : Int32) (n4 : Int32) (_ : own_g4 (i4, n4) = own_n32 x), Go p e below (FinQ s ({ frames := 0, cells := 0, slots := 0, locals := 0 } : Room).cells ({ frames := 0, cells := 0, slots := 0, locals := 0 } : Room).slots n0 (fun v h' => v = some (.int (own_n32 x)) ∧ h = h')) (T0.setTop (mkF m 74 #[iv i4, iv n4] [])) := by
            intro i4 n4 g4
            refine go_iloadN C X0 75 rfl d20_74 rfl ?_
            refine go_iloadN C X0 76 rfl d20_75 rfl ?_
            refine go_iconst C X0 77 rfl d20_76 (z := 1) rfl ?_
            refine go_iushr C X0 78 rfl d20_77 ?_
            refine go_iadd C X0 79 rfl d20_78 ?_
            exact go_retI C X0 d20_79 ⟨congrArg (fun z => some (Value.int z)) (g4), rfl⟩ (by decide) (by decide)
          refine go_iloadN C X0 63 rfl d20_62 rfl ?_
          refine go_iconst C X0 64 rfl d20_63 (z := 4) rfl ?_
          refine go_icmp_le C X0 d20_64 (pc' := 67) (pc2 := 74) rfl (by decide) (by decide) (fun (c64 : i3.toInt ≤ 4) => ?_) (fun (c64 : 4 < i3.toInt) => ?_)
          · exact J4 i3 n3 (by rw [own_s_f (lim := 4) (sh := 2) (ad := 2) (i := i3) (n := n3) c64] at g3; exact g3)
          · refine go_iinc C X0 70 rfl d20_67 rfl (z := 2) rfl #[iv i3, iv (n3 + (2 : Int32))] rfl ?_
            refine go_iloadN C X0 71 rfl d20_70 rfl ?_
            refine go_iconst C X0 72 rfl d20_71 (z := 2) rfl ?_
            refine go_iushr C X0 73 rfl d20_72 ?_
            refine go_istoreN C X0 74 rfl d20_73 #[iv ((i3.toUInt32 >>> ((2 : Int32) &&& 31).toUInt32).toInt32), iv (n3 + (2 : Int32))] rfl ?_
            exact J4 ((i3.toUInt32 >>> ((2 : Int32) &&& 31).toUInt32).toInt32) (n3 + (2 : Int32)) (by rw [own_s_t (lim := 4) (sh := 2) (ad := 2) (i := i3) (n := n3) c64] at g3; exact g3)
        refine go_iloadN C X0 50 rfl d20_49 rfl ?_
        refine go_bipush C X0 52 rfl d20_50 (z := 16) rfl ?_
        refine go_icmp_le C X0 d20_52 (pc' := 55) (pc2 := 62) rfl (by decide) (by decide) (fun (c52 : i2.toInt ≤ 16) => ?_) (fun (c52 : 16 < i2.toInt) => ?_)
        · exact J3 i2 n2 (by rw [own_s_f (lim := 16) (sh := 4) (ad := 4) (i := i2) (n := n2) c52] at g2; exact g2)
        · refine go_iinc C X0 58 rfl d20_55 rfl (z := 4) rfl #[iv i2, iv (n2 + (4 : Int32))] rfl ?_
          refine go_iloadN C X0 59 rfl d20_58 rfl ?_
          refine go_iconst C X0 60 rfl d20_59 (z := 4) rfl ?_
          refine go_iushr C X0 61 rfl d20_60 ?_
          refine go_istoreN C X0 62 rfl d20_61 #[iv ((i2.toUInt32 >>> ((4 : Int32) &&& 31).toUInt32).toInt32), iv (n2 + (4 : Int32))] rfl ?_
          exact J3 ((i2.toUInt32 >>> ((4 : Int32) &&& 31).toUInt32).toInt32) (n2 + (4 : Int32)) (by rw [own_s_t (lim := 16) (sh := 4) (ad := 4) (i := i2) (n := n2) c52] at g2; exact g2)
      refine go_iloadN C X0 35 rfl d20_34 rfl ?_
      refine go_sipush C X0 38 rfl d20_35 (z := 256) rfl ?_
      refine go_icmp_le C X0 d20_38 (pc' := 41) (pc2 := 49) rfl (by decide) (by decide) (fun (c38 : i1.toInt ≤ 256) => ?_) (fun (c38 : 256 < i1.toInt) => ?_)
      · exact J2 i1 n1 (by rw [own_s_f (lim := 256) (sh := 8) (ad := 8) (i := i1) (n := n1) c38] at g1; exact g1)
      · refine go_iinc C X0 44 rfl d20_41 rfl (z := 8) rfl #[iv i1, iv (n1 + (8 : Int32))] rfl ?_
        refine go_iloadN C X0 45 rfl d20_44 rfl ?_
        refine go_bipush C X0 47 rfl d20_45 (z := 8) rfl ?_
        refine go_iushr C X0 48 rfl d20_47 ?_
        refine go_istoreN C X0 49 rfl d20_48 #[iv ((i1.toUInt32 >>> ((8 : Int32) &&& 31).toUInt32).toInt32), iv (n1 + (8 : Int32))] rfl ?_
        exact J2 ((i1.toUInt32 >>> ((8 : Int32) &&& 31).toUInt32).toInt32) (n1 + (8 : Int32)) (by rw [own_s_t (lim := 256) (sh := 8) (ad := 8) (i := i1) (n := n1) c38] at g1; exact g1)
    refine go_iloadN C X0 20 rfl d20_19 rfl ?_
    refine go_ldcwInt C X0 (C.w 95 rfl) (pc' := 23) rfl d20_20 ?_
    refine go_icmp_le C X0 d20_23 (pc' := 26) (pc2 := 34) rfl (by decide) (by decide) (fun (c23 : i0.toInt ≤ 65536) => ?_) (fun (c23 : 65536 < i0.toInt) => ?_)
    · exact J1 i0 (1 : Int32) (by rw [own_s_f (lim := 65536) (sh := 16) (ad := 16) (i := i0) (n := (1 : Int32)) c23] at g0; exact g0)
    · refine go_iinc C X0 29 rfl d20_26 rfl (z := 16) rfl #[iv i0, iv (17 : Int32)] rfl ?_
      refine go_iloadN C X0 30 rfl d20_29 rfl ?_
      refine go_bipush C X0 32 rfl d20_30 (z := 16) rfl ?_
      refine go_iushr C X0 33 rfl d20_32 ?_
      refine go_istoreN C X0 34 rfl d20_33 #[iv ((i0.toUInt32 >>> ((16 : Int32) &&& 31).toUInt32).toInt32), iv (17 : Int32)] rfl ?_
      exact J1 ((i0.toUInt32 >>> ((16 : Int32) &&& 31).toUInt32).toInt32) (17 : Int32) (by rw [own_s_t (lim := 65536) (sh := 16) (ad := 16) (i := i0) (n := (1 : Int32)) c23] at g0; exact g0)
  · refine go_iloadN C X0 13 rfl d20_12 rfl ?_
    refine go_bipush C X0 15 rfl d20_13 (z := 32) rfl ?_
    refine go_iand C X0 16 rfl d20_15 ?_
    exact go_retI C X0 d20_16 ⟨by rw [hR]; unfold own_g; rw [if_neg (by omega)], rfl⟩ (by decide) (by decide)
theorem d19_0 : decode jdk_35_method_49_code 0 = .ok (.lload_n 0, 1) := by decide +kernel
theorem d19_1 : decode jdk_35_method_49_code 1 = .ok (.l2i, 1) := by decide +kernel
theorem d19_2 : decode jdk_35_method_49_code 2 = .ok (.istore_n 2, 1) := by decide +kernel
theorem d19_3 : decode jdk_35_method_49_code 3 = .ok (.iload_n 2, 1) := by decide +kernel
theorem d19_4 : decode jdk_35_method_49_code 4 = .ok (.ifCond .ne 17, 3) := by decide +kernel
theorem d19_21 : decode jdk_35_method_49_code 21 = .ok (.iload_n 2, 1) := by decide +kernel
theorem d19_22 : decode jdk_35_method_49_code 22 = .ok (.invokestatic 311, 3) := by decide +kernel
theorem d19_25 : decode jdk_35_method_49_code 25 = .ok (.ireturn, 1) := by decide +kernel
theorem d19_7 : decode jdk_35_method_49_code 7 = .ok (.bipush 32, 2) := by decide +kernel
theorem d19_9 : decode jdk_35_method_49_code 9 = .ok (.lload_n 0, 1) := by decide +kernel
theorem d19_10 : decode jdk_35_method_49_code 10 = .ok (.bipush 32, 2) := by decide +kernel
theorem d19_12 : decode jdk_35_method_49_code 12 = .ok (.lushr, 1) := by decide +kernel
theorem d19_13 : decode jdk_35_method_49_code 13 = .ok (.l2i, 1) := by decide +kernel
theorem d19_14 : decode jdk_35_method_49_code 14 = .ok (.invokestatic 311, 3) := by decide +kernel
theorem d19_17 : decode jdk_35_method_49_code 17 = .ok (.iadd, 1) := by decide +kernel
theorem d19_18 : decode jdk_35_method_49_code 18 = .ok (.goto 7, 3) := by decide +kernel
theorem pn_java_lang_Long : plainName "java/lang/Long" = true := by first | (simp [plainName, overriddenIn]; done) | decide +kernel
theorem ef_own_n64M (m : MethodId) (x : Int64)  : entryFrame m #[(.long x)] 3 = mkF m 0 #[jv x, sc, un] [] := by
  first | (simp [entryFrame, mkF, argsToLocals, Value.category]; done) | rfl
set_option maxRecDepth 65536 in
set_option maxHeartbeats 40000000 in
theorem own_n64M (l : Launch) (Z : State) (a0 : Array Value) (hw : ∀ d ∈ tables_1, d.before a0 Z = true) (x : Int64)  (h : Heap) (n0 : Nat) (hn0 : Old Z n0 h)  :
    Con l Z (⟨"java/lang/Long", "numberOfTrailingZeros", "(J)I"⟩ : MethodName) jdk_35_method_49_code 3 (some .int) ({ frames := 1, cells := 0, slots := 0, locals := 14 } : Room) #[(.long x)] h n0 (fun v h' => v = some (.int (own_n64 x)) ∧ h = h') := by
  refine con_of hw (plainFor_of_name pn_java_lang_Long) hn0 ?_
  intro p e s m below meth c T0 C X0
  refine Go.cast (congrArg T0.setTop (ef_own_n64M m x)) ?_
  refine go_lloadN C X0 1 rfl d19_0 rfl ?_
  refine go_l2i C X0 2 rfl d19_1 ?_
  refine go_istoreN C X0 3 rfl d19_2 #[jv x, sc, iv (x.toInt32)] rfl ?_
  refine go_iloadN C X0 4 rfl d19_3 rfl ?_
  refine go_if_ne C X0 d19_4 (pc' := 7) (pc2 := 21) rfl (by decide) (by decide) (fun (c4 : ¬ (x.toInt32) = (0 : Int32)) => ?_) (fun (c4 : (x.toInt32) = (0 : Int32)) => ?_)
  · refine go_iloadN C X0 22 rfl d19_21 rfl ?_
    refine go_callS C X0 (C.w 90 rfl) (C.w 91 rfl) (C.w 92 rfl) (C.w 93 rfl) (own_n32M l Z a0 C.ws (x.toInt32) h n0 X0.old ) (argsL := [(.int (x.toInt32))]) (rest := []) (lenOf pd_4 rfl) rfl (by decide) (by decide) (Nat.le_of_ble_eq_true rfl) (by decide) (by decide) rfl rfl (pc' := 25) rfl d19_22 ?_
    rintro T1 _ _ ⟨rfl, rfl⟩ X2
    show Go p e below _ (T1.setTop (mkF m 25 #[jv x, sc, iv (x.toInt32)] [(.int (own_n32 (x.toInt32)))]))
    exact go_retI C X2 d19_25 ⟨by unfold own_n64; first | rw [if_pos c4] | rw [if_neg c4], rfl⟩ (by decide) (by decide)
  · refine go_bipush C X0 9 rfl d19_7 (z := 32) rfl ?_
    refine go_lloadN C X0 10 rfl d19_9 rfl ?_
    refine go_bipush C X0 12 rfl d19_10 (z := 32) rfl ?_
    refine go_lushr C X0 13 rfl d19_12 ?_
    refine go_l2i C X0 14 rfl d19_13 ?_
    refine go_callS C X0 (C.w 90 rfl) (C.w 91 rfl) (C.w 92 rfl) (C.w 93 rfl) (own_n32M l Z a0 C.ws (((x.toUInt64 >>> ((32 : Int32) &&& 0x3f).toInt64.toUInt64).toInt64).toInt32) h n0 X0.old ) (argsL := [(.int (((x.toUInt64 >>> ((32 : Int32) &&& 0x3f).toInt64.toUInt64).toInt64).toInt32))]) (rest := [(.int (32 : Int32))]) (lenOf pd_4 rfl) rfl (by decide) (by decide) (Nat.le_of_ble_eq_true rfl) (by decide) (by decide) rfl rfl (pc' := 17) rfl d19_14 ?_
    rintro T4 _ _ ⟨rfl, rfl⟩ X5
    show Go p e below _ (T4.setTop (mkF m 17 #[jv x, sc, iv (x.toInt32)] [(.int (own_n32 (((x.toUInt64 >>> ((32 : Int32) &&& 0x3f).toInt64.toUInt64).toInt64).toInt32))), (.int (32 : Int32))]))
    refine go_iadd C X5 18 rfl d19_17 ?_
    refine go_goto C X5 d19_18 (pc' := 25) (by decide) (by decide) ?_
    exact go_retI C X5 d19_25 ⟨by unfold own_n64; first | rw [if_pos c4] | rw [if_neg c4], rfl⟩ (by decide) (by decide)
theorem d21_0 : decode prog_27_method_8_code 0 = .ok (.lload_n 1, 1) := by decide +kernel
theorem d21_1 : decode prog_27_method_8_code 1 = .ok (.bipush 6, 2) := by decide +kernel
theorem d21_3 : decode prog_27_method_8_code 3 = .ok (.lushr, 1) := by decide +kernel
theorem d21_4 : decode prog_27_method_8_code 4 = .ok (.lstore_n 3, 1) := by decide +kernel
theorem d21_5 : decode prog_27_method_8_code 5 = .ok (.aload_n 0, 1) := by decide +kernel
theorem d21_6 : decode prog_27_method_8_code 6 = .ok (.getfield 13, 3) := by decide +kernel
theorem d21_9 : decode prog_27_method_8_code 9 = .ok (.lload_n 3, 1) := by decide +kernel
theorem pd_6 : parseMethodDescriptor "([JJ)J" = some ⟨[(.array .long), .long], some .long⟩ := by decide +kernel
theorem d21_10 : decode prog_27_method_8_code 10 = .ok (.invokestatic 25, 3) := by decide +kernel
theorem d21_13 : decode prog_27_method_8_code 13 = .ok (.ldc2_w 23, 3) := by decide +kernel
theorem d21_16 : decode prog_27_method_8_code 16 = .ok (.lload_n 1, 1) := by decide +kernel
theorem d21_17 : decode prog_27_method_8_code 17 = .ok (.l2i, 1) := by decide +kernel
theorem d21_18 : decode prog_27_method_8_code 18 = .ok (.lshl, 1) := by decide +kernel
theorem d21_19 : decode prog_27_method_8_code 19 = .ok (.land, 1) := by decide +kernel
theorem d21_20 : decode prog_27_method_8_code 20 = .ok (.lstore 5, 2) := by decide +kernel
theorem d21_22 : decode prog_27_method_8_code 22 = .ok (.lload 5, 2) := by decide +kernel
theorem d21_24 : decode prog_27_method_8_code 24 = .ok (.lconst 0, 1) := by decide +kernel
theorem d21_25 : decode prog_27_method_8_code 25 = .ok (.lcmp, 1) := by decide +kernel
theorem d21_26 : decode prog_27_method_8_code 26 = .ok (.ifCond .ne 21, 3) := by decide +kernel
theorem d21_47 : decode prog_27_method_8_code 47 = .ok (.lload_n 3, 1) := by decide +kernel
theorem d21_48 : decode prog_27_method_8_code 48 = .ok (.ldc2_w 35, 3) := by decide +kernel
theorem d21_51 : decode prog_27_method_8_code 51 = .ok (.lmul, 1) := by decide +kernel
theorem d21_52 : decode prog_27_method_8_code 52 = .ok (.lload 5, 2) := by decide +kernel
theorem pd_7 : parseMethodDescriptor "(J)I" = some ⟨[.long], some .int⟩ := by decide +kernel
theorem d21_54 : decode prog_27_method_8_code 54 = .ok (.invokestatic 37, 3) := by decide +kernel
theorem d21_57 : decode prog_27_method_8_code 57 = .ok (.i2l, 1) := by decide +kernel
theorem d21_58 : decode prog_27_method_8_code 58 = .ok (.ladd, 1) := by decide +kernel
theorem d21_59 : decode prog_27_method_8_code 59 = .ok (.lreturn, 1) := by decide +kernel
theorem ef_own_nw (m : MethodId) (a : Addr) (p1 : Int64)  : entryFrame m #[(.ref a), (.long p1)] 7 = mkF m 0 #[rv a, jv p1, sc, un, un, un, un] [] := by
  first | (simp [entryFrame, mkF, argsToLocals, Value.category]; done) | rfl
set_option maxRecDepth 65536 in
set_option maxHeartbeats 40000000 in
theorem own_nw (l : Launch) (Z : State) (a0 : Array Value) (hw : ∀ d ∈ tables_1, d.before a0 Z = true) (a : Addr) (p1 : Int64) (b2 : Addr) (h : Heap) (n0 : Nat) (hn0 : Old Z n0 h) (F2 : Fld Z h a "com/example/tokushima/tokushima/SummaryBitmap" "words" "[J" (.ref b2)) (A2 : La Z h b2 .long (ja [-1])) (q0 : 0 ≤ p1.toInt) :
    Con l Z (⟨"com/example/tokushima/tokushima/SummaryBitmap", "nextWord", "(J)J"⟩ : MethodName) prog_27_method_8_code 7 (some .long) ({ frames := 2, cells := 0, slots := 0, locals := 30 } : Room) #[(.ref a), (.long p1)] h n0 (fun v h' => v = some (.long p1) ∧ h = h') := by
  refine con_of hw (plainFor_of_name pn_com_example_tokushima_tokushima_SummaryBitmap) hn0 ?_
  intro p e s m below meth c T0 C X0
  refine Go.cast (congrArg T0.setTop (ef_own_nw m a p1)) ?_
  refine go_lloadN C X0 1 rfl d21_0 rfl ?_
  refine go_bipush C X0 3 rfl d21_1 (z := 6) rfl ?_
  refine go_lushr C X0 4 rfl d21_3 ?_
  refine go_lstoreN C X0 5 rfl d21_4 #[rv a, jv p1, sc, jv ((p1.toUInt64 >>> ((6 : Int32) &&& 0x3f).toInt64.toUInt64).toInt64), sc, un, un] rfl ?_
  show Go p e below _ (T0.setTop (mkF m 5 #[rv a, jv p1, sc, jv (own_w64 p1), sc, un, un] []))
  refine go_aloadN C X0 6 rfl d21_5 rfl rfl ?_
  refine go_getF C X0 (C.w 17 rfl) Via.refl F2 (pc' := 9) rfl d21_6 (fun T1 X2 => ?_)
  refine go_lloadN C X2 10 rfl d21_9 rfl ?_
  refine go_callS C X2 (C.w 67 rfl) (C.w 68 rfl) (C.w 7 rfl) (C.w 69 rfl) (own_word l Z a0 C.ws b2 (own_w64 p1) [-1] h n0 X2.old A2 (own_w64_0 q0)) (argsL := [(.ref b2), (.long (own_w64 p1))]) (rest := []) (lenOf pd_6 rfl) rfl (by decide) (by decide) (Nat.le_of_ble_eq_true rfl) (by decide) (by decide) rfl rfl (pc' := 13) rfl d21_10 ?_
  rintro T3 _ _ ⟨rfl, rfl⟩ X4
  show Go p e below _ (T3.setTop (mkF m 13 #[rv a, jv p1, sc, jv (own_w64 p1), sc, un, un] [(.long (own_wat [-1] (own_w64 p1)))]))
  refine go_ldc2Long C X4 (C.w 44 rfl) (pc' := 16) rfl d21_13 ?_
  refine go_lloadN C X4 17 rfl d21_16 rfl ?_
  refine go_l2i C X4 18 rfl d21_17 ?_
  refine go_lshl C X4 19 rfl d21_18 ?_
  refine go_land C X4 20 rfl d21_19 ?_
  refine go_lstore C X4 22 rfl d21_20 #[rv a, jv p1, sc, jv (own_w64 p1), sc, jv ((own_wat [-1] (own_w64 p1)) &&& ((-1 : Int64) <<< ((p1.toInt32) &&& 0x3f).toInt64)), sc] rfl ?_
  show Go p e below _ (T3.setTop (mkF m 22 #[rv a, jv p1, sc, jv (own_w64 p1), sc, jv (own_from [-1] p1), sc] []))
  refine go_lload C X4 24 rfl d21_22 rfl ?_
  refine go_lconst C X4 25 rfl d21_24 (z := 0) rfl ?_
  refine go_lif_ne C X4 (pc1 := 26) rfl d21_25 d21_26 (pc' := 29) (pc2 := 47) rfl (by decide) (by decide) (fun (c26 : ¬ (own_from [-1] p1) = (0 : Int64)) => ?_) (fun (c26 : (own_from [-1] p1) = (0 : Int64)) => False.elim (own_nw_nz q0 c26))
  refine go_lloadN C X4 48 rfl d21_47 rfl ?_
  refine go_ldc2Long C X4 (C.w 29 rfl) (pc' := 51) rfl d21_48 ?_
  refine go_lmul C X4 52 rfl d21_51 ?_
  refine go_lload C X4 54 rfl d21_52 rfl ?_
  refine go_callS C X4 (C.w 86 rfl) (C.w 87 rfl) (C.w 88 rfl) (C.w 89 rfl) (own_n64M l Z a0 C.ws (own_from [-1] p1) h n0 X4.old ) (argsL := [(.long (own_from [-1] p1))]) (rest := [(.long ((own_w64 p1) * (64 : Int64)))]) (lenOf pd_7 rfl) rfl (by decide) (by decide) (Nat.le_of_ble_eq_true rfl) (by decide) (by decide) rfl rfl (pc' := 57) rfl d21_54 ?_
  rintro T6 _ _ ⟨rfl, rfl⟩ X7
  show Go p e below _ (T6.setTop (mkF m 57 #[rv a, jv p1, sc, jv (own_w64 p1), sc, jv (own_from [-1] p1), sc] [(.int (own_n64 (own_from [-1] p1))), (.long ((own_w64 p1) * (64 : Int64)))]))
  refine go_i2l C X7 58 rfl d21_57 ?_
  refine go_ladd C X7 59 rfl d21_58 ?_
  exact go_retJ C X7 d21_59 ⟨congrArg (fun z => some (Value.long z)) (own_nw_eq q0), rfl⟩ (by decide) (by decide)
theorem d18_0 : decode prog_27_method_5_code 0 = .ok (.lload_n 1, 1) := by decide +kernel
theorem d18_1 : decode prog_27_method_5_code 1 = .ok (.bipush 6, 2) := by decide +kernel
theorem d18_3 : decode prog_27_method_5_code 3 = .ok (.lushr, 1) := by decide +kernel
theorem d18_4 : decode prog_27_method_5_code 4 = .ok (.lstore_n 3, 1) := by decide +kernel
theorem d18_5 : decode prog_27_method_5_code 5 = .ok (.aload_n 0, 1) := by decide +kernel
theorem d18_6 : decode prog_27_method_5_code 6 = .ok (.getfield 7, 3) := by decide +kernel
theorem d18_9 : decode prog_27_method_5_code 9 = .ok (.lload_n 3, 1) := by decide +kernel
theorem d18_10 : decode prog_27_method_5_code 10 = .ok (.invokestatic 25, 3) := by decide +kernel
theorem d18_13 : decode prog_27_method_5_code 13 = .ok (.ldc2_w 23, 3) := by decide +kernel
theorem d18_16 : decode prog_27_method_5_code 16 = .ok (.lload_n 1, 1) := by decide +kernel
theorem d18_17 : decode prog_27_method_5_code 17 = .ok (.l2i, 1) := by decide +kernel
theorem d18_18 : decode prog_27_method_5_code 18 = .ok (.lshl, 1) := by decide +kernel
theorem d18_19 : decode prog_27_method_5_code 19 = .ok (.land, 1) := by decide +kernel
theorem d18_20 : decode prog_27_method_5_code 20 = .ok (.lstore 5, 2) := by decide +kernel
theorem d18_22 : decode prog_27_method_5_code 22 = .ok (.lload 5, 2) := by decide +kernel
theorem d18_24 : decode prog_27_method_5_code 24 = .ok (.lconst 0, 1) := by decide +kernel
theorem d18_25 : decode prog_27_method_5_code 25 = .ok (.lcmp, 1) := by decide +kernel
theorem d18_26 : decode prog_27_method_5_code 26 = .ok (.ifCond .ne 21, 3) := by decide +kernel
theorem d18_47 : decode prog_27_method_5_code 47 = .ok (.lload_n 3, 1) := by decide +kernel
theorem d18_48 : decode prog_27_method_5_code 48 = .ok (.ldc2_w 35, 3) := by decide +kernel
theorem d18_51 : decode prog_27_method_5_code 51 = .ok (.lmul, 1) := by decide +kernel
theorem d18_52 : decode prog_27_method_5_code 52 = .ok (.lload 5, 2) := by decide +kernel
theorem d18_54 : decode prog_27_method_5_code 54 = .ok (.invokestatic 37, 3) := by decide +kernel
theorem d18_57 : decode prog_27_method_5_code 57 = .ok (.i2l, 1) := by decide +kernel
theorem d18_58 : decode prog_27_method_5_code 58 = .ok (.ladd, 1) := by decide +kernel
theorem d18_59 : decode prog_27_method_5_code 59 = .ok (.lreturn, 1) := by decide +kernel
theorem d18_29 : decode prog_27_method_5_code 29 = .ok (.aload_n 0, 1) := by decide +kernel
theorem d18_30 : decode prog_27_method_5_code 30 = .ok (.lload_n 3, 1) := by decide +kernel
theorem d18_31 : decode prog_27_method_5_code 31 = .ok (.lconst 1, 1) := by decide +kernel
theorem d18_32 : decode prog_27_method_5_code 32 = .ok (.ladd, 1) := by decide +kernel
theorem pd_8 : parseMethodDescriptor "(J)J" = some ⟨[.long], some .long⟩ := by decide +kernel
theorem d18_33 : decode prog_27_method_5_code 33 = .ok (.invokevirtual 29, 3) := by decide +kernel
theorem d18_36 : decode prog_27_method_5_code 36 = .ok (.lstore_n 3, 1) := by decide +kernel
theorem d18_37 : decode prog_27_method_5_code 37 = .ok (.aload_n 0, 1) := by decide +kernel
theorem d18_38 : decode prog_27_method_5_code 38 = .ok (.getfield 7, 3) := by decide +kernel
theorem d18_41 : decode prog_27_method_5_code 41 = .ok (.lload_n 3, 1) := by decide +kernel
theorem d18_42 : decode prog_27_method_5_code 42 = .ok (.invokestatic 25, 3) := by decide +kernel
theorem d18_45 : decode prog_27_method_5_code 45 = .ok (.lstore 5, 2) := by decide +kernel
theorem ef_own_nextM (m : MethodId) (a : Addr) (p1 : Int64)  : entryFrame m #[(.ref a), (.long p1)] 7 = mkF m 0 #[rv a, jv p1, sc, un, un, un, un] [] := by
  first | (simp [entryFrame, mkF, argsToLocals, Value.category]; done) | rfl
set_option maxRecDepth 65536 in
set_option maxHeartbeats 40000000 in
theorem own_nextM (l : Launch) (Z : State) (a0 : Array Value) (hw : ∀ d ∈ tables_1, d.before a0 Z = true) (a : Addr) (p1 : Int64) (b1 b2 : Addr) (bs : List Int64) (h : Heap) (n0 : Nat) (hn0 : Old Z n0 h) (E0 : Exa Z h a "com/example/tokushima/tokushima/SummaryBitmap") (F2 : Fld Z h a "com/example/tokushima/tokushima/SummaryBitmap" "words" "[J" (.ref b2)) (A2 : La Z h b2 .long (ja [-1])) (F1 : Fld Z h a "com/example/tokushima/tokushima/SummaryBitmap" "bits" "[J" (.ref b1)) (A1 : La Z h b1 .long (ja bs)) (q0 : 0 ≤ p1.toInt) :
    Con l Z (⟨"com/example/tokushima/tokushima/SummaryBitmap", "next", "(J)J"⟩ : MethodName) prog_27_method_5_code 7 (some .long) ({ frames := 3, cells := 0, slots := 0, locals := 48 } : Room) #[(.ref a), (.long p1)] h n0 (fun v h' => v = some (.long (own_next bs p1)) ∧ h = h') := by
  refine con_of hw (plainFor_of_name pn_com_example_tokushima_tokushima_SummaryBitmap) hn0 ?_
  intro p e s m below meth c T0 C X0
  refine Go.cast (congrArg T0.setTop (ef_own_nextM m a p1)) ?_
  refine go_lloadN C X0 1 rfl d18_0 rfl ?_
  refine go_bipush C X0 3 rfl d18_1 (z := 6) rfl ?_
  refine go_lushr C X0 4 rfl d18_3 ?_
  refine go_lstoreN C X0 5 rfl d18_4 #[rv a, jv p1, sc, jv ((p1.toUInt64 >>> ((6 : Int32) &&& 0x3f).toInt64.toUInt64).toInt64), sc, un, un] rfl ?_
  show Go p e below _ (T0.setTop (mkF m 5 #[rv a, jv p1, sc, jv (own_w64 p1), sc, un, un] []))
  refine go_aloadN C X0 6 rfl d18_5 rfl rfl ?_
  refine go_getF C X0 (C.w 15 rfl) Via.refl F1 (pc' := 9) rfl d18_6 (fun T1 X2 => ?_)
  refine go_lloadN C X2 10 rfl d18_9 rfl ?_
  refine go_callS C X2 (C.w 67 rfl) (C.w 68 rfl) (C.w 7 rfl) (C.w 69 rfl) (own_word l Z a0 C.ws b1 (own_w64 p1) bs h n0 X2.old A1 (own_w64_0 q0)) (argsL := [(.ref b1), (.long (own_w64 p1))]) (rest := []) (lenOf pd_6 rfl) rfl (by decide) (by decide) (Nat.le_of_ble_eq_true rfl) (by decide) (by decide) rfl rfl (pc' := 13) rfl d18_10 ?_
  rintro T3 _ _ ⟨rfl, rfl⟩ X4
  show Go p e below _ (T3.setTop (mkF m 13 #[rv a, jv p1, sc, jv (own_w64 p1), sc, un, un] [(.long (own_wat bs (own_w64 p1)))]))
  refine go_ldc2Long C X4 (C.w 44 rfl) (pc' := 16) rfl d18_13 ?_
  refine go_lloadN C X4 17 rfl d18_16 rfl ?_
  refine go_l2i C X4 18 rfl d18_17 ?_
  refine go_lshl C X4 19 rfl d18_18 ?_
  refine go_land C X4 20 rfl d18_19 ?_
  refine go_lstore C X4 22 rfl d18_20 #[rv a, jv p1, sc, jv (own_w64 p1), sc, jv ((own_wat bs (own_w64 p1)) &&& ((-1 : Int64) <<< ((p1.toInt32) &&& 0x3f).toInt64)), sc] rfl ?_
  show Go p e below _ (T3.setTop (mkF m 22 #[rv a, jv p1, sc, jv (own_w64 p1), sc, jv (own_from bs p1), sc] []))
  refine go_lload C X4 24 rfl d18_22 rfl ?_
  refine go_lconst C X4 25 rfl d18_24 (z := 0) rfl ?_
  refine go_lif_ne C X4 (pc1 := 26) rfl d18_25 d18_26 (pc' := 29) (pc2 := 47) rfl (by decide) (by decide) (fun (c26 : ¬ (own_from bs p1) = (0 : Int64)) => ?_) (fun (c26 : (own_from bs p1) = (0 : Int64)) => ?_)
  · refine go_lloadN C X4 48 rfl d18_47 rfl ?_
    refine go_ldc2Long C X4 (C.w 29 rfl) (pc' := 51) rfl d18_48 ?_
    refine go_lmul C X4 52 rfl d18_51 ?_
    refine go_lload C X4 54 rfl d18_52 rfl ?_
    refine go_callS C X4 (C.w 86 rfl) (C.w 87 rfl) (C.w 88 rfl) (C.w 89 rfl) (own_n64M l Z a0 C.ws (own_from bs p1) h n0 X4.old ) (argsL := [(.long (own_from bs p1))]) (rest := [(.long ((own_w64 p1) * (64 : Int64)))]) (lenOf pd_7 rfl) rfl (by decide) (by decide) (Nat.le_of_ble_eq_true rfl) (by decide) (by decide) rfl rfl (pc' := 57) rfl d18_54 ?_
    rintro T6 _ _ ⟨rfl, rfl⟩ X7
    show Go p e below _ (T6.setTop (mkF m 57 #[rv a, jv p1, sc, jv (own_w64 p1), sc, jv (own_from bs p1), sc] [(.int (own_n64 (own_from bs p1))), (.long ((own_w64 p1) * (64 : Int64)))]))
    refine go_i2l C X7 58 rfl d18_57 ?_
    refine go_ladd C X7 59 rfl d18_58 ?_
    exact go_retJ C X7 d18_59 ⟨by unfold own_next; first | rw [if_pos c26] | rw [if_neg c26], rfl⟩ (by decide) (by decide)
  · refine go_aloadN C X4 30 rfl d18_29 rfl rfl ?_
    refine go_lloadN C X4 31 rfl d18_30 rfl ?_
    refine go_lconst C X4 32 rfl d18_31 (z := 1) rfl ?_
    refine go_ladd C X4 33 rfl d18_32 ?_
    refine go_private C X4 E0 (C.w 96 rfl) (C.w 97 rfl) (Jvm.Kit.selects_private (by decide) (C.w 6 rfl) (C.w 98 rfl) (C.w 97 rfl)) (C.w 98 rfl) (C.w 7 rfl) (C.w 99 rfl) (own_nw l Z a0 C.ws a ((own_w64 p1) + (1 : Int64)) b2 h n0 X4.old F2 A2 (own_w64_1 q0)) (argsL := [(.long ((own_w64 p1) + (1 : Int64)))]) (rest := []) (lenOf pd_8 rfl) rfl (by decide) (by decide) (Nat.le_of_ble_eq_true rfl) (by decide) (by decide) rfl rfl (pc' := 36) rfl d18_33 ?_
    rintro T9 _ _ ⟨rfl, rfl⟩ X10
    show Go p e below _ (T9.setTop (mkF m 36 #[rv a, jv p1, sc, jv (own_w64 p1), sc, jv (own_from bs p1), sc] [(.long ((own_w64 p1) + (1 : Int64)))]))
    refine go_lstoreN C X10 37 rfl d18_36 #[rv a, jv p1, sc, jv ((own_w64 p1) + (1 : Int64)), sc, jv (own_from bs p1), sc] rfl ?_
    refine go_aloadN C X10 38 rfl d18_37 rfl rfl ?_
    refine go_getF C X10 (C.w 15 rfl) Via.refl F1 (pc' := 41) rfl d18_38 (fun T12 X13 => ?_)
    refine go_lloadN C X13 42 rfl d18_41 rfl ?_
    refine go_callS C X13 (C.w 67 rfl) (C.w 68 rfl) (C.w 7 rfl) (C.w 69 rfl) (own_word l Z a0 C.ws b1 ((own_w64 p1) + (1 : Int64)) bs h n0 X13.old A1 (own_w64_1 q0)) (argsL := [(.ref b1), (.long ((own_w64 p1) + (1 : Int64)))]) (rest := []) (lenOf pd_6 rfl) rfl (by decide) (by decide) (Nat.le_of_ble_eq_true rfl) (by decide) (by decide) rfl rfl (pc' := 45) rfl d18_42 ?_
    rintro T14 _ _ ⟨rfl, rfl⟩ X15
    show Go p e below _ (T14.setTop (mkF m 45 #[rv a, jv p1, sc, jv ((own_w64 p1) + (1 : Int64)), sc, jv (own_from bs p1), sc] [(.long (own_wat bs ((own_w64 p1) + (1 : Int64))))]))
    refine go_lstore C X15 47 rfl d18_45 #[rv a, jv p1, sc, jv ((own_w64 p1) + (1 : Int64)), sc, jv (own_wat bs ((own_w64 p1) + (1 : Int64))), sc] rfl ?_
    refine go_lloadN C X15 48 rfl d18_47 rfl ?_
    refine go_ldc2Long C X15 (C.w 29 rfl) (pc' := 51) rfl d18_48 ?_
    refine go_lmul C X15 52 rfl d18_51 ?_
    refine go_lload C X15 54 rfl d18_52 rfl ?_
    refine go_callS C X15 (C.w 86 rfl) (C.w 87 rfl) (C.w 88 rfl) (C.w 89 rfl) (own_n64M l Z a0 C.ws (own_wat bs ((own_w64 p1) + (1 : Int64))) h n0 X15.old ) (argsL := [(.long (own_wat bs ((own_w64 p1) + (1 : Int64))))]) (rest := [(.long (((own_w64 p1) + (1 : Int64)) * (64 : Int64)))]) (lenOf pd_7 rfl) rfl (by decide) (by decide) (Nat.le_of_ble_eq_true rfl) (by decide) (by decide) rfl rfl (pc' := 57) rfl d18_54 ?_
    rintro T17 _ _ ⟨rfl, rfl⟩ X18
    show Go p e below _ (T17.setTop (mkF m 57 #[rv a, jv p1, sc, jv ((own_w64 p1) + (1 : Int64)), sc, jv (own_wat bs ((own_w64 p1) + (1 : Int64))), sc] [(.int (own_n64 (own_wat bs ((own_w64 p1) + (1 : Int64))))), (.long (((own_w64 p1) + (1 : Int64)) * (64 : Int64)))]))
    refine go_i2l C X18 58 rfl d18_57 ?_
    refine go_ladd C X18 59 rfl d18_58 ?_
    exact go_retJ C X18 d18_59 ⟨by unfold own_next; first | rw [if_pos c26] | rw [if_neg c26], rfl⟩ (by decide) (by decide)
theorem d13_0 : decode prog_27_method_6_code 0 = .ok (.lload_n 1, 1) := by decide +kernel
theorem d13_1 : decode prog_27_method_6_code 1 = .ok (.bipush 6, 2) := by decide +kernel
theorem d13_3 : decode prog_27_method_6_code 3 = .ok (.lushr, 1) := by decide +kernel
theorem d13_4 : decode prog_27_method_6_code 4 = .ok (.lstore_n 3, 1) := by decide +kernel
theorem d13_5 : decode prog_27_method_6_code 5 = .ok (.lload_n 1, 1) := by decide +kernel
theorem d13_6 : decode prog_27_method_6_code 6 = .ok (.ldc2_w 41, 3) := by decide +kernel
theorem d13_9 : decode prog_27_method_6_code 9 = .ok (.land, 1) := by decide +kernel
theorem d13_10 : decode prog_27_method_6_code 10 = .ok (.l2i, 1) := by decide +kernel
theorem d13_11 : decode prog_27_method_6_code 11 = .ok (.istore 5, 2) := by decide +kernel
theorem d13_13 : decode prog_27_method_6_code 13 = .ok (.aload_n 0, 1) := by decide +kernel
theorem d13_14 : decode prog_27_method_6_code 14 = .ok (.getfield 7, 3) := by decide +kernel
theorem d13_17 : decode prog_27_method_6_code 17 = .ok (.lload_n 3, 1) := by decide +kernel
theorem d13_18 : decode prog_27_method_6_code 18 = .ok (.invokestatic 25, 3) := by decide +kernel
theorem d13_21 : decode prog_27_method_6_code 21 = .ok (.iload 5, 2) := by decide +kernel
theorem d13_23 : decode prog_27_method_6_code 23 = .ok (.lushr, 1) := by decide +kernel
theorem d13_24 : decode prog_27_method_6_code 24 = .ok (.lstore 6, 2) := by decide +kernel
theorem d13_26 : decode prog_27_method_6_code 26 = .ok (.iload 5, 2) := by decide +kernel
theorem d13_28 : decode prog_27_method_6_code 28 = .ok (.ifCond .eq 24, 3) := by decide +kernel
theorem d13_52 : decode prog_27_method_6_code 52 = .ok (.lload 6, 2) := by decide +kernel
theorem d13_54 : decode prog_27_method_6_code 54 = .ok (.lreturn, 1) := by decide +kernel
theorem d13_31 : decode prog_27_method_6_code 31 = .ok (.lload 6, 2) := by decide +kernel
theorem d13_33 : decode prog_27_method_6_code 33 = .ok (.aload_n 0, 1) := by decide +kernel
theorem d13_34 : decode prog_27_method_6_code 34 = .ok (.getfield 7, 3) := by decide +kernel
theorem d13_37 : decode prog_27_method_6_code 37 = .ok (.lload_n 3, 1) := by decide +kernel
theorem d13_38 : decode prog_27_method_6_code 38 = .ok (.lconst 1, 1) := by decide +kernel
theorem d13_39 : decode prog_27_method_6_code 39 = .ok (.ladd, 1) := by decide +kernel
theorem d13_40 : decode prog_27_method_6_code 40 = .ok (.invokestatic 25, 3) := by decide +kernel
theorem d13_43 : decode prog_27_method_6_code 43 = .ok (.bipush 64, 2) := by decide +kernel
theorem d13_45 : decode prog_27_method_6_code 45 = .ok (.iload 5, 2) := by decide +kernel
theorem d13_47 : decode prog_27_method_6_code 47 = .ok (.isub, 1) := by decide +kernel
theorem d13_48 : decode prog_27_method_6_code 48 = .ok (.lshl, 1) := by decide +kernel
theorem d13_49 : decode prog_27_method_6_code 49 = .ok (.lor, 1) := by decide +kernel
theorem d13_50 : decode prog_27_method_6_code 50 = .ok (.lstore 6, 2) := by decide +kernel
theorem ef_own_bfM (m : MethodId) (a : Addr) (p1 : Int64)  : entryFrame m #[(.ref a), (.long p1)] 8 = mkF m 0 #[rv a, jv p1, sc, un, un, un, un, un] [] := by
  first | (simp [entryFrame, mkF, argsToLocals, Value.category]; done) | rfl
set_option maxRecDepth 65536 in
set_option maxHeartbeats 40000000 in
theorem own_bfM (l : Launch) (Z : State) (a0 : Array Value) (hw : ∀ d ∈ tables_1, d.before a0 Z = true) (a : Addr) (p1 : Int64) (b1 : Addr) (bs : List Int64) (h : Heap) (n0 : Nat) (hn0 : Old Z n0 h) (F1 : Fld Z h a "com/example/tokushima/tokushima/SummaryBitmap" "bits" "[J" (.ref b1)) (A1 : La Z h b1 .long (ja bs)) (q0 : 0 ≤ p1.toInt) :
    Con l Z (⟨"com/example/tokushima/tokushima/SummaryBitmap", "bitsFrom", "(J)J"⟩ : MethodName) prog_27_method_6_code 8 (some .long) ({ frames := 1, cells := 0, slots := 0, locals := 16 } : Room) #[(.ref a), (.long p1)] h n0 (fun v h' => v = some (.long (own_bf bs p1)) ∧ h = h') := by
  refine con_of hw (plainFor_of_name pn_com_example_tokushima_tokushima_SummaryBitmap) hn0 ?_
  intro p e s m below meth c T0 C X0
  refine Go.cast (congrArg T0.setTop (ef_own_bfM m a p1)) ?_
  refine go_lloadN C X0 1 rfl d13_0 rfl ?_
  refine go_bipush C X0 3 rfl d13_1 (z := 6) rfl ?_
  refine go_lushr C X0 4 rfl d13_3 ?_
  refine go_lstoreN C X0 5 rfl d13_4 #[rv a, jv p1, sc, jv ((p1.toUInt64 >>> ((6 : Int32) &&& 0x3f).toInt64.toUInt64).toInt64), sc, un, un, un] rfl ?_
  show Go p e below _ (T0.setTop (mkF m 5 #[rv a, jv p1, sc, jv (own_w64 p1), sc, un, un, un] []))
  refine go_lloadN C X0 6 rfl d13_5 rfl ?_
  refine go_ldc2Long C X0 (C.w 66 rfl) (pc' := 9) rfl d13_6 ?_
  refine go_land C X0 10 rfl d13_9 ?_
  refine go_l2i C X0 11 rfl d13_10 ?_
  refine go_istore C X0 13 rfl d13_11 #[rv a, jv p1, sc, jv (own_w64 p1), sc, iv ((p1 &&& (63 : Int64)).toInt32), un, un] rfl ?_
  show Go p e below _ (T0.setTop (mkF m 13 #[rv a, jv p1, sc, jv (own_w64 p1), sc, iv (own_sh p1), un, un] []))
  refine go_aloadN C X0 14 rfl d13_13 rfl rfl ?_
  refine go_getF C X0 (C.w 15 rfl) Via.refl F1 (pc' := 17) rfl d13_14 (fun T1 X2 => ?_)
  refine go_lloadN C X2 18 rfl d13_17 rfl ?_
  refine go_callS C X2 (C.w 67 rfl) (C.w 68 rfl) (C.w 7 rfl) (C.w 69 rfl) (own_word l Z a0 C.ws b1 (own_w64 p1) bs h n0 X2.old A1 (own_w64_0 q0)) (argsL := [(.ref b1), (.long (own_w64 p1))]) (rest := []) (lenOf pd_6 rfl) rfl (by decide) (by decide) (Nat.le_of_ble_eq_true rfl) (by decide) (by decide) rfl rfl (pc' := 21) rfl d13_18 ?_
  rintro T3 _ _ ⟨rfl, rfl⟩ X4
  show Go p e below _ (T3.setTop (mkF m 21 #[rv a, jv p1, sc, jv (own_w64 p1), sc, iv (own_sh p1), un, un] [(.long (own_wat bs (own_w64 p1)))]))
  refine go_iload C X4 23 rfl d13_21 rfl ?_
  refine go_lushr C X4 24 rfl d13_23 ?_
  refine go_lstore C X4 26 rfl d13_24 #[rv a, jv p1, sc, jv (own_w64 p1), sc, iv (own_sh p1), jv (((own_wat bs (own_w64 p1)).toUInt64 >>> ((own_sh p1) &&& 0x3f).toInt64.toUInt64).toInt64), sc] rfl ?_
  refine go_iload C X4 28 rfl d13_26 rfl ?_
  refine go_if_eq C X4 d13_28 (pc' := 31) (pc2 := 52) rfl (by decide) (by decide) (fun (c28 : (own_sh p1) = (0 : Int32)) => ?_) (fun (c28 : ¬ (own_sh p1) = (0 : Int32)) => ?_)
  · refine go_lload C X4 54 rfl d13_52 rfl ?_
    exact go_retJ C X4 d13_54 ⟨by unfold own_bf; first | rw [if_pos c28] | rw [if_neg c28], rfl⟩ (by decide) (by decide)
  · refine go_lload C X4 33 rfl d13_31 rfl ?_
    refine go_aloadN C X4 34 rfl d13_33 rfl rfl ?_
    refine go_getF C X4 (C.w 15 rfl) Via.refl F1 (pc' := 37) rfl d13_34 (fun T6 X7 => ?_)
    refine go_lloadN C X7 38 rfl d13_37 rfl ?_
    refine go_lconst C X7 39 rfl d13_38 (z := 1) rfl ?_
    refine go_ladd C X7 40 rfl d13_39 ?_
    refine go_callS C X7 (C.w 67 rfl) (C.w 68 rfl) (C.w 7 rfl) (C.w 69 rfl) (own_word l Z a0 C.ws b1 ((own_w64 p1) + (1 : Int64)) bs h n0 X7.old A1 (own_w64_1 q0)) (argsL := [(.ref b1), (.long ((own_w64 p1) + (1 : Int64)))]) (rest := [(.long (((own_wat bs (own_w64 p1)).toUInt64 >>> ((own_sh p1) &&& 0x3f).toInt64.toUInt64).toInt64))]) (lenOf pd_6 rfl) rfl (by decide) (by decide) (Nat.le_of_ble_eq_true rfl) (by decide) (by decide) rfl rfl (pc' := 43) rfl d13_40 ?_
    rintro T8 _ _ ⟨rfl, rfl⟩ X9
    show Go p e below _ (T8.setTop (mkF m 43 #[rv a, jv p1, sc, jv (own_w64 p1), sc, iv (own_sh p1), jv (((own_wat bs (own_w64 p1)).toUInt64 >>> ((own_sh p1) &&& 0x3f).toInt64.toUInt64).toInt64), sc] [(.long (own_wat bs ((own_w64 p1) + (1 : Int64)))), (.long (((own_wat bs (own_w64 p1)).toUInt64 >>> ((own_sh p1) &&& 0x3f).toInt64.toUInt64).toInt64))]))
    refine go_bipush C X9 45 rfl d13_43 (z := 64) rfl ?_
    refine go_iload C X9 47 rfl d13_45 rfl ?_
    refine go_isub C X9 48 rfl d13_47 ?_
    refine go_lshl C X9 49 rfl d13_48 ?_
    refine go_lor C X9 50 rfl d13_49 ?_
    refine go_lstore C X9 52 rfl d13_50 #[rv a, jv p1, sc, jv (own_w64 p1), sc, iv (own_sh p1), jv ((((own_wat bs (own_w64 p1)).toUInt64 >>> ((own_sh p1) &&& 0x3f).toInt64.toUInt64).toInt64) ||| ((own_wat bs ((own_w64 p1) + (1 : Int64))) <<< (((64 : Int32) - (own_sh p1)) &&& 0x3f).toInt64)), sc] rfl ?_
    refine go_lload C X9 54 rfl d13_52 rfl ?_
    exact go_retJ C X9 d13_54 ⟨by unfold own_bf; first | rw [if_pos c28] | rw [if_neg c28], rfl⟩ (by decide) (by decide)
def own_mxI (a b : Int32) : Int32 := if a.toInt < b.toInt then b else a
def own_cl (e t : Int64) (x c : Int32) : Int64 := if x = c then e else if (x.toInt64 - t).toInt < 0 then e else if 64 ≤ (x.toInt64 - t).toInt then e else e &&& ((1 <<< ((x.toInt64 - t).toInt32 &&& 0x3f).toInt64) ^^^ (-1))
def own_exp (t : Int64) (a b c : Int32) : Int64 := own_cl (own_cl (-1) t a c) t b c
def own_on (x : Int64) (a b c : Int32) : Int32 := if x = c.toInt64 then 1 else if x = a.toInt64 then 0 else if x = b.toInt64 then 0 else 1
theorem own_t1 (c : Int32) (h : 0 ≤ c.toInt) : 0 ≤ (c &&& (-64)).toInt64.toInt ∧ (c &&& (-64)).toInt64.toInt ≤ c.toInt := by rw [c_i2l]; exact c_and' c (-64) h
theorem own_t2 (pk y mk : Int32) (h : 0 ≤ pk.toInt) (hm : 0 ≤ mk.toInt) (hm2 : mk.toInt < 1000) : 0 ≤ (own_mxI 0 (pk - (y &&& mk))).toInt64.toInt ∧ (own_mxI 0 (pk - (y &&& mk))).toInt64.toInt ≤ pk.toInt := by
  rw [c_i2l]
  have e := c_and y mk hm
  have r := rng32 pk
  have e2 := i_sub (a := pk) (b := y &&& mk) rfl rfl (by omega) (by omega)
  have z : (0 : Int32).toInt = 0 := rfl
  unfold own_mxI
  split <;> omega
theorem own_cl_bt {e t : Int64} {x c : Int32} {T : Nat} (hT : (T : Int) = t.toInt) (ht : t.toInt < 100000) (hx : 0 ≤ x.toInt) (hc : 0 ≤ c.toInt) : ∀ i, i < 64 → bt (own_cl e t x c) i = (bt e i && !(decide (T + i = x.toNatClampNeg) && !decide (x.toNatClampNeg = c.toNatClampNeg))) := fun i hi => by
  have ex := clamp_eq hx
  have ec := clamp_eq hc
  have r := rng32 x
  unfold own_cl
  by_cases c1 : x = c
  · rw [if_pos c1, c1]
    simp
  · have c1' : ¬ x.toNatClampNeg = c.toNatClampNeg := by have := i_ne c1; omega
    have es : (x.toInt64 - t).toInt = x.toInt - t.toInt := l_sub (c_i2l x) rfl (by omega) (by omega)
    rw [if_neg c1]
    by_cases c2 : (x.toInt64 - t).toInt < 0
    · have d : ¬ T + i = x.toNatClampNeg := by omega
      rw [if_pos c2]
      simp [d]
    · rw [if_neg c2]
      by_cases c3 : 64 ≤ (x.toInt64 - t).toInt
      · have d : ¬ T + i = x.toNatClampNeg := by omega
        rw [if_pos c3]
        simp [d]
      · rw [if_neg c3, own_eb_yes (P := x.toNatClampNeg) (R := T) (by omega) (by omega) (by omega) i hi, decide_eq_false c1']
        cases decide (T + i = x.toNatClampNeg) <;> simp
theorem own_exp_eq {bs : List Int64} {t : Int64} {a b c : Int32} (h0 : 0 ≤ t.toInt) (ht : t.toInt < 100000) (ha : 0 ≤ a.toInt) (hb : 0 ≤ b.toInt) (hc : 0 ≤ c.toInt) (hBit : ∀ x, own_bit bs x = (decide (x = c.toNatClampNeg) || (!decide (x = a.toNatClampNeg) && !decide (x = b.toNatClampNeg)))) : own_bf bs t = own_exp t a b c := bt_ext fun i hi => by
  have eT := clamp64 h0
  unfold own_exp
  rw [own_bf_bt h0 hi, hBit, own_cl_bt eT ht hb hc i hi, own_cl_bt eT ht ha hc i hi, bt_m1 hi]
  by_cases dA : t.toNatClampNeg + i = a.toNatClampNeg
  · have eA : decide (a.toNatClampNeg = c.toNatClampNeg) = decide (t.toNatClampNeg + i = c.toNatClampNeg) := by rw [dA]
    by_cases dB : t.toNatClampNeg + i = b.toNatClampNeg
    · have eB : decide (b.toNatClampNeg = c.toNatClampNeg) = decide (t.toNatClampNeg + i = c.toNatClampNeg) := by rw [dB]
      rw [eA, eB, decide_eq_true dA, decide_eq_true dB]
      cases decide (t.toNatClampNeg + i = c.toNatClampNeg) <;> rfl
    · rw [eA, decide_eq_true dA, decide_eq_false dB]
      cases decide (t.toNatClampNeg + i = c.toNatClampNeg) <;> rfl
  · by_cases dB : t.toNatClampNeg + i = b.toNatClampNeg
    · have eB : decide (b.toNatClampNeg = c.toNatClampNeg) = decide (t.toNatClampNeg + i = c.toNatClampNeg) := by rw [dB]
      rw [eB, decide_eq_false dA, decide_eq_true dB]
      cases decide (t.toNatClampNeg + i = c.toNatClampNeg) <;> rfl
    · rw [decide_eq_false dA, decide_eq_false dB]
      cases decide (t.toNatClampNeg + i = c.toNatClampNeg) <;> rfl
theorem own_eq64 {x : Int64} {c : Int32} : x = c.toInt64 ↔ x.toInt = c.toInt := ⟨fun q => by rw [q, c_i2l], fun q => l_eq (q.trans (c_i2l c).symm)⟩
theorem own_on_spec {x : Int64} {a b c : Int32} : own_on x a b c = 0 ↔ ¬ (x.toInt = c.toInt ∨ (¬ x.toInt = a.toInt ∧ ¬ x.toInt = b.toInt)) := by
  have hc := own_eq64 (x := x) (c := c)
  have ha := own_eq64 (x := x) (c := a)
  have hb := own_eq64 (x := x) (c := b)
  unfold own_on
  by_cases c1 : x = c.toInt64
  · rw [if_pos c1]
    exact ⟨fun q => absurd q (by decide), fun q => absurd (Or.inl (hc.mp c1)) q⟩
  · rw [if_neg c1]
    have d1 : ¬ x.toInt = c.toInt := fun q => c1 (hc.mpr q)
    by_cases c2 : x = a.toInt64
    · rw [if_pos c2]
      have d2 := ha.mp c2
      exact ⟨fun _ q => by omega, fun _ => rfl⟩
    · rw [if_neg c2]
      have d2 : ¬ x.toInt = a.toInt := fun q => c2 (ha.mpr q)
      by_cases c3 : x = b.toInt64
      · rw [if_pos c3]
        have d3 := hb.mp c3
        exact ⟨fun _ q => by omega, fun _ => rfl⟩
      · rw [if_neg c3]
        have d3 : ¬ x.toInt = b.toInt := fun q => c3 (hb.mpr q)
        exact ⟨fun q => absurd q (by decide), fun q => absurd (Or.inr ⟨d2, d3⟩) q⟩
theorem own_next_on {bs : List Int64} {r ee : Int64} {a b c : Int32} (h0 : 0 ≤ r.toInt) (hb : r.toInt < 100000) (ha0 : 0 ≤ a.toInt) (hb0 : 0 ≤ b.toInt) (hc0 : 0 ≤ c.toInt) (hBit : ∀ x, own_bit bs x = (decide (x = c.toNatClampNeg) || (!decide (x = a.toNatClampNeg) && !decide (x = b.toNatClampNeg)))) (he : ee.toInt = if (r.toInt = c.toInt ∨ (¬ r.toInt = a.toInt ∧ ¬ r.toInt = b.toInt)) then r.toInt else if (r.toInt + 1 = c.toInt ∨ (¬ r.toInt + 1 = a.toInt ∧ ¬ r.toInt + 1 = b.toInt)) then r.toInt + 1 else r.toInt + 2) : own_next bs r = ee := by
  have ea := clamp_eq ha0
  have eb := clamp_eq hb0
  have ec := clamp_eq hc0
  obtain ⟨k, k1, k2, k3, k4⟩ := own_next_spec (U := a.toNatClampNeg) (V := b.toNatClampNeg) h0 hb (fun x p q => by rw [hBit]; simp [p, q])
  have er := clamp64 h0
  rw [hBit] at k3
  have k5 : k = c.toNatClampNeg ∨ (¬ k = a.toNatClampNeg ∧ ¬ k = b.toNatClampNeg) := by simpa using k3
  apply l_eq
  rw [k1]
  have n0 : 0 ≤ ee.toInt := by split at he <;> (try split at he) <;> omega
  have en := clamp64 n0
  have k6 : r.toNatClampNeg ≤ ee.toNatClampNeg → ee.toNatClampNeg < k → ¬ (ee.toNatClampNeg = c.toNatClampNeg ∨ (¬ ee.toNatClampNeg = a.toNatClampNeg ∧ ¬ ee.toNatClampNeg = b.toNatClampNeg)) := fun p q => by
    have w := k4 _ p q
    rw [hBit] at w
    intro t
    rcases t with t | ⟨t1, t2⟩
    · simp [t] at w
    · simp [t1, t2] at w
  split at he <;> (try split at he) <;> omega
theorem d1_0 : decode jdk_29_method_65_code 0 = .ok (.iload_n 0, 1) := by decide +kernel
theorem d1_1 : decode jdk_29_method_65_code 1 = .ok (.iload_n 1, 1) := by decide +kernel
theorem d1_2 : decode jdk_29_method_65_code 2 = .ok (.if_icmp .lt 7, 3) := by decide +kernel
theorem d1_9 : decode jdk_29_method_65_code 9 = .ok (.iload_n 1, 1) := by decide +kernel
theorem d1_10 : decode jdk_29_method_65_code 10 = .ok (.ireturn, 1) := by decide +kernel
theorem d1_5 : decode jdk_29_method_65_code 5 = .ok (.iload_n 0, 1) := by decide +kernel
theorem d1_6 : decode jdk_29_method_65_code 6 = .ok (.goto 4, 3) := by decide +kernel
theorem ef_own_max (m : MethodId) (a : Int32) (b : Int32)  : entryFrame m #[(.int a), (.int b)] 2 = mkF m 0 #[iv a, iv b] [] := by
  first | (simp [entryFrame, mkF, argsToLocals, Value.category]; done) | rfl
set_option maxRecDepth 65536 in
set_option maxHeartbeats 40000000 in
theorem own_max (l : Launch) (Z : State) (a0 : Array Value) (hw : ∀ d ∈ tables_1, d.before a0 Z = true) (a : Int32) (b : Int32)  (h : Heap) (n0 : Nat) (hn0 : Old Z n0 h)  :
    Con l Z (⟨"java/lang/Math", "max", "(II)I"⟩ : MethodName) jdk_29_method_65_code 2 (some .int) ({ frames := 0, cells := 0, slots := 0, locals := 0 } : Room) #[(.int a), (.int b)] h n0 (fun v h' => v = some (.int (own_mxI a b)) ∧ h = h') := by
  refine con_of hw (Jvm.Free.JP.mathPlain rfl (by decide +kernel)) hn0 ?_
  intro p e s m below meth c T0 C X0
  refine Go.cast (congrArg T0.setTop (ef_own_max m a b)) ?_
  refine go_iloadN C X0 1 rfl d1_0 rfl ?_
  refine go_iloadN C X0 2 rfl d1_1 rfl ?_
  refine go_icmp_lt C X0 d1_2 (pc' := 5) (pc2 := 9) rfl (by decide) (by decide) (fun (c2 : a.toInt < b.toInt) => ?_) (fun (c2 : b.toInt ≤ a.toInt) => ?_)
  · refine go_iloadN C X0 10 rfl d1_9 rfl ?_
    exact go_retI C X0 d1_10 ⟨by unfold own_mxI; rw [if_pos (by omega)], rfl⟩ (by decide) (by decide)
  · refine go_iloadN C X0 6 rfl d1_5 rfl ?_
    refine go_goto C X0 d1_6 (pc' := 10) (by decide) (by decide) ?_
    exact go_retI C X0 d1_10 ⟨by unfold own_mxI; rw [if_neg (by omega)], rfl⟩ (by decide) (by decide)
theorem d16_0 : decode method_5_code 0 = .ok (.iload 4, 2) := by decide +kernel
theorem d16_2 : decode method_5_code 2 = .ok (.i2l, 1) := by decide +kernel
theorem d16_3 : decode method_5_code 3 = .ok (.lload_n 2, 1) := by decide +kernel
theorem d16_4 : decode method_5_code 4 = .ok (.lsub, 1) := by decide +kernel
theorem d16_5 : decode method_5_code 5 = .ok (.lstore 6, 2) := by decide +kernel
theorem d16_7 : decode method_5_code 7 = .ok (.iload 4, 2) := by decide +kernel
theorem d16_9 : decode method_5_code 9 = .ok (.iload 5, 2) := by decide +kernel
theorem d16_11 : decode method_5_code 11 = .ok (.if_icmp .eq 31, 3) := by decide +kernel
theorem d16_42 : decode method_5_code 42 = .ok (.lload_n 0, 1) := by decide +kernel
theorem d16_43 : decode method_5_code 43 = .ok (.lreturn, 1) := by decide +kernel
theorem d16_14 : decode method_5_code 14 = .ok (.lload 6, 2) := by decide +kernel
theorem d16_16 : decode method_5_code 16 = .ok (.lconst 0, 1) := by decide +kernel
theorem d16_17 : decode method_5_code 17 = .ok (.lcmp, 1) := by decide +kernel
theorem d16_18 : decode method_5_code 18 = .ok (.ifCond .lt 24, 3) := by decide +kernel
theorem d16_21 : decode method_5_code 21 = .ok (.lload 6, 2) := by decide +kernel
theorem d16_23 : decode method_5_code 23 = .ok (.ldc2_w 50, 3) := by decide +kernel
theorem d16_26 : decode method_5_code 26 = .ok (.lcmp, 1) := by decide +kernel
theorem d16_27 : decode method_5_code 27 = .ok (.ifCond .ge 15, 3) := by decide +kernel
theorem d16_30 : decode method_5_code 30 = .ok (.lload_n 0, 1) := by decide +kernel
theorem d16_31 : decode method_5_code 31 = .ok (.lconst 1, 1) := by decide +kernel
theorem d16_32 : decode method_5_code 32 = .ok (.lload 6, 2) := by decide +kernel
theorem d16_34 : decode method_5_code 34 = .ok (.l2i, 1) := by decide +kernel
theorem d16_35 : decode method_5_code 35 = .ok (.lshl, 1) := by decide +kernel
theorem d16_36 : decode method_5_code 36 = .ok (.ldc2_w 44, 3) := by decide +kernel
theorem d16_39 : decode method_5_code 39 = .ok (.lxor, 1) := by decide +kernel
theorem d16_40 : decode method_5_code 40 = .ok (.land, 1) := by decide +kernel
theorem d16_41 : decode method_5_code 41 = .ok (.lreturn, 1) := by decide +kernel
theorem pn_com_example_tokushima_tokushima_SummaryBitmapSetPinLaw : plainName "com/example/tokushima/tokushima/SummaryBitmapSetPinLaw" = true := by first | (simp [plainName, overriddenIn]; done) | decide +kernel
theorem ef_own_clM (m : MethodId) (e1 : Int64) (t : Int64) (x1 : Int32) (c1 : Int32)  : entryFrame m #[(.long e1), (.long t), (.int x1), (.int c1)] 8 = mkF m 0 #[jv e1, sc, jv t, sc, iv x1, iv c1, un, un] [] := by
  first | (simp [entryFrame, mkF, argsToLocals, Value.category]; done) | rfl
set_option maxRecDepth 65536 in
set_option maxHeartbeats 40000000 in
theorem own_clM (l : Launch) (Z : State) (a0 : Array Value) (hw : ∀ d ∈ tables_1, d.before a0 Z = true) (e1 : Int64) (t : Int64) (x1 : Int32) (c1 : Int32)  (h : Heap) (n0 : Nat) (hn0 : Old Z n0 h)  :
    Con l Z (⟨"com/example/tokushima/tokushima/SummaryBitmapSetPinLaw", "cleared", "(JJII)J"⟩ : MethodName) method_5_code 8 (some .long) ({ frames := 0, cells := 0, slots := 0, locals := 0 } : Room) #[(.long e1), (.long t), (.int x1), (.int c1)] h n0 (fun v h' => v = some (.long (own_cl e1 t x1 c1)) ∧ h = h') := by
  refine con_of hw (plainFor_of_name pn_com_example_tokushima_tokushima_SummaryBitmapSetPinLaw) hn0 ?_
  intro p e s m below meth c T0 C X0
  refine Go.cast (congrArg T0.setTop (ef_own_clM m e1 t x1 c1)) ?_
  refine go_iload C X0 2 rfl d16_0 rfl ?_
  refine go_i2l C X0 3 rfl d16_2 ?_
  refine go_lloadN C X0 4 rfl d16_3 rfl ?_
  refine go_lsub C X0 5 rfl d16_4 ?_
  refine go_lstore C X0 7 rfl d16_5 #[jv e1, sc, jv t, sc, iv x1, iv c1, jv ((x1.toInt64) - t), sc] rfl ?_
  refine go_iload C X0 9 rfl d16_7 rfl ?_
  refine go_iload C X0 11 rfl d16_9 rfl ?_
  refine go_icmp_eq C X0 d16_11 (pc' := 14) (pc2 := 42) rfl (by decide) (by decide) (fun (c11 : x1 = c1) => ?_) (fun (c11 : ¬ x1 = c1) => ?_)
  · refine go_lloadN C X0 43 rfl d16_42 rfl ?_
    exact go_retJ C X0 d16_43 ⟨by unfold own_cl; first | rw [if_pos c11] | rw [if_neg c11, if_pos c18] | rw [if_neg c11, if_neg (by omega), if_pos c27], rfl⟩ (by decide) (by decide)
  · refine go_lload C X0 16 rfl d16_14 rfl ?_
    refine go_lconst C X0 17 rfl d16_16 (z := 0) rfl ?_
    refine go_lif_lt C X0 (pc1 := 18) rfl d16_17 d16_18 (pc' := 21) (pc2 := 42) rfl (by decide) (by decide) (fun (c18 : ((x1.toInt64) - t).toInt < 0) => ?_) (fun (c18 : 0 ≤ ((x1.toInt64) - t).toInt) => ?_)
    · refine go_lloadN C X0 43 rfl d16_42 rfl ?_
      exact go_retJ C X0 d16_43 ⟨by unfold own_cl; first | rw [if_pos c11] | rw [if_neg c11, if_pos c18] | rw [if_neg c11, if_neg (by omega), if_pos c27], rfl⟩ (by decide) (by decide)
    · refine go_lload C X0 23 rfl d16_21 rfl ?_
      refine go_ldc2Long C X0 (C.w 94 rfl) (pc' := 26) rfl d16_23 ?_
      refine go_lif_ge C X0 (pc1 := 27) rfl d16_26 d16_27 (pc' := 30) (pc2 := 42) rfl (by decide) (by decide) (fun (c27 : 64 ≤ ((x1.toInt64) - t).toInt) => ?_) (fun (c27 : ((x1.toInt64) - t).toInt < 64) => ?_)
      · refine go_lloadN C X0 43 rfl d16_42 rfl ?_
        exact go_retJ C X0 d16_43 ⟨by unfold own_cl; first | rw [if_pos c11] | rw [if_neg c11, if_pos c18] | rw [if_neg c11, if_neg (by omega), if_pos c27], rfl⟩ (by decide) (by decide)
      · refine go_lloadN C X0 31 rfl d16_30 rfl ?_
        refine go_lconst C X0 32 rfl d16_31 (z := 1) rfl ?_
        refine go_lload C X0 34 rfl d16_32 rfl ?_
        refine go_l2i C X0 35 rfl d16_34 ?_
        refine go_lshl C X0 36 rfl d16_35 ?_
        refine go_ldc2Long C X0 (C.w 74 rfl) (pc' := 39) rfl d16_36 ?_
        refine go_lxor C X0 40 rfl d16_39 ?_
        refine go_land C X0 41 rfl d16_40 ?_
        exact go_retJ C X0 d16_41 ⟨by unfold own_cl; rw [if_neg c11, if_neg (by omega), if_neg (by omega)], rfl⟩ (by decide) (by decide)
theorem d15_0 : decode method_4_code 0 = .ok (.ldc2_w 44, 3) := by decide +kernel
theorem d15_3 : decode method_4_code 3 = .ok (.lstore 5, 2) := by decide +kernel
theorem d15_5 : decode method_4_code 5 = .ok (.lload 5, 2) := by decide +kernel
theorem d15_7 : decode method_4_code 7 = .ok (.lload_n 0, 1) := by decide +kernel
theorem d15_8 : decode method_4_code 8 = .ok (.iload_n 2, 1) := by decide +kernel
theorem d15_9 : decode method_4_code 9 = .ok (.iload 4, 2) := by decide +kernel
theorem pd_9 : parseMethodDescriptor "(JJII)J" = some ⟨[.long, .long, .int, .int], some .long⟩ := by decide +kernel
theorem d15_11 : decode method_4_code 11 = .ok (.invokestatic 46, 3) := by decide +kernel
theorem d15_14 : decode method_4_code 14 = .ok (.lstore 5, 2) := by decide +kernel
theorem d15_16 : decode method_4_code 16 = .ok (.lload 5, 2) := by decide +kernel
theorem d15_18 : decode method_4_code 18 = .ok (.lload_n 0, 1) := by decide +kernel
theorem d15_19 : decode method_4_code 19 = .ok (.iload_n 3, 1) := by decide +kernel
theorem d15_20 : decode method_4_code 20 = .ok (.iload 4, 2) := by decide +kernel
theorem d15_22 : decode method_4_code 22 = .ok (.invokestatic 46, 3) := by decide +kernel
theorem d15_25 : decode method_4_code 25 = .ok (.lstore 5, 2) := by decide +kernel
theorem d15_27 : decode method_4_code 27 = .ok (.lload 5, 2) := by decide +kernel
theorem d15_29 : decode method_4_code 29 = .ok (.lreturn, 1) := by decide +kernel
theorem ef_own_expM (m : MethodId) (t : Int64) (a : Int32) (b : Int32) (c1 : Int32)  : entryFrame m #[(.long t), (.int a), (.int b), (.int c1)] 7 = mkF m 0 #[jv t, sc, iv a, iv b, iv c1, un, un] [] := by
  first | (simp [entryFrame, mkF, argsToLocals, Value.category]; done) | rfl
set_option maxRecDepth 65536 in
set_option maxHeartbeats 40000000 in
theorem own_expM (l : Launch) (Z : State) (a0 : Array Value) (hw : ∀ d ∈ tables_1, d.before a0 Z = true) (t : Int64) (a : Int32) (b : Int32) (c1 : Int32)  (h : Heap) (n0 : Nat) (hn0 : Old Z n0 h)  :
    Con l Z (⟨"com/example/tokushima/tokushima/SummaryBitmapSetPinLaw", "expected", "(JIII)J"⟩ : MethodName) method_4_code 7 (some .long) ({ frames := 1, cells := 0, slots := 0, locals := 19 } : Room) #[(.long t), (.int a), (.int b), (.int c1)] h n0 (fun v h' => v = some (.long (own_exp t a b c1)) ∧ h = h') := by
  refine con_of hw (plainFor_of_name pn_com_example_tokushima_tokushima_SummaryBitmapSetPinLaw) hn0 ?_
  intro p e s m below meth c T0 C X0
  refine Go.cast (congrArg T0.setTop (ef_own_expM m t a b c1)) ?_
  refine go_ldc2Long C X0 (C.w 74 rfl) (pc' := 3) rfl d15_0 ?_
  refine go_lstore C X0 5 rfl d15_3 #[jv t, sc, iv a, iv b, iv c1, jv (-1 : Int64), sc] rfl ?_
  refine go_lload C X0 7 rfl d15_5 rfl ?_
  refine go_lloadN C X0 8 rfl d15_7 rfl ?_
  refine go_iloadN C X0 9 rfl d15_8 rfl ?_
  refine go_iload C X0 11 rfl d15_9 rfl ?_
  refine go_callS C X0 (C.w 75 rfl) (C.w 76 rfl) (C.w 72 rfl) (C.w 77 rfl) (own_clM l Z a0 C.ws (-1 : Int64) t a c1 h n0 X0.old ) (argsL := [(.long (-1 : Int64)), (.long t), (.int a), (.int c1)]) (rest := []) (lenOf pd_9 rfl) rfl (by decide) (by decide) (Nat.le_of_ble_eq_true rfl) (by decide) (by decide) rfl rfl (pc' := 14) rfl d15_11 ?_
  rintro T1 _ _ ⟨rfl, rfl⟩ X2
  show Go p e below _ (T1.setTop (mkF m 14 #[jv t, sc, iv a, iv b, iv c1, jv (-1 : Int64), sc] [(.long (own_cl (-1 : Int64) t a c1))]))
  refine go_lstore C X2 16 rfl d15_14 #[jv t, sc, iv a, iv b, iv c1, jv (own_cl (-1 : Int64) t a c1), sc] rfl ?_
  refine go_lload C X2 18 rfl d15_16 rfl ?_
  refine go_lloadN C X2 19 rfl d15_18 rfl ?_
  refine go_iloadN C X2 20 rfl d15_19 rfl ?_
  refine go_iload C X2 22 rfl d15_20 rfl ?_
  refine go_callS C X2 (C.w 75 rfl) (C.w 76 rfl) (C.w 72 rfl) (C.w 77 rfl) (own_clM l Z a0 C.ws (own_cl (-1 : Int64) t a c1) t b c1 h n0 X2.old ) (argsL := [(.long (own_cl (-1 : Int64) t a c1)), (.long t), (.int b), (.int c1)]) (rest := []) (lenOf pd_9 rfl) rfl (by decide) (by decide) (Nat.le_of_ble_eq_true rfl) (by decide) (by decide) rfl rfl (pc' := 25) rfl d15_22 ?_
  rintro T4 _ _ ⟨rfl, rfl⟩ X5
  show Go p e below _ (T4.setTop (mkF m 25 #[jv t, sc, iv a, iv b, iv c1, jv (own_cl (-1 : Int64) t a c1), sc] [(.long (own_cl (own_cl (-1 : Int64) t a c1) t b c1))]))
  refine go_lstore C X5 27 rfl d15_25 #[jv t, sc, iv a, iv b, iv c1, jv (own_cl (own_cl (-1 : Int64) t a c1) t b c1), sc] rfl ?_
  refine go_lload C X5 29 rfl d15_27 rfl ?_
  exact go_retJ C X5 d15_29 ⟨rfl, rfl⟩ (by decide) (by decide)
theorem d17_0 : decode method_3_code 0 = .ok (.lload_n 0, 1) := by decide +kernel
theorem d17_1 : decode method_3_code 1 = .ok (.iload 4, 2) := by decide +kernel
theorem d17_3 : decode method_3_code 3 = .ok (.i2l, 1) := by decide +kernel
theorem d17_4 : decode method_3_code 4 = .ok (.lcmp, 1) := by decide +kernel
theorem d17_5 : decode method_3_code 5 = .ok (.ifCond .eq 17, 3) := by decide +kernel
theorem d17_22 : decode method_3_code 22 = .ok (.iconst 1, 1) := by decide +kernel
theorem d17_23 : decode method_3_code 23 = .ok (.goto 4, 3) := by decide +kernel
theorem d17_27 : decode method_3_code 27 = .ok (.ireturn, 1) := by decide +kernel
theorem d17_8 : decode method_3_code 8 = .ok (.lload_n 0, 1) := by decide +kernel
theorem d17_9 : decode method_3_code 9 = .ok (.iload_n 2, 1) := by decide +kernel
theorem d17_10 : decode method_3_code 10 = .ok (.i2l, 1) := by decide +kernel
theorem d17_11 : decode method_3_code 11 = .ok (.lcmp, 1) := by decide +kernel
theorem d17_12 : decode method_3_code 12 = .ok (.ifCond .eq 14, 3) := by decide +kernel
theorem d17_26 : decode method_3_code 26 = .ok (.iconst 0, 1) := by decide +kernel
theorem d17_15 : decode method_3_code 15 = .ok (.lload_n 0, 1) := by decide +kernel
theorem d17_16 : decode method_3_code 16 = .ok (.iload_n 3, 1) := by decide +kernel
theorem d17_17 : decode method_3_code 17 = .ok (.i2l, 1) := by decide +kernel
theorem d17_18 : decode method_3_code 18 = .ok (.lcmp, 1) := by decide +kernel
theorem d17_19 : decode method_3_code 19 = .ok (.ifCond .eq 7, 3) := by decide +kernel
theorem ef_own_onM (m : MethodId) (x1 : Int64) (a : Int32) (b : Int32) (c1 : Int32)  : entryFrame m #[(.long x1), (.int a), (.int b), (.int c1)] 5 = mkF m 0 #[jv x1, sc, iv a, iv b, iv c1] [] := by
  first | (simp [entryFrame, mkF, argsToLocals, Value.category]; done) | rfl
set_option maxRecDepth 65536 in
set_option maxHeartbeats 40000000 in
theorem own_onM (l : Launch) (Z : State) (a0 : Array Value) (hw : ∀ d ∈ tables_1, d.before a0 Z = true) (x1 : Int64) (a : Int32) (b : Int32) (c1 : Int32)  (h : Heap) (n0 : Nat) (hn0 : Old Z n0 h)  :
    Con l Z (⟨"com/example/tokushima/tokushima/SummaryBitmapSetPinLaw", "on", "(JIII)Z"⟩ : MethodName) method_3_code 5 (some .boolean) ({ frames := 0, cells := 0, slots := 0, locals := 0 } : Room) #[(.long x1), (.int a), (.int b), (.int c1)] h n0 (fun v h' => v = some (.int (own_on x1 a b c1)) ∧ h = h') := by
  refine con_of hw (plainFor_of_name pn_com_example_tokushima_tokushima_SummaryBitmapSetPinLaw) hn0 ?_
  intro p e s m below meth c T0 C X0
  refine Go.cast (congrArg T0.setTop (ef_own_onM m x1 a b c1)) ?_
  refine go_lloadN C X0 1 rfl d17_0 rfl ?_
  refine go_iload C X0 3 rfl d17_1 rfl ?_
  refine go_i2l C X0 4 rfl d17_3 ?_
  refine go_lif_eq C X0 (pc1 := 5) rfl d17_4 d17_5 (pc' := 8) (pc2 := 22) rfl (by decide) (by decide) (fun (c5 : x1 = (c1.toInt64)) => ?_) (fun (c5 : ¬ x1 = (c1.toInt64)) => ?_)
  · refine go_iconst C X0 23 rfl d17_22 (z := 1) rfl ?_
    refine go_goto C X0 d17_23 (pc' := 27) (by decide) (by decide) ?_
    exact go_retN C X0 (by simp) (z' := 1) rfl d17_27 ⟨by unfold own_on; first | rw [if_pos c5] | rw [if_neg c5, if_pos c12] | rw [if_neg c5, if_neg c12, if_pos c19] | rw [if_neg c5, if_neg c12, if_neg c19], rfl⟩ (by decide) (by decide)
  · refine go_lloadN C X0 9 rfl d17_8 rfl ?_
    refine go_iloadN C X0 10 rfl d17_9 rfl ?_
    refine go_i2l C X0 11 rfl d17_10 ?_
    refine go_lif_eq C X0 (pc1 := 12) rfl d17_11 d17_12 (pc' := 15) (pc2 := 26) rfl (by decide) (by decide) (fun (c12 : x1 = (a.toInt64)) => ?_) (fun (c12 : ¬ x1 = (a.toInt64)) => ?_)
    · refine go_iconst C X0 27 rfl d17_26 (z := 0) rfl ?_
      exact go_retN C X0 (by simp) (z' := 0) rfl d17_27 ⟨by unfold own_on; first | rw [if_pos c5] | rw [if_neg c5, if_pos c12] | rw [if_neg c5, if_neg c12, if_pos c19] | rw [if_neg c5, if_neg c12, if_neg c19], rfl⟩ (by decide) (by decide)
    · refine go_lloadN C X0 16 rfl d17_15 rfl ?_
      refine go_iloadN C X0 17 rfl d17_16 rfl ?_
      refine go_i2l C X0 18 rfl d17_17 ?_
      refine go_lif_eq C X0 (pc1 := 19) rfl d17_18 d17_19 (pc' := 22) (pc2 := 26) rfl (by decide) (by decide) (fun (c19 : x1 = (b.toInt64)) => ?_) (fun (c19 : ¬ x1 = (b.toInt64)) => ?_)
      · refine go_iconst C X0 27 rfl d17_26 (z := 0) rfl ?_
        exact go_retN C X0 (by simp) (z' := 0) rfl d17_27 ⟨by unfold own_on; first | rw [if_pos c5] | rw [if_neg c5, if_pos c12] | rw [if_neg c5, if_neg c12, if_pos c19] | rw [if_neg c5, if_neg c12, if_neg c19], rfl⟩ (by decide) (by decide)
      · refine go_iconst C X0 23 rfl d17_22 (z := 1) rfl ?_
        refine go_goto C X0 d17_23 (pc' := 27) (by decide) (by decide) ?_
        exact go_retN C X0 (by simp) (z' := 1) rfl d17_27 ⟨by unfold own_on; first | rw [if_pos c5] | rw [if_neg c5, if_pos c12] | rw [if_neg c5, if_neg c12, if_pos c19] | rw [if_neg c5, if_neg c12, if_neg c19], rfl⟩ (by decide) (by decide)
theorem pd_10 : parseMethodDescriptor "(JIII)J" = some ⟨[.long, .int, .int, .int], some .long⟩ := by decide +kernel
theorem pd_11 : parseMethodDescriptor "(JIII)Z" = some ⟨[.long, .int, .int, .int], some .boolean⟩ := by decide +kernel
theorem ef_own_law (m : MethodId) (x1 : Int32) (x2 : Int32) (x3 : Int32) (x4 : Int32) (x5 : Int32) (x6 : Int32)  : entryFrame m #[(.int x1), (.int x2), (.int x3), (.int x4), (.int x5), (.int x6)] maxLocals = mkF m 0 #[iv x1, iv x2, iv x3, iv x4, iv x5, iv x6, un, un, un, un, un, un, un, un, un, un, un, un, un, un, un, un, un, un, un, un] [] := by
  first | (simp [entryFrame, mkF, argsToLocals, Value.category, maxLocals]; done) | rfl
set_option maxRecDepth 65536 in
set_option maxHeartbeats 40000000 in
theorem own_law (l : Launch) (Z : State) (a0 : Array Value) (hw : ∀ d ∈ tables_1, d.before a0 Z = true) (x1 : Int32) (x2 : Int32) (x3 : Int32) (x4 : Int32) (x5 : Int32) (x6 : Int32)  (h : Heap) (n0 : Nat) (hn0 : Old Z n0 h)  :
    Con l Z x code maxLocals ret room_1 #[(.int x1), (.int x2), (.int x3), (.int x4), (.int x5), (.int x6)] h n0 (fun v h' => v = some (.int 1)) := by
  refine con_of hw (plainFor_of_name pn_com_example_tokushima_tokushima_SummaryBitmapSetPinLaw) hn0 ?_
  intro p e s m below meth c T0 C X0
  refine Go.cast (congrArg T0.setTop (ef_own_law m x1 x2 x3 x4 x5 x6)) ?_
  refine go_iloadN C X0 1 rfl at_0 rfl ?_
  refine go_sipush C X0 4 rfl at_1 (z := 1023) rfl ?_
  refine go_iand C X0 5 rfl at_4 ?_
  refine go_iconst C X0 6 rfl at_5 (z := 1) rfl ?_
  refine go_iadd C X0 7 rfl at_6 ?_
  refine go_istore C X0 9 rfl at_7 #[iv x1, iv x2, iv x3, iv x4, iv x5, iv x6, iv ((x1 &&& (1023 : Int32)) + (1 : Int32)), un, un, un, un, un, un, un, un, un, un, un, un, un, un, un, un, un, un, un] rfl ?_
  have hln : 1 ≤ ((x1 &&& 1023) + 1).toInt ∧ ((x1 &&& 1023) + 1).toInt ≤ 1024 := own_len x1 10 1023 (by decide) (by decide)
  generalize e_ln : ((x1 &&& (1023 : Int32)) + (1 : Int32)) = ln at hln ⊢
  have hcw := own_wd_i (n := ln) (by omega) (by omega)
  have hN := clamp_eq (j := own_wd ln) (by omega)
  refine go_iloadN C X0 10 rfl at_9 rfl ?_
  refine go_ldcInt C X0 (C.w 0 rfl) (pc' := 12) rfl at_10 ?_
  refine go_iand C X0 13 rfl at_12 ?_
  refine go_iload C X0 15 rfl at_13 rfl ?_
  refine go_irem C X0 16 rfl at_15 (own_nz0 hln.1) ?_
  refine go_istore C X0 18 rfl at_16 #[iv x1, iv x2, iv x3, iv x4, iv x5, iv x6, iv ln, iv ((x2 &&& (2147483647 : Int32)) % ln), un, un, un, un, un, un, un, un, un, un, un, un, un, un, un, un, un, un] rfl ?_
  have haa := own_rm x2 ln hln.1
  generalize e_aa : ((x2 &&& (2147483647 : Int32)) % ln) = aa at haa ⊢
  refine go_iloadN C X0 19 rfl at_18 rfl ?_
  refine go_ldcInt C X0 (C.w 0 rfl) (pc' := 21) rfl at_19 ?_
  refine go_iand C X0 22 rfl at_21 ?_
  refine go_iload C X0 24 rfl at_22 rfl ?_
  refine go_irem C X0 25 rfl at_24 (own_nz0 hln.1) ?_
  refine go_istore C X0 27 rfl at_25 #[iv x1, iv x2, iv x3, iv x4, iv x5, iv x6, iv ln, iv aa, iv ((x3 &&& (2147483647 : Int32)) % ln), un, un, un, un, un, un, un, un, un, un, un, un, un, un, un, un, un] rfl ?_
  have hbb := own_rm x3 ln hln.1
  generalize e_bb : ((x3 &&& (2147483647 : Int32)) % ln) = bb at hbb ⊢
  refine go_iloadN C X0 28 rfl at_27 rfl ?_
  refine go_ldcInt C X0 (C.w 0 rfl) (pc' := 30) rfl at_28 ?_
  refine go_iand C X0 31 rfl at_30 ?_
  refine go_iload C X0 33 rfl at_31 rfl ?_
  refine go_irem C X0 34 rfl at_33 (own_nz0 hln.1) ?_
  refine go_istore C X0 36 rfl at_34 #[iv x1, iv x2, iv x3, iv x4, iv x5, iv x6, iv ln, iv aa, iv bb, iv ((x4 &&& (2147483647 : Int32)) % ln), un, un, un, un, un, un, un, un, un, un, un, un, un, un, un, un] rfl ?_
  have hff := own_rm x4 ln hln.1
  generalize e_ff : ((x4 &&& (2147483647 : Int32)) % ln) = ff at hff ⊢
  refine go_iload C X0 38 rfl at_36 rfl ?_
  refine go_ldcInt C X0 (C.w 0 rfl) (pc' := 40) rfl at_38 ?_
  refine go_iand C X0 41 rfl at_40 ?_
  refine go_iconst C X0 42 rfl at_41 (z := 3) rfl ?_
  refine go_irem C X0 43 rfl at_42 (by decide) ?_
  refine go_istore C X0 45 rfl at_43 #[iv x1, iv x2, iv x3, iv x4, iv x5, iv x6, iv ln, iv aa, iv bb, iv ff, iv ((x5 &&& (2147483647 : Int32)) % (3 : Int32)), un, un, un, un, un, un, un, un, un, un, un, un, un, un, un] rfl ?_
  generalize e_kk : ((x5 &&& (2147483647 : Int32)) % (3 : Int32)) = kk
  have J1 : ∀ (cc : Int32) (_ : 0 ≤ cc.toInt ∧ cc.toInt < ln.toInt), Go p e below (FinQ s room_1.cells room_1.slots n0 (fun v h' => v = some (.int 1))) (T0.setTop (mkF m 68 #[iv x1, iv x2, iv x3, iv x4, iv x5, iv x6, iv ln, iv aa, iv bb, iv ff, iv kk, un, un, un, un, un, un, un, un, un, un, un, un, un, un, un] [(.int cc)])) := by
    intro cc hcc
    refine go_istore C X0 70 rfl at_68 #[iv x1, iv x2, iv x3, iv x4, iv x5, iv x6, iv ln, iv aa, iv bb, iv ff, iv kk, iv cc, un, un, un, un, un, un, un, un, un, un, un, un, un, un] rfl ?_
    refine go_iload C X0 72 rfl at_70 rfl ?_
    refine go_ldcInt C X0 (C.w 0 rfl) (pc' := 74) rfl at_72 ?_
    refine go_iand C X0 75 rfl at_74 ?_
    refine go_iconst C X0 76 rfl at_75 (z := 3) rfl ?_
    refine go_irem C X0 77 rfl at_76 (by decide) ?_
    refine go_istore C X0 79 rfl at_77 #[iv x1, iv x2, iv x3, iv x4, iv x5, iv x6, iv ln, iv aa, iv bb, iv ff, iv kk, iv cc, iv ((x6 &&& (2147483647 : Int32)) % (3 : Int32)), un, un, un, un, un, un, un, un, un, un, un, un, un] rfl ?_
    generalize e_jj : ((x6 &&& (2147483647 : Int32)) % (3 : Int32)) = jj
    have J2 : ∀ (pk : Int32) (_ : 0 ≤ pk.toInt ∧ pk.toInt < ln.toInt), Go p e below (FinQ s room_1.cells room_1.slots n0 (fun v h' => v = some (.int 1))) (T0.setTop (mkF m 102 #[iv x1, iv x2, iv x3, iv x4, iv x5, iv x6, iv ln, iv aa, iv bb, iv ff, iv kk, iv cc, iv jj, un, un, un, un, un, un, un, un, un, un, un, un, un] [(.int pk)])) := by
      intro pk hpk
      refine go_istore C X0 104 rfl at_102 #[iv x1, iv x2, iv x3, iv x4, iv x5, iv x6, iv ln, iv aa, iv bb, iv ff, iv kk, iv cc, iv jj, iv pk, un, un, un, un, un, un, un, un, un, un, un, un] rfl ?_
      refine go_iload C X0 106 rfl at_104 rfl ?_
      refine go_bipush C X0 108 rfl at_106 (z := (-64)) rfl ?_
      refine go_iand C X0 109 rfl at_108 ?_
      refine go_i2l C X0 110 rfl at_109 ?_
      refine go_lstore C X0 112 rfl at_110 #[iv x1, iv x2, iv x3, iv x4, iv x5, iv x6, iv ln, iv aa, iv bb, iv ff, iv kk, iv cc, iv jj, iv pk, jv ((cc &&& (-64 : Int32)).toInt64), sc, un, un, un, un, un, un, un, un, un, un] rfl ?_
      have ht1 := own_t1 cc hcc.1
      generalize e_t1 : ((cc &&& (-64 : Int32)).toInt64) = t1 at ht1 ⊢
      refine go_iconst C X0 113 rfl at_112 (z := 0) rfl ?_
      refine go_iload C X0 115 rfl at_113 rfl ?_
      refine go_iload C X0 117 rfl at_115 rfl ?_
      refine go_bipush C X0 119 rfl at_117 (z := 8) rfl ?_
      refine go_iushr C X0 120 rfl at_119 ?_
      refine go_bipush C X0 122 rfl at_120 (z := 63) rfl ?_
      refine go_iand C X0 123 rfl at_122 ?_
      refine go_isub C X0 124 rfl at_123 ?_
      refine go_callS C X0 (C.w 1 rfl) (C.w 2 rfl) (C.w 3 rfl) (C.w 4 rfl) (own_max l Z a0 C.ws (0 : Int32) (pk - (((x6.toUInt32 >>> ((8 : Int32) &&& 31).toUInt32).toInt32) &&& (63 : Int32))) h n0 X0.old ) (argsL := [(.int (0 : Int32)), (.int (pk - (((x6.toUInt32 >>> ((8 : Int32) &&& 31).toUInt32).toInt32) &&& (63 : Int32))))]) (rest := []) (lenOf pd_1 rfl) rfl (by decide) (by decide) (Nat.le_of_ble_eq_true rfl) (by decide) (by decide) rfl rfl (pc' := 127) rfl at_124 ?_
      rintro T3 _ _ ⟨rfl, rfl⟩ X4
      show Go p e below _ (T3.setTop (mkF m 127 #[iv x1, iv x2, iv x3, iv x4, iv x5, iv x6, iv ln, iv aa, iv bb, iv ff, iv kk, iv cc, iv jj, iv pk, jv t1, sc, un, un, un, un, un, un, un, un, un, un] [(.int (own_mxI (0 : Int32) (pk - (((x6.toUInt32 >>> ((8 : Int32) &&& 31).toUInt32).toInt32) &&& (63 : Int32)))))]))
      refine go_i2l C X4 128 rfl at_127 ?_
      refine go_lstore C X4 130 rfl at_128 #[iv x1, iv x2, iv x3, iv x4, iv x5, iv x6, iv ln, iv aa, iv bb, iv ff, iv kk, iv cc, iv jj, iv pk, jv t1, sc, jv ((own_mxI (0 : Int32) (pk - (((x6.toUInt32 >>> ((8 : Int32) &&& 31).toUInt32).toInt32) &&& (63 : Int32)))).toInt64), sc, un, un, un, un, un, un, un, un] rfl ?_
      have ht2 := own_t2 pk ((x6.toUInt32 >>> ((8 : Int32) &&& 31).toUInt32).toInt32) 63 hpk.1 (by decide) (by decide)
      generalize e_t2 : ((own_mxI (0 : Int32) (pk - (((x6.toUInt32 >>> ((8 : Int32) &&& 31).toUInt32).toInt32) &&& (63 : Int32)))).toInt64) = t2 at ht2 ⊢
      refine go_iconst C X4 131 rfl at_130 (z := 0) rfl ?_
      refine go_iload C X4 133 rfl at_131 rfl ?_
      refine go_iload C X4 135 rfl at_133 rfl ?_
      refine go_bipush C X4 137 rfl at_135 (z := 16) rfl ?_
      refine go_iushr C X4 138 rfl at_137 ?_
      refine go_iconst C X4 139 rfl at_138 (z := 3) rfl ?_
      refine go_iand C X4 140 rfl at_139 ?_
      refine go_isub C X4 141 rfl at_140 ?_
      refine go_callS C X4 (C.w 1 rfl) (C.w 2 rfl) (C.w 3 rfl) (C.w 4 rfl) (own_max l Z a0 C.ws (0 : Int32) (pk - (((x6.toUInt32 >>> ((16 : Int32) &&& 31).toUInt32).toInt32) &&& (3 : Int32))) h n0 X4.old ) (argsL := [(.int (0 : Int32)), (.int (pk - (((x6.toUInt32 >>> ((16 : Int32) &&& 31).toUInt32).toInt32) &&& (3 : Int32))))]) (rest := []) (lenOf pd_1 rfl) rfl (by decide) (by decide) (Nat.le_of_ble_eq_true rfl) (by decide) (by decide) rfl rfl (pc' := 144) rfl at_141 ?_
      rintro T6 _ _ ⟨rfl, rfl⟩ X7
      show Go p e below _ (T6.setTop (mkF m 144 #[iv x1, iv x2, iv x3, iv x4, iv x5, iv x6, iv ln, iv aa, iv bb, iv ff, iv kk, iv cc, iv jj, iv pk, jv t1, sc, jv t2, sc, un, un, un, un, un, un, un, un] [(.int (own_mxI (0 : Int32) (pk - (((x6.toUInt32 >>> ((16 : Int32) &&& 31).toUInt32).toInt32) &&& (3 : Int32)))))]))
      refine go_i2l C X7 145 rfl at_144 ?_
      refine go_lstore C X7 147 rfl at_145 #[iv x1, iv x2, iv x3, iv x4, iv x5, iv x6, iv ln, iv aa, iv bb, iv ff, iv kk, iv cc, iv jj, iv pk, jv t1, sc, jv t2, sc, jv ((own_mxI (0 : Int32) (pk - (((x6.toUInt32 >>> ((16 : Int32) &&& 31).toUInt32).toInt32) &&& (3 : Int32)))).toInt64), sc, un, un, un, un, un, un] rfl ?_
      have hr := own_t2 pk ((x6.toUInt32 >>> ((16 : Int32) &&& 31).toUInt32).toInt32) 3 hpk.1 (by decide) (by decide)
      generalize e_r : ((own_mxI (0 : Int32) (pk - (((x6.toUInt32 >>> ((16 : Int32) &&& 31).toUInt32).toInt32) &&& (3 : Int32)))).toInt64) = r at hr ⊢
      refine go_new C X7 (C.w 5 rfl) (C.w 6 rfl) (C.w 7 rfl) (by decide) (by decide) (pc' := 150) rfl at_147 (fun T9 h11 o ha_o ga_o E12 E13 D14 X10 => ?_)
      have F15 : Fld Z h11 o "com/example/tokushima/tokushima/SummaryBitmap" "bits" "[J" .null := D14 (Or.inl (C.w 16 rfl)) (ty := (.array .long)) (by decide)
      have F16 : Fld Z h11 o "com/example/tokushima/tokushima/SummaryBitmap" "words" "[J" .null := D14 (Or.inl (C.w 18 rfl)) (ty := (.array .long)) (by decide)
      have F17 : Fld Z h11 o "com/example/tokushima/tokushima/SummaryBitmap" "tops" "[J" .null := D14 (Or.inl (C.w 20 rfl)) (ty := (.array .long)) (by decide)
      refine go_dup C X10 151 rfl at_150 rfl ?_
      refine go_iload C X10 153 rfl at_151 rfl ?_
      have hsz_153 := X10.sz
      have lt_o_153 := E13.lt
      refine go_special C X10 (C.w 8 rfl) (C.w 9 rfl) (C.w 7 rfl) (C.w 10 rfl) rfl (own_init l Z a0 C.ws o ln h11 n0 X10.old E13 F15 F16 F17 ga_o hln.1 hln.2) (argsL := [(.int ln)]) (rest := [(.ref o)]) (lenOf pd_5 rfl) rfl (by decide) (by decide) (Nat.le_of_ble_eq_true rfl) (by decide) (by decide) rfl rfl (pc' := 156) rfl at_153 ?_
      rintro T18 h20 _ ⟨rfl, b1, b2, b3, K5, E5, F51, F52, F53, A51, A52, A53, sz51, sz52, sz53, n12, n13, n23⟩ X19
      show Go p e below _ (T18.setTop (mkF m 156 #[iv x1, iv x2, iv x3, iv x4, iv x5, iv x6, iv ln, iv aa, iv bb, iv ff, iv kk, iv cc, iv jj, iv pk, jv t1, sc, jv t2, sc, jv r, sc, un, un, un, un, un, un] [(.ref o)]))
      have ne_o_b1 : o ≠ b1 := Nat.ne_of_lt (Nat.lt_of_lt_of_le lt_o_153 sz51)
      have ga_b1 : n0 ≤ b1 := Nat.le_trans hsz_153 sz51
      have ne_o_b2 : o ≠ b2 := Nat.ne_of_lt (Nat.lt_of_lt_of_le lt_o_153 sz52)
      have ga_b2 : n0 ≤ b2 := Nat.le_trans hsz_153 sz52
      have ne_o_b3 : o ≠ b3 := Nat.ne_of_lt (Nat.lt_of_lt_of_le lt_o_153 sz53)
      have ga_b3 : n0 ≤ b3 := Nat.le_trans hsz_153 sz53
      have E21 := E13.keep K5
      refine go_astore C X19 158 rfl at_156 rfl #[iv x1, iv x2, iv x3, iv x4, iv x5, iv x6, iv ln, iv aa, iv bb, iv ff, iv kk, iv cc, iv jj, iv pk, jv t1, sc, jv t2, sc, jv r, sc, rv o, un, un, un, un, un] rfl ?_
      refine go_aload C X19 160 rfl at_158 rfl rfl ?_
      refine go_iload C X19 162 rfl at_160 rfl ?_
      refine go_virtual C X19 E5 (C.w 51 rfl) (C.w 52 rfl) (notFace_of_selects (args := #[]) (mvT C.hZ (C.w 54 rfl))) (C.w 54 rfl) (C.w 53 rfl) (C.w 7 rfl) (C.w 55 rfl) (own_clear l Z a0 C.ws o aa b1 (List.replicate (own_wd ln).toNatClampNeg (-1)) h20 n0 X19.old F51 A51 ga_b1 ne_o_b1 haa.1 (by rw [List.length_replicate]; omega) (own_clr_nz2 (Q := 0) haa.1 (by rw [List.length_replicate]; omega) (fun x _ => own_bit_rep _ x))) (argsL := [(.int aa)]) (rest := []) (lenOf pd_5 rfl) rfl (by decide) (by decide) (Nat.le_of_ble_eq_true rfl) (by decide) (by decide) rfl rfl (pc' := 165) rfl at_162 ?_
      rintro T22 h24 _ ⟨rfl, Kc, Ac⟩ X23
      show Go p e below _ (T22.setTop (mkF m 165 #[iv x1, iv x2, iv x3, iv x4, iv x5, iv x6, iv ln, iv aa, iv bb, iv ff, iv kk, iv cc, iv jj, iv pk, jv t1, sc, jv t2, sc, jv r, sc, rv o, un, un, un, un, un] []))
      have E25 := E5.keep Kc
      have F26 := F51.keep Kc (ninS ne_o_b1 nin0)
      have F27 := F52.keep Kc (ninS ne_o_b1 nin0)
      have F28 := F53.keep Kc (ninS ne_o_b1 nin0)
      have A29 := A52.keep Kc (ninS (Ne.symm n12) nin0)
      have A30 := A53.keep Kc (ninS (Ne.symm n13) nin0)
      replace Ac : La Z h24 b1 .long (ja (own_clr (List.replicate (own_wd ln).toNatClampNeg (-1)) aa)) := Ac
      refine go_aload C X23 167 rfl at_165 rfl rfl ?_
      refine go_iload C X23 169 rfl at_167 rfl ?_
      refine go_virtual C X23 E25 (C.w 51 rfl) (C.w 52 rfl) (notFace_of_selects (args := #[]) (mvT C.hZ (C.w 54 rfl))) (C.w 54 rfl) (C.w 53 rfl) (C.w 7 rfl) (C.w 55 rfl) (own_clear l Z a0 C.ws o bb b1 (own_clr (List.replicate (own_wd ln).toNatClampNeg (-1)) aa) h24 n0 X23.old F26 Ac ga_b1 ne_o_b1 hbb.1 (by rw [own_clr_len, List.length_replicate]; omega) (own_clr_nz2 (Q := aa.toNatClampNeg) hbb.1 (by rw [own_clr_len, List.length_replicate]; omega) (fun x hx => by rw [own_bit_clr haa.1 (by rw [List.length_replicate]; omega), own_bit_rep]; simp [hx]))) (argsL := [(.int bb)]) (rest := []) (lenOf pd_5 rfl) rfl (by decide) (by decide) (Nat.le_of_ble_eq_true rfl) (by decide) (by decide) rfl rfl (pc' := 172) rfl at_169 ?_
      rintro T31 h33 _ ⟨rfl, Kc, Ac⟩ X32
      show Go p e below _ (T31.setTop (mkF m 172 #[iv x1, iv x2, iv x3, iv x4, iv x5, iv x6, iv ln, iv aa, iv bb, iv ff, iv kk, iv cc, iv jj, iv pk, jv t1, sc, jv t2, sc, jv r, sc, rv o, un, un, un, un, un] []))
      have E34 := E25.keep Kc
      have F35 := F26.keep Kc (ninS ne_o_b1 nin0)
      have F36 := F27.keep Kc (ninS ne_o_b1 nin0)
      have F37 := F28.keep Kc (ninS ne_o_b1 nin0)
      have A38 := A29.keep Kc (ninS (Ne.symm n12) nin0)
      have A39 := A30.keep Kc (ninS (Ne.symm n13) nin0)
      replace Ac : La Z h33 b1 .long (ja (own_clr (own_clr (List.replicate (own_wd ln).toNatClampNeg (-1)) aa) bb)) := Ac
      refine go_aload C X32 174 rfl at_172 rfl rfl ?_
      refine go_iload C X32 176 rfl at_174 rfl ?_
      refine go_virtual C X32 E34 (C.w 56 rfl) (C.w 57 rfl) (notFace_of_selects (args := #[]) (mvT C.hZ (C.w 59 rfl))) (C.w 59 rfl) (C.w 58 rfl) (C.w 7 rfl) (C.w 60 rfl) (own_setM l Z a0 C.ws o cc b1 b2 b3 (own_clr (own_clr (List.replicate (own_wd ln).toNatClampNeg (-1)) aa) bb) h33 n0 X32.old F35 F36 F37 Ac A38 A39 ga_b1 ga_b2 ga_b3 ne_o_b1 ne_o_b2 ne_o_b3 n12 n13 n23 hcc.1 (by rw [own_clr_len, own_clr_len, List.length_replicate]; omega) (by omega)) (argsL := [(.int cc)]) (rest := []) (lenOf pd_5 rfl) rfl (by decide) (by decide) (Nat.le_of_ble_eq_true rfl) (by decide) (by decide) rfl rfl (pc' := 179) rfl at_176 ?_
      rintro T40 h42 _ ⟨rfl, Ks, As1, As2, As3⟩ X41
      show Go p e below _ (T40.setTop (mkF m 179 #[iv x1, iv x2, iv x3, iv x4, iv x5, iv x6, iv ln, iv aa, iv bb, iv ff, iv kk, iv cc, iv jj, iv pk, jv t1, sc, jv t2, sc, jv r, sc, rv o, un, un, un, un, un] []))
      have E43 := E34.keep Ks
      have F44 := F35.keep Ks (ninS ne_o_b1 (ninS ne_o_b2 (ninS ne_o_b3 nin0)))
      have F45 := F36.keep Ks (ninS ne_o_b1 (ninS ne_o_b2 (ninS ne_o_b3 nin0)))
      have F46 := F37.keep Ks (ninS ne_o_b1 (ninS ne_o_b2 (ninS ne_o_b3 nin0)))
      have hBit : ∀ x, own_bit (own_set (own_clr (own_clr (List.replicate (own_wd ln).toNatClampNeg (-1)) aa) bb) cc) x = (decide (x = cc.toNatClampNeg) || (!decide (x = aa.toNatClampNeg) && !decide (x = bb.toNatClampNeg))) := fun x => by
        rw [own_bit_set hcc.1 (by rw [own_clr_len, own_clr_len, List.length_replicate]; omega), own_bit_clr hbb.1 (by rw [own_clr_len, List.length_replicate]; omega), own_bit_clr haa.1 (by rw [List.length_replicate]; omega), own_bit_rep]
        cases decide (x = aa.toNatClampNeg) <;> cases decide (x = bb.toNatClampNeg) <;> cases decide (x = cc.toNatClampNeg) <;> rfl
      generalize e_bs3 : (own_set (own_clr (own_clr (List.replicate (own_wd ln).toNatClampNeg (-1)) aa) bb) cc) = bs3 at hBit As1
      have hb1 := own_exp_eq ht1.1 (by omega) haa.1 hbb.1 hcc.1 hBit
      have hb2 := own_exp_eq ht2.1 (by omega) haa.1 hbb.1 hcc.1 hBit
      refine go_aload C X41 181 rfl at_179 rfl rfl ?_
      refine go_lload C X41 183 rfl at_181 rfl ?_
      refine go_virtual C X41 E43 (C.w 61 rfl) (C.w 62 rfl) (notFace_of_selects (args := #[]) (mvT C.hZ (C.w 64 rfl))) (C.w 64 rfl) (C.w 63 rfl) (C.w 7 rfl) (C.w 65 rfl) (own_bfM l Z a0 C.ws o t1 b1 bs3 h42 n0 X41.old F44 As1 ht1.1) (argsL := [(.long t1)]) (rest := []) (lenOf pd_8 rfl) rfl (by decide) (by decide) (Nat.le_of_ble_eq_true rfl) (by decide) (by decide) rfl rfl (pc' := 186) rfl at_183 ?_
      rintro T47 _ _ ⟨rfl, rfl⟩ X48
      show Go p e below _ (T47.setTop (mkF m 186 #[iv x1, iv x2, iv x3, iv x4, iv x5, iv x6, iv ln, iv aa, iv bb, iv ff, iv kk, iv cc, iv jj, iv pk, jv t1, sc, jv t2, sc, jv r, sc, rv o, un, un, un, un, un] [(.long (own_bf bs3 t1))]))
      rw [hb1]
      refine go_lload C X48 188 rfl at_186 rfl ?_
      refine go_iload C X48 190 rfl at_188 rfl ?_
      refine go_iload C X48 192 rfl at_190 rfl ?_
      refine go_iload C X48 194 rfl at_192 rfl ?_
      refine go_callS C X48 (C.w 70 rfl) (C.w 71 rfl) (C.w 72 rfl) (C.w 73 rfl) (own_expM l Z a0 C.ws t1 aa bb cc h42 n0 X48.old ) (argsL := [(.long t1), (.int aa), (.int bb), (.int cc)]) (rest := [(.long (own_exp t1 aa bb cc))]) (lenOf pd_10 rfl) rfl (by decide) (by decide) (Nat.le_of_ble_eq_true rfl) (by decide) (by decide) rfl rfl (pc' := 197) rfl at_194 ?_
      rintro T50 _ _ ⟨rfl, rfl⟩ X51
      show Go p e below _ (T50.setTop (mkF m 197 #[iv x1, iv x2, iv x3, iv x4, iv x5, iv x6, iv ln, iv aa, iv bb, iv ff, iv kk, iv cc, iv jj, iv pk, jv t1, sc, jv t2, sc, jv r, sc, rv o, un, un, un, un, un] [(.long (own_exp t1 aa bb cc)), (.long (own_exp t1 aa bb cc))]))
      refine go_lif_ne C X51 (pc1 := 198) rfl at_197 at_198 (pc' := 201) (pc2 := 205) rfl (by decide) (by decide) (fun (c198 : ¬ (own_exp t1 aa bb cc) = (own_exp t1 aa bb cc)) => False.elim (by first | exact c198 rfl | omega)) (fun (c198 : (own_exp t1 aa bb cc) = (own_exp t1 aa bb cc)) => ?_)
      refine go_iconst C X51 202 rfl at_201 (z := 1) rfl ?_
      refine go_goto C X51 at_202 (pc' := 206) (by decide) (by decide) ?_
      refine go_istore C X51 208 rfl at_206 #[iv x1, iv x2, iv x3, iv x4, iv x5, iv x6, iv ln, iv aa, iv bb, iv ff, iv kk, iv cc, iv jj, iv pk, jv t1, sc, jv t2, sc, jv r, sc, rv o, iv (1 : Int32), un, un, un, un] rfl ?_
      refine go_aload C X51 210 rfl at_208 rfl rfl ?_
      refine go_lload C X51 212 rfl at_210 rfl ?_
      refine go_virtual C X51 E43 (C.w 61 rfl) (C.w 62 rfl) (notFace_of_selects (args := #[]) (mvT C.hZ (C.w 64 rfl))) (C.w 64 rfl) (C.w 63 rfl) (C.w 7 rfl) (C.w 65 rfl) (own_bfM l Z a0 C.ws o t2 b1 bs3 h42 n0 X51.old F44 As1 ht2.1) (argsL := [(.long t2)]) (rest := []) (lenOf pd_8 rfl) rfl (by decide) (by decide) (Nat.le_of_ble_eq_true rfl) (by decide) (by decide) rfl rfl (pc' := 215) rfl at_212 ?_
      rintro T53 _ _ ⟨rfl, rfl⟩ X54
      show Go p e below _ (T53.setTop (mkF m 215 #[iv x1, iv x2, iv x3, iv x4, iv x5, iv x6, iv ln, iv aa, iv bb, iv ff, iv kk, iv cc, iv jj, iv pk, jv t1, sc, jv t2, sc, jv r, sc, rv o, iv (1 : Int32), un, un, un, un] [(.long (own_bf bs3 t2))]))
      rw [hb2]
      refine go_lload C X54 217 rfl at_215 rfl ?_
      refine go_iload C X54 219 rfl at_217 rfl ?_
      refine go_iload C X54 221 rfl at_219 rfl ?_
      refine go_iload C X54 223 rfl at_221 rfl ?_
      refine go_callS C X54 (C.w 70 rfl) (C.w 71 rfl) (C.w 72 rfl) (C.w 73 rfl) (own_expM l Z a0 C.ws t2 aa bb cc h42 n0 X54.old ) (argsL := [(.long t2), (.int aa), (.int bb), (.int cc)]) (rest := [(.long (own_exp t2 aa bb cc))]) (lenOf pd_10 rfl) rfl (by decide) (by decide) (Nat.le_of_ble_eq_true rfl) (by decide) (by decide) rfl rfl (pc' := 226) rfl at_223 ?_
      rintro T56 _ _ ⟨rfl, rfl⟩ X57
      show Go p e below _ (T56.setTop (mkF m 226 #[iv x1, iv x2, iv x3, iv x4, iv x5, iv x6, iv ln, iv aa, iv bb, iv ff, iv kk, iv cc, iv jj, iv pk, jv t1, sc, jv t2, sc, jv r, sc, rv o, iv (1 : Int32), un, un, un, un] [(.long (own_exp t2 aa bb cc)), (.long (own_exp t2 aa bb cc))]))
      refine go_lif_ne C X57 (pc1 := 227) rfl at_226 at_227 (pc' := 230) (pc2 := 234) rfl (by decide) (by decide) (fun (c227 : ¬ (own_exp t2 aa bb cc) = (own_exp t2 aa bb cc)) => False.elim (by first | exact c227 rfl | omega)) (fun (c227 : (own_exp t2 aa bb cc) = (own_exp t2 aa bb cc)) => ?_)
      refine go_iconst C X57 231 rfl at_230 (z := 1) rfl ?_
      refine go_goto C X57 at_231 (pc' := 235) (by decide) (by decide) ?_
      refine go_istore C X57 237 rfl at_235 #[iv x1, iv x2, iv x3, iv x4, iv x5, iv x6, iv ln, iv aa, iv bb, iv ff, iv kk, iv cc, iv jj, iv pk, jv t1, sc, jv t2, sc, jv r, sc, rv o, iv (1 : Int32), iv (1 : Int32), un, un, un] rfl ?_
      have hr1 : (r + 1).toInt = r.toInt + 1 := l_add rfl rfl (by omega) (by omega)
      have hr2 : (r + 2).toInt = r.toInt + 2 := l_add rfl rfl (by omega) (by omega)
      have sp1 := own_on_spec (x := r) (a := aa) (b := bb) (c := cc)
      have sp2 := own_on_spec (x := r + 1) (a := aa) (b := bb) (c := cc)
      rw [hr1] at sp2
      have J59 : ∀ (ee : Int64) (T60 : State) (h62 : Heap) (X61 : St Z p l e room_1 s m #[(.int x1), (.int x2), (.int x3), (.int x4), (.int x5), (.int x6)] below meth c n0 T60 h62 (0 + 1 + 6) (0 + 3 + 48)) (hee : ee.toInt = if (r.toInt = cc.toInt ∨ (¬ r.toInt = aa.toInt ∧ ¬ r.toInt = bb.toInt)) then r.toInt else if (r.toInt + 1 = cc.toInt ∨ (¬ r.toInt + 1 = aa.toInt ∧ ¬ r.toInt + 1 = bb.toInt)) then r.toInt + 1 else r.toInt + 2) (E63 : Exa Z h62 o "com/example/tokushima/tokushima/SummaryBitmap") (F64 : Fld Z h62 o "com/example/tokushima/tokushima/SummaryBitmap" "bits" "[J" (.ref b1)) (F65 : Fld Z h62 o "com/example/tokushima/tokushima/SummaryBitmap" "words" "[J" (.ref b2)) (F66 : Fld Z h62 o "com/example/tokushima/tokushima/SummaryBitmap" "tops" "[J" (.ref b3)) (A67 : La Z h62 b1 .long (ja bs3)) (A68 : La Z h62 b2 .long (ja [-1])) (A69 : La Z h62 b3 .long (ja [-1])), Go p e below (FinQ s room_1.cells room_1.slots n0 (fun v h' => v = some (.int 1))) (T60.setTop (mkF m 291 #[iv x1, iv x2, iv x3, iv x4, iv x5, iv x6, iv ln, iv aa, iv bb, iv ff, iv kk, iv cc, iv jj, iv pk, jv t1, sc, jv t2, sc, jv r, sc, rv o, iv (1 : Int32), iv (1 : Int32), jv ee, sc, un] [])) := by
        intro ee T60 h62 X61 hee  E63 F64 F65 F66 A67 A68 A69
        have hnx := own_next_on hr.1 (by omega) haa.1 hbb.1 hcc.1 hBit hee
        refine go_aload C X61 293 rfl at_291 rfl rfl ?_
        refine go_lload C X61 295 rfl at_293 rfl ?_
        refine go_virtual C X61 E63 (C.w 81 rfl) (C.w 82 rfl) (notFace_of_selects (args := #[]) (mvT C.hZ (C.w 84 rfl))) (C.w 84 rfl) (C.w 83 rfl) (C.w 7 rfl) (C.w 85 rfl) (own_nextM l Z a0 C.ws o r b1 b2 bs3 h62 n0 X61.old E63 F65 A68 F64 A67 hr.1) (argsL := [(.long r)]) (rest := []) (lenOf pd_8 rfl) rfl (by decide) (by decide) (Nat.le_of_ble_eq_true rfl) (by decide) (by decide) rfl rfl (pc' := 298) rfl at_295 ?_
        rintro T70 _ _ ⟨rfl, rfl⟩ X71
        show Go p e below _ (T70.setTop (mkF m 298 #[iv x1, iv x2, iv x3, iv x4, iv x5, iv x6, iv ln, iv aa, iv bb, iv ff, iv kk, iv cc, iv jj, iv pk, jv t1, sc, jv t2, sc, jv r, sc, rv o, iv (1 : Int32), iv (1 : Int32), jv ee, sc, un] [(.long (own_next bs3 r))]))
        rw [hnx]
        refine go_lload C X71 300 rfl at_298 rfl ?_
        refine go_lif_ne C X71 (pc1 := 301) rfl at_300 at_301 (pc' := 304) (pc2 := 308) rfl (by decide) (by decide) (fun (c301 : ¬ ee = ee) => False.elim (by first | exact c301 rfl | omega)) (fun (c301 : ee = ee) => ?_)
        refine go_iconst C X71 305 rfl at_304 (z := 1) rfl ?_
        refine go_goto C X71 at_305 (pc' := 309) (by decide) (by decide) ?_
        refine go_istore C X71 311 rfl at_309 #[iv x1, iv x2, iv x3, iv x4, iv x5, iv x6, iv ln, iv aa, iv bb, iv ff, iv kk, iv cc, iv jj, iv pk, jv t1, sc, jv t2, sc, jv r, sc, rv o, iv (1 : Int32), iv (1 : Int32), jv ee, sc, iv (1 : Int32)] rfl ?_
        refine go_iload C X71 313 rfl at_311 rfl ?_
        refine go_if_eq C X71 at_313 (pc' := 316) (pc2 := 330) rfl (by decide) (by decide) (fun (c313 : (1 : Int32) = (0 : Int32)) => False.elim (by first | omega | exact absurd c313 (by decide))) (fun (c313 : ¬ (1 : Int32) = (0 : Int32)) => ?_)
        refine go_iload C X71 318 rfl at_316 rfl ?_
        refine go_if_eq C X71 at_318 (pc' := 321) (pc2 := 330) rfl (by decide) (by decide) (fun (c318 : (1 : Int32) = (0 : Int32)) => False.elim (by first | omega | exact absurd c318 (by decide))) (fun (c318 : ¬ (1 : Int32) = (0 : Int32)) => ?_)
        refine go_iload C X71 323 rfl at_321 rfl ?_
        refine go_if_eq C X71 at_323 (pc' := 326) (pc2 := 330) rfl (by decide) (by decide) (fun (c323 : (1 : Int32) = (0 : Int32)) => False.elim (by first | omega | exact absurd c323 (by decide))) (fun (c323 : ¬ (1 : Int32) = (0 : Int32)) => ?_)
        refine go_iconst C X71 327 rfl at_326 (z := 1) rfl ?_
        refine go_goto C X71 at_327 (pc' := 331) (by decide) (by decide) ?_
        exact go_retN C X71 (by simp) (z' := 1) rfl at_331 rfl (by decide) (by decide)
      refine go_lload C X57 239 rfl at_237 rfl ?_
      refine go_iload C X57 241 rfl at_239 rfl ?_
      refine go_iload C X57 243 rfl at_241 rfl ?_
      refine go_iload C X57 245 rfl at_243 rfl ?_
      refine go_callS C X57 (C.w 78 rfl) (C.w 79 rfl) (C.w 72 rfl) (C.w 80 rfl) (own_onM l Z a0 C.ws r aa bb cc h42 n0 X57.old ) (argsL := [(.long r), (.int aa), (.int bb), (.int cc)]) (rest := []) (lenOf pd_11 rfl) rfl (by decide) (by decide) (Nat.le_of_ble_eq_true rfl) (by decide) (by decide) rfl rfl (pc' := 248) rfl at_245 ?_
      rintro T73 _ _ ⟨rfl, rfl⟩ X74
      show Go p e below _ (T73.setTop (mkF m 248 #[iv x1, iv x2, iv x3, iv x4, iv x5, iv x6, iv ln, iv aa, iv bb, iv ff, iv kk, iv cc, iv jj, iv pk, jv t1, sc, jv t2, sc, jv r, sc, rv o, iv (1 : Int32), iv (1 : Int32), un, un, un] [(.int (own_on r aa bb cc))]))
      refine go_if_eq C X74 at_248 (pc' := 251) (pc2 := 258) rfl (by decide) (by decide) (fun (c248 : (own_on r aa bb cc) = (0 : Int32)) => ?_) (fun (c248 : ¬ (own_on r aa bb cc) = (0 : Int32)) => ?_)
      · refine go_lload C X74 260 rfl at_258 rfl ?_
        refine go_lconst C X74 261 rfl at_260 (z := 1) rfl ?_
        refine go_ladd C X74 262 rfl at_261 ?_
        refine go_iload C X74 264 rfl at_262 rfl ?_
        refine go_iload C X74 266 rfl at_264 rfl ?_
        refine go_iload C X74 268 rfl at_266 rfl ?_
        refine go_callS C X74 (C.w 78 rfl) (C.w 79 rfl) (C.w 72 rfl) (C.w 80 rfl) (own_onM l Z a0 C.ws (r + (1 : Int64)) aa bb cc h42 n0 X74.old ) (argsL := [(.long (r + (1 : Int64))), (.int aa), (.int bb), (.int cc)]) (rest := []) (lenOf pd_11 rfl) rfl (by decide) (by decide) (Nat.le_of_ble_eq_true rfl) (by decide) (by decide) rfl rfl (pc' := 271) rfl at_268 ?_
        rintro T76 _ _ ⟨rfl, rfl⟩ X77
        show Go p e below _ (T76.setTop (mkF m 271 #[iv x1, iv x2, iv x3, iv x4, iv x5, iv x6, iv ln, iv aa, iv bb, iv ff, iv kk, iv cc, iv jj, iv pk, jv t1, sc, jv t2, sc, jv r, sc, rv o, iv (1 : Int32), iv (1 : Int32), un, un, un] [(.int (own_on (r + (1 : Int64)) aa bb cc))]))
        refine go_if_eq C X77 at_271 (pc' := 274) (pc2 := 283) rfl (by decide) (by decide) (fun (c271 : (own_on (r + (1 : Int64)) aa bb cc) = (0 : Int32)) => ?_) (fun (c271 : ¬ (own_on (r + (1 : Int64)) aa bb cc) = (0 : Int32)) => ?_)
        · refine go_lload C X77 285 rfl at_283 rfl ?_
          refine go_ldc2Long C X77 (C.w 100 rfl) (pc' := 288) rfl at_285 ?_
          refine go_ladd C X77 289 rfl at_288 ?_
          refine go_lstore C X77 291 rfl at_289 #[iv x1, iv x2, iv x3, iv x4, iv x5, iv x6, iv ln, iv aa, iv bb, iv ff, iv kk, iv cc, iv jj, iv pk, jv t1, sc, jv t2, sc, jv r, sc, rv o, iv (1 : Int32), iv (1 : Int32), jv (r + (2 : Int64)), sc, un] rfl ?_
          exact J59 (r + (2 : Int64)) _ _ X77 ((by rw [if_neg (sp1.mp c248), if_neg (sp2.mp c271)]; exact hr2)) E43 F44 F45 F46 As1 As2 As3
        · refine go_lload C X77 276 rfl at_274 rfl ?_
          refine go_lconst C X77 277 rfl at_276 (z := 1) rfl ?_
          refine go_ladd C X77 278 rfl at_277 ?_
          refine go_lstore C X77 280 rfl at_278 #[iv x1, iv x2, iv x3, iv x4, iv x5, iv x6, iv ln, iv aa, iv bb, iv ff, iv kk, iv cc, iv jj, iv pk, jv t1, sc, jv t2, sc, jv r, sc, rv o, iv (1 : Int32), iv (1 : Int32), jv (r + (1 : Int64)), sc, un] rfl ?_
          refine go_goto C X77 at_280 (pc' := 291) (by decide) (by decide) ?_
          exact J59 (r + (1 : Int64)) _ _ X77 ((by rw [if_neg (sp1.mp c248), if_pos (Classical.byContradiction fun q => c271 (sp2.mpr q))]; exact hr1)) E43 F44 F45 F46 As1 As2 As3
      · refine go_lload C X74 253 rfl at_251 rfl ?_
        refine go_lstore C X74 255 rfl at_253 #[iv x1, iv x2, iv x3, iv x4, iv x5, iv x6, iv ln, iv aa, iv bb, iv ff, iv kk, iv cc, iv jj, iv pk, jv t1, sc, jv t2, sc, jv r, sc, rv o, iv (1 : Int32), iv (1 : Int32), jv r, sc, un] rfl ?_
        refine go_goto C X74 at_255 (pc' := 291) (by decide) (by decide) ?_
        exact J59 r _ _ X74 ((if_pos (Classical.byContradiction fun q => c248 (sp1.mpr q))).symm) E43 F44 F45 F46 As1 As2 As3
    refine go_iload C X0 81 rfl at_79 rfl ?_
    refine go_if_ne C X0 at_81 (pc' := 84) (pc2 := 89) rfl (by decide) (by decide) (fun (c81 : ¬ jj = (0 : Int32)) => ?_) (fun (c81 : jj = (0 : Int32)) => ?_)
    · refine go_iload C X0 91 rfl at_89 rfl ?_
      refine go_iconst C X0 92 rfl at_91 (z := 1) rfl ?_
      refine go_icmp_ne C X0 at_92 (pc' := 95) (pc2 := 100) rfl (by decide) (by decide) (fun (c92 : ¬ jj = (1 : Int32)) => ?_) (fun (c92 : jj = (1 : Int32)) => ?_)
      · refine go_iload C X0 102 rfl at_100 rfl ?_
        exact J2 cc (hcc)
      · refine go_iload C X0 97 rfl at_95 rfl ?_
        refine go_goto C X0 at_97 (pc' := 102) (by decide) (by decide) ?_
        exact J2 bb (hbb)
    · refine go_iload C X0 86 rfl at_84 rfl ?_
      refine go_goto C X0 at_86 (pc' := 102) (by decide) (by decide) ?_
      exact J2 aa (haa)
  refine go_iload C X0 47 rfl at_45 rfl ?_
  refine go_if_ne C X0 at_47 (pc' := 50) (pc2 := 55) rfl (by decide) (by decide) (fun (c47 : ¬ kk = (0 : Int32)) => ?_) (fun (c47 : kk = (0 : Int32)) => ?_)
  · refine go_iload C X0 57 rfl at_55 rfl ?_
    refine go_iconst C X0 58 rfl at_57 (z := 1) rfl ?_
    refine go_icmp_ne C X0 at_58 (pc' := 61) (pc2 := 66) rfl (by decide) (by decide) (fun (c58 : ¬ kk = (1 : Int32)) => ?_) (fun (c58 : kk = (1 : Int32)) => ?_)
    · refine go_iload C X0 68 rfl at_66 rfl ?_
      exact J1 ff (hff)
    · refine go_iload C X0 63 rfl at_61 rfl ?_
      refine go_goto C X0 at_63 (pc' := 68) (by decide) (by decide) ?_
      exact J1 bb (hbb)
  · refine go_iload C X0 52 rfl at_50 rfl ?_
    refine go_goto C X0 at_52 (pc' := 68) (by decide) (by decide) ?_
    exact J1 aa (haa)
set_option maxRecDepth 65536 in
set_option maxHeartbeats 40000000 in
theorem comes_1 {Post : Tables → Env → Array Value → State → Outcome → State → Prop} (hpost : ∀ tb e args s v u, (limb_1_1.after args s (.returned v) u = true ∧ limb_1_2.after args s (.returned v) u = true ∧ True) → FrameEnd s (.returned v) u (Jvm.fieldLocs frame_1_writes args s ++ Jvm.arrayLocs frame_1_arrays args s ++ Jvm.staticLocs frame_1_statics s) 24 128 → Post tb e args s (.returned v) u) :
    ArmFor flags0 classFile x code maxLocals ret World_1 tables_1 room_1 Calls_1 rest_1 Pre_1 Post := by
  intro l hfl _ _ p e ha hc hk s m args below hf hA hF happ hP
  obtain ⟨hcalls, hrest, hpre⟩ := hP
  obtain ⟨-, -, -, hnamed, -, -, -, hat⟩ := (Spec.applies_iff hf).mp happ
  obtain ⟨hg, hn⟩ := and_e (Cond.before_iff.mp (show (Jvm.Cond.and given_1 narrow_1).before args s = true from hpre))
  obtain ⟨g1, g2⟩ := and_e hg
  obtain ⟨g3, g4⟩ := and_e g2
  obtain ⟨g5, g6⟩ := and_e g4
  obtain ⟨g7, g8⟩ := and_e g6
  obtain ⟨g9, g10⟩ := and_e g8
  obtain ⟨g11, g12⟩ := and_e g10
  obtain ⟨w0, w1, w2, w3, w4, w5, rfl⟩ : ∃ w0 w1 w2 w3 w4 w5 : Value, args = #[w0, w1, w2, w3, w4, w5] := by
    have hs : args.size = 6 := by simpa [Cond.value, given_1] using g1
    obtain ⟨L⟩ := args
    match L, hs with
    | [w0, w1, w2, w3, w4, w5], _ => exact ⟨w0, w1, w2, w3, w4, w5, rfl⟩
  have hw := fun d (hd : d ∈ tables_1) => atoms_spec (ws := Jvm.Cond.code x code maxLocals ret :: tables_1) hat d (List.mem_cons_of_mem _ hd)
  have hfit : Fit s := fun {y c} hc i hi => by
    obtain ⟨ha, rfl⟩ := Array.getElem?_eq_some_iff.mp hc
    have q := List.all_eq_true.mp ((Array.all_eq_true_iff_forall_mem.mp hF) _ (Array.getElem_mem ha)) i (List.mem_range.mpr hi)
    simpa [Array.getElem?_eq_getElem hi] using q
  obtain ⟨i0, ei0⟩ := is_v g3
  obtain rfl : w0 = (.int i0) := Option.some.inj ei0
  obtain ⟨i1, ei1⟩ := is_v g5
  obtain rfl : w1 = (.int i1) := Option.some.inj ei1
  obtain ⟨i2, ei2⟩ := is_v g7
  obtain rfl : w2 = (.int i2) := Option.some.inj ei2
  obtain ⟨i3, ei3⟩ := is_v g9
  obtain rfl : w3 = (.int i3) := Option.some.inj ei3
  obtain ⟨i4, ei4⟩ := is_v g11
  obtain rfl : w4 = (.int i4) := Option.some.inj ei4
  obtain ⟨i5, ei5⟩ := is_v g12
  obtain rfl : w5 = (.int i5) := Option.some.inj ei5
  obtain ⟨n, o, h1, h2, h3, _, L, rfl, ⟨N, rfl⟩, hq⟩ := own_law l s _ hw i0 i1 i2 i3 i4 i5  s.heap s.heap.size (Old.start s)  tables_1 p e ha hc hk s m _ below hf ((Spec.applies_iff_loose hf).mp happ).1 ⟨rfl, State.Warmed39.refl s, rfl⟩ trivial
  refine ⟨n, _, h1, h2, h3, hpost _ _ _ _ _ _ ⟨Cond.after_iff.mpr rfl, Cond.after_iff.mpr (eq_i res_at (Term.int_eval (1)) rfl), trivial⟩ ⟨hq.1, hq.2.1, (hq.2.2.sift fun y hy => Or.inr (N y hy)).mono (by decide) (by decide)⟩⟩
theorem main_1_1 : Claimed_1_1 := comes_1 fun _ _ _ _ _ _ h hF => ⟨h.1, hF⟩
theorem main_1_2 : Claimed_1_2 := comes_1 fun _ _ _ _ _ _ h hF => ⟨h.2.1, hF⟩

end Jvm.Pilot.@@N@@
namespace Jvm.Pilot.@@N@@
open Jvm Jvm.ClassFile Sem Op Lib Jvm.Free Jvm.Stand Jvm.Pilot.@@N@@.Jvm.D
/-! MADE BY PROGRAM (witnessworld.py) out of the Statement's table words and the real class files: 20 classes; the members and pool entries that the words name. The judged class is class 1, her method 1. -/
namespace start1
open Jvm.ClassFile
def u (s : String) : CpInfo := .utf8 (stringToUtf16 s)
/-- a pool by its gaps: so many unusable entries, then the entry; so many at the end -/
def gap : Nat → List CpInfo → List CpInfo
  | 0, r => r
  | n + 1, r => .unusable :: gap n r
def poolList (es : List (Nat × CpInfo)) (last : Nat) : List CpInfo := es.foldr (fun e r => gap e.1 (e.2 :: r)) (gap last [])
def pool (es : List (Nat × CpInfo)) (last : Nat) : Array CpInfo := ⟨poolList es last⟩
def fileOf (pool : Array CpInfo) (this : Nat) (attrs : Array Attribute := #[]) (ms : Array MethodInfo := #[]) (fl : Nat := 33) (sup : Nat := 0) (ifs : Array Nat := #[]) (fds : Array FieldInfo := #[]) : ClassFile where
  minorVersion := 0
  majorVersion := 65
  constantPool := pool
  accessFlags := fl
  thisClass := this
  superClass := sup
  interfaces := ifs
  fields := fds
  methods := ms
  attributes := attrs
def plain (name : String) (sup : Option ClassId) : Class where
  name := name
  kind := .ordinary
  loader := none
  accessFlags := 33
  super := sup
  interfaces := #[]
  cf := none
  fields := #[]
  methods := #[]
  instanceTypes := #[]
  staticTypes := #[]
  resolved := #[]
  callSites := []
  init := .initialized
  statics := none
  mirror := none

def pool0 : Array CpInfo := pool [(5, u "<init>"), (0, u "()V"), (1, .class_ 10), (1, u "java/lang/Object")] 113

def k0c0 : Code := { maxStack := 0, maxLocals := 1, code := object_method_1_code, exceptionTable := #[], attributes := #[] }
def k0m0 : Method := { name := "<init>", desc := "()V", sig := { parameters := [], returnType := none }, accessFlags := 1, code := some k0c0 }
/-- java/lang/Object -/
def k0 : Class := { plain "java/lang/Object" none with
  accessFlags := 33
  interfaces := #[]
  cf := some (fileOf pool0 8 #[] #[{ accessFlags := 1, nameIndex := 5, descriptorIndex := 6, attributes := #[] }] 33 0 #[] #[])
  fields := #[]
  methods := #[k0m0]
  instanceTypes := #[]
  staticTypes := #[]
  resolved := Array.replicate 124 none
  statics := none }

def pool1 : Array CpInfo := pool [(2, .class_ 4), (1, u "java/lang/Object"), (0, u "<init>"), (0, u "()V"), (0, .integer 2147483647), (0, .methodref 9 10), (0, .class_ 11), (0, .nameAndType 12 13), (0, u "java/lang/Math"), (0, u "max"), (0, u "(II)I"), (0, .class_ 15), (0, u "com/example/tokushima/tokushima/SummaryBitmap"), (0, .methodref 14 17), (0, .nameAndType 5 18), (0, u "(I)V"), (0, .methodref 14 20), (0, .nameAndType 21 18), (0, u "clear"), (0, .methodref 14 23), (0, .nameAndType 24 18), (0, u "set"), (0, .methodref 14 26), (0, .nameAndType 27 28), (0, u "bitsFrom"), (0, u "(J)J"), (0, .methodref 30 31), (0, .class_ 32), (0, .nameAndType 33 34), (0, u "com/example/tokushima/tokushima/SummaryBitmapSetPinLaw"), (0, u "expected"), (0, u "(JIII)J"), (0, .methodref 30 36), (0, .nameAndType 37 38), (0, u "on"), (0, u "(JIII)Z"), (0, .long 2), (1, .methodref 14 42), (0, .nameAndType 43 28), (0, u "next"), (0, .long 18446744073709551615), (1, .methodref 30 47), (0, .nameAndType 48 49), (0, u "cleared"), (0, u "(JJII)J"), (0, .long 64), (3, u "law"), (0, u "(IIIIII)Z")] 3

def k1m0 : Method := { name := "<init>", desc := "()V", sig := { parameters := [], returnType := none }, accessFlags := 1, code := none }
def k1c1 : Code := { maxStack := 7, maxLocals := 26, code := code, exceptionTable := #[], attributes := #[] }
def k1m1 : Method := { name := "law", desc := "(IIIIII)Z", sig := { parameters := [.int, .int, .int, .int, .int, .int], returnType := some .boolean }, accessFlags := 9, code := some k1c1 }
def k1c2 : Code := { maxStack := 4, maxLocals := 5, code := method_3_code, exceptionTable := #[], attributes := #[] }
def k1m2 : Method := { name := "on", desc := "(JIII)Z", sig := { parameters := [.long, .int, .int, .int], returnType := some .boolean }, accessFlags := 10, code := some k1c2 }
def k1c3 : Code := { maxStack := 6, maxLocals := 7, code := method_4_code, exceptionTable := #[], attributes := #[] }
def k1m3 : Method := { name := "expected", desc := "(JIII)J", sig := { parameters := [.long, .int, .int, .int], returnType := some .long }, accessFlags := 10, code := some k1c3 }
def k1c4 : Code := { maxStack := 6, maxLocals := 8, code := method_5_code, exceptionTable := #[], attributes := #[] }
def k1m4 : Method := { name := "cleared", desc := "(JJII)J", sig := { parameters := [.long, .long, .int, .int], returnType := some .long }, accessFlags := 10, code := some k1c4 }
/-- com/example/tokushima/tokushima/SummaryBitmapSetPinLaw -/
def k1 : Class := { plain "com/example/tokushima/tokushima/SummaryBitmapSetPinLaw" (some 0) with
  accessFlags := 49
  interfaces := #[]
  cf := some (fileOf pool1 30 #[] #[{ accessFlags := 1, nameIndex := 5, descriptorIndex := 6, attributes := #[] }, { accessFlags := 9, nameIndex := 54, descriptorIndex := 55, attributes := #[] }, { accessFlags := 10, nameIndex := 37, descriptorIndex := 38, attributes := #[] }, { accessFlags := 10, nameIndex := 33, descriptorIndex := 34, attributes := #[] }, { accessFlags := 10, nameIndex := 48, descriptorIndex := 49, attributes := #[] }] 49 2 #[] #[])
  fields := #[]
  methods := #[k1m0, k1m1, k1m2, k1m3, k1m4]
  instanceTypes := #[]
  staticTypes := #[]
  resolved := Array.replicate 59 none
  statics := none }

def pool2 : Array CpInfo := pool [(1, .class_ 2), (0, u "java/lang/Math"), (1, .class_ 6), (1, u "java/lang/Object"), (0, u "<init>"), (0, u "()V"), (89, .class_ 100), (1, u "java/lang/Math$RandomNumberGeneratorHolder"), (71, u "negativeZeroFloatBits"), (0, u "J"), (2, u "negativeZeroDoubleBits"), (21, u "max"), (2, u "min"), (43, u "$assertionsDisabled"), (0, u "Z"), (88, u "(II)I"), (2, u "twoToTheDoubleScaleDown"), (0, u "D"), (4, u "twoToTheDoubleScaleUp"), (9, u "E"), (3, u "PI"), (2, u "TAU"), (2, u "DEGREES_TO_RADIANS"), (0, u "RADIANS_TO_DEGREES")] 94

def k2m0 : Method := { name := "<init>", desc := "()V", sig := { parameters := [], returnType := none }, accessFlags := 2, code := none }
def k2c1 : Code := { maxStack := 2, maxLocals := 2, code := jdk_29_method_65_code, exceptionTable := #[], attributes := #[] }
def k2m1 : Method := { name := "max", desc := "(II)I", sig := { parameters := [.int, .int], returnType := some .int }, accessFlags := 9, code := some k2c1 }
def k2c2 : Code := { maxStack := 2, maxLocals := 2, code := jdk_29_method_69_code, exceptionTable := #[], attributes := #[] }
def k2m2 : Method := { name := "min", desc := "(II)I", sig := { parameters := [.int, .int], returnType := some .int }, accessFlags := 9, code := some k2c2 }
/-- java/lang/Math -/
def k2 : Class := { plain "java/lang/Math" (some 0) with
  accessFlags := 49
  interfaces := #[]
  cf := some (fileOf pool2 1 #[.nestMembers #[98]] #[{ accessFlags := 2, nameIndex := 7, descriptorIndex := 8, attributes := #[] }, { accessFlags := 9, nameIndex := 198, descriptorIndex := 335, attributes := #[] }, { accessFlags := 9, nameIndex := 201, descriptorIndex := 335, attributes := #[] }] 49 4 #[] #[{ accessFlags := 25, nameIndex := 354, descriptorIndex := 339, attributes := #[] }, { accessFlags := 25, nameIndex := 358, descriptorIndex := 339, attributes := #[] }, { accessFlags := 25, nameIndex := 361, descriptorIndex := 339, attributes := #[] }, { accessFlags := 26, nameIndex := 364, descriptorIndex := 339, attributes := #[] }, { accessFlags := 26, nameIndex := 365, descriptorIndex := 339, attributes := #[] }, { accessFlags := 26, nameIndex := 172, descriptorIndex := 173, attributes := #[] }, { accessFlags := 26, nameIndex := 176, descriptorIndex := 173, attributes := #[] }, { accessFlags := 8, nameIndex := 344, descriptorIndex := 339, attributes := #[] }, { accessFlags := 8, nameIndex := 338, descriptorIndex := 339, attributes := #[] }, { accessFlags := 4120, nameIndex := 245, descriptorIndex := 246, attributes := #[] }])
  fields := #[{ name := "E", type := .double, accessFlags := 25, slot := 0, constantValue := 0 }, { name := "PI", type := .double, accessFlags := 25, slot := 1, constantValue := 0 }, { name := "TAU", type := .double, accessFlags := 25, slot := 2, constantValue := 0 }, { name := "DEGREES_TO_RADIANS", type := .double, accessFlags := 26, slot := 3, constantValue := 0 }, { name := "RADIANS_TO_DEGREES", type := .double, accessFlags := 26, slot := 4, constantValue := 0 }, { name := "negativeZeroFloatBits", type := .long, accessFlags := 26, slot := 5, constantValue := 0 }, { name := "negativeZeroDoubleBits", type := .long, accessFlags := 26, slot := 6, constantValue := 0 }, { name := "twoToTheDoubleScaleUp", type := .double, accessFlags := 8, slot := 7, constantValue := 0 }, { name := "twoToTheDoubleScaleDown", type := .double, accessFlags := 8, slot := 8, constantValue := 0 }, { name := "$assertionsDisabled", type := .boolean, accessFlags := 4120, slot := 9, constantValue := 0 }]
  methods := #[k2m0, k2m1, k2m2]
  instanceTypes := #[]
  staticTypes := #[.double, .double, .double, .double, .double, .long, .long, .double, .double, .boolean]
  resolved := Array.replicate 460 none
  statics := none }

def pool3 : Array CpInfo := pool [(1, .methodref 2 3), (0, .class_ 4), (0, .nameAndType 5 6), (0, u "java/lang/Object"), (0, u "<init>"), (0, u "()V"), (0, .fieldref 8 9), (0, .class_ 10), (0, .nameAndType 11 12), (0, u "com/example/tokushima/tokushima/SummaryBitmap"), (0, u "bits"), (0, u "[J"), (0, .fieldref 8 14), (0, .nameAndType 15 12), (0, u "words"), (0, .fieldref 8 17), (0, .nameAndType 18 12), (0, u "tops"), (0, .methodref 8 20), (0, .nameAndType 21 22), (0, u "grow"), (0, u "(I)V"), (0, .long 18446744073709551615), (1, .methodref 8 26), (0, .nameAndType 27 28), (0, u "word"), (0, u "([JJ)J"), (0, .methodref 8 30), (0, .nameAndType 31 32), (0, u "nextWord"), (0, u "(J)J"), (0, .class_ 34), (0, u "java/lang/Long"), (0, .long 64), (1, .methodref 33 38), (0, .nameAndType 39 40), (0, u "numberOfTrailingZeros"), (0, u "(J)I"), (0, .long 63), (1, .methodref 8 44), (0, .nameAndType 15 45), (0, u "(I)I"), (0, .methodref 8 47), (0, .nameAndType 48 49), (0, u "grown"), (0, u "([JI)[J"), (3, .methodref 54 55), (0, .class_ 56), (0, .nameAndType 57 49), (0, u "java/util/Arrays"), (0, u "copyOf"), (0, .methodref 54 59), (0, .nameAndType 60 61), (0, u "fill"), (0, u "([JIIJ)V"), (0, u "WORD_BITS"), (0, u "I"), (4, u "clear"), (1, u "set"), (2, u "next"), (0, u "bitsFrom")] 3

def k3c0 : Code := { maxStack := 2, maxLocals := 2, code := prog_27_method_1_code, exceptionTable := #[], attributes := #[] }
def k3m0 : Method := { name := "<init>", desc := "(I)V", sig := { parameters := [.int], returnType := none }, accessFlags := 0, code := some k3c0 }
def k3c1 : Code := { maxStack := 8, maxLocals := 4, code := prog_27_method_2_code, exceptionTable := #[], attributes := #[] }
def k3m1 : Method := { name := "clear", desc := "(I)V", sig := { parameters := [.int], returnType := none }, accessFlags := 0, code := some k3c1 }
def k3c2 : Code := { maxStack := 8, maxLocals := 3, code := prog_27_method_3_code, exceptionTable := #[], attributes := #[] }
def k3m2 : Method := { name := "set", desc := "(I)V", sig := { parameters := [.int], returnType := none }, accessFlags := 0, code := some k3c2 }
def k3c3 : Code := { maxStack := 6, maxLocals := 7, code := prog_27_method_5_code, exceptionTable := #[], attributes := #[] }
def k3m3 : Method := { name := "next", desc := "(J)J", sig := { parameters := [.long], returnType := some .long }, accessFlags := 0, code := some k3c3 }
def k3c4 : Code := { maxStack := 7, maxLocals := 8, code := prog_27_method_6_code, exceptionTable := #[], attributes := #[] }
def k3m4 : Method := { name := "bitsFrom", desc := "(J)J", sig := { parameters := [.long], returnType := some .long }, accessFlags := 0, code := some k3c4 }
def k3c5 : Code := { maxStack := 3, maxLocals := 2, code := prog_27_method_7_code, exceptionTable := #[], attributes := #[] }
def k3m5 : Method := { name := "grow", desc := "(I)V", sig := { parameters := [.int], returnType := none }, accessFlags := 0, code := some k3c5 }
def k3c6 : Code := { maxStack := 6, maxLocals := 7, code := prog_27_method_8_code, exceptionTable := #[], attributes := #[] }
def k3m6 : Method := { name := "nextWord", desc := "(J)J", sig := { parameters := [.long], returnType := some .long }, accessFlags := 2, code := some k3c6 }
def k3c7 : Code := { maxStack := 4, maxLocals := 3, code := prog_27_method_10_code, exceptionTable := #[], attributes := #[] }
def k3m7 : Method := { name := "word", desc := "([JJ)J", sig := { parameters := [(.array .long), .long], returnType := some .long }, accessFlags := 10, code := some k3c7 }
def k3c8 : Code := { maxStack := 5, maxLocals := 3, code := prog_27_method_11_code, exceptionTable := #[], attributes := #[] }
def k3m8 : Method := { name := "grown", desc := "([JI)[J", sig := { parameters := [(.array .long), .int], returnType := some (.array .long) }, accessFlags := 10, code := some k3c8 }
def k3c9 : Code := { maxStack := 4, maxLocals := 1, code := prog_27_method_12_code, exceptionTable := #[], attributes := #[] }
def k3m9 : Method := { name := "words", desc := "(I)I", sig := { parameters := [.int], returnType := some .int }, accessFlags := 10, code := some k3c9 }
/-- com/example/tokushima/tokushima/SummaryBitmap -/
def k3 : Class := { plain "com/example/tokushima/tokushima/SummaryBitmap" (some 0) with
  accessFlags := 32
  interfaces := #[]
  cf := some (fileOf pool3 8 #[] #[{ accessFlags := 0, nameIndex := 5, descriptorIndex := 22, attributes := #[] }, { accessFlags := 0, nameIndex := 68, descriptorIndex := 22, attributes := #[] }, { accessFlags := 0, nameIndex := 70, descriptorIndex := 22, attributes := #[] }, { accessFlags := 0, nameIndex := 73, descriptorIndex := 32, attributes := #[] }, { accessFlags := 0, nameIndex := 74, descriptorIndex := 32, attributes := #[] }, { accessFlags := 0, nameIndex := 21, descriptorIndex := 22, attributes := #[] }, { accessFlags := 2, nameIndex := 31, descriptorIndex := 32, attributes := #[] }, { accessFlags := 10, nameIndex := 27, descriptorIndex := 28, attributes := #[] }, { accessFlags := 10, nameIndex := 48, descriptorIndex := 49, attributes := #[] }, { accessFlags := 10, nameIndex := 15, descriptorIndex := 45, attributes := #[] }] 32 2 #[] #[{ accessFlags := 26, nameIndex := 62, descriptorIndex := 63, attributes := #[] }, { accessFlags := 2, nameIndex := 11, descriptorIndex := 12, attributes := #[] }, { accessFlags := 2, nameIndex := 15, descriptorIndex := 12, attributes := #[] }, { accessFlags := 2, nameIndex := 18, descriptorIndex := 12, attributes := #[] }])
  fields := #[{ name := "WORD_BITS", type := .int, accessFlags := 26, slot := 0, constantValue := 0 }, { name := "bits", type := (.array .long), accessFlags := 2, slot := 0, constantValue := 0 }, { name := "words", type := (.array .long), accessFlags := 2, slot := 1, constantValue := 0 }, { name := "tops", type := (.array .long), accessFlags := 2, slot := 2, constantValue := 0 }]
  methods := #[k3m0, k3m1, k3m2, k3m3, k3m4, k3m5, k3m6, k3m7, k3m8, k3m9]
  instanceTypes := #[(.array .long), (.array .long), (.array .long)]
  staticTypes := #[.int]
  resolved := Array.replicate 78 none
  statics := none }

def pool4 : Array CpInfo := pool [(2, .class_ 4), (1, u "java/lang/Object"), (0, u "<init>"), (0, u "()V"), (6, .methodref 14 15), (0, .class_ 16), (0, .nameAndType 17 18), (0, u "java/util/Arrays"), (0, u "rangeCheck"), (0, u "(III)V"), (55, .class_ 76), (1, u "java/util/Arrays$NaturalOrder"), (36, .class_ 115), (1, u "java/util/Arrays$LegacyMergeSort"), (1, u "Z"), (32, .methodref 151 152), (0, .class_ 153), (0, .nameAndType 154 155), (0, u "java/lang/System"), (0, u "arraycopy"), (0, u "(Ljava/lang/Object;ILjava/lang/Object;II)V"), (146, u "copyOf"), (1, .methodref 305 306), (0, .class_ 307), (0, .nameAndType 308 309), (0, u "java/lang/Math"), (0, u "min"), (0, u "(II)I"), (65, .class_ 376), (0, u "java/util/Arrays$ArrayList"), (68, u "$assertionsDisabled"), (269, u "MIN_ARRAY_SORT_GRAN"), (0, u "I"), (2, u "INSERTIONSORT_THRESHOLD"), (120, u "fill"), (3, u "([JIIJ)V"), (27, u "([JI)[J"), (102, .class_ 976), (0, u "java/util/Arrays$ArrayItr")] 52

def k4m0 : Method := { name := "<init>", desc := "()V", sig := { parameters := [], returnType := none }, accessFlags := 2, code := none }
def k4c1 : Code := { maxStack := 4, maxLocals := 3, code := jdk_65_method_30_code, exceptionTable := #[], attributes := #[] }
def k4m1 : Method := { name := "rangeCheck", desc := "(III)V", sig := { parameters := [.int, .int, .int], returnType := none }, accessFlags := 8, code := some k4c1 }
def k4c2 : Code := { maxStack := 4, maxLocals := 6, code := jdk_65_method_102_code, exceptionTable := #[], attributes := #[] }
def k4m2 : Method := { name := "fill", desc := "([JIIJ)V", sig := { parameters := [(.array .long), .int, .int, .long], returnType := none }, accessFlags := 9, code := some k4c2 }
def k4c3 : Code := { maxStack := 6, maxLocals := 3, code := jdk_65_method_124_code, exceptionTable := #[], attributes := #[] }
def k4m3 : Method := { name := "copyOf", desc := "([JI)[J", sig := { parameters := [(.array .long), .int], returnType := some (.array .long) }, accessFlags := 9, code := some k4c3 }
/-- java/util/Arrays -/
def k4 : Class := { plain "java/util/Arrays" (some 0) with
  accessFlags := 49
  interfaces := #[]
  cf := some (fileOf pool4 14 #[.nestMembers #[975, 375, 113, 74]] #[{ accessFlags := 2, nameIndex := 5, descriptorIndex := 6, attributes := #[] }, { accessFlags := 8, nameIndex := 17, descriptorIndex := 18, attributes := #[] }, { accessFlags := 9, nameIndex := 840, descriptorIndex := 844, attributes := #[] }, { accessFlags := 9, nameIndex := 302, descriptorIndex := 872, attributes := #[] }] 49 2 #[] #[{ accessFlags := 26, nameIndex := 715, descriptorIndex := 716, attributes := #[] }, { accessFlags := 26, nameIndex := 719, descriptorIndex := 716, attributes := #[] }, { accessFlags := 4120, nameIndex := 445, descriptorIndex := 117, attributes := #[] }])
  fields := #[{ name := "MIN_ARRAY_SORT_GRAN", type := .int, accessFlags := 26, slot := 0, constantValue := 0 }, { name := "INSERTIONSORT_THRESHOLD", type := .int, accessFlags := 26, slot := 1, constantValue := 0 }, { name := "$assertionsDisabled", type := .boolean, accessFlags := 4120, slot := 2, constantValue := 0 }]
  methods := #[k4m0, k4m1, k4m2, k4m3]
  instanceTypes := #[]
  staticTypes := #[.int, .int, .boolean]
  resolved := Array.replicate 1029 none
  statics := none }

def pool5 : Array CpInfo := pool [(2, .class_ 4), (1, u "java/lang/Object"), (0, u "<init>"), (0, u "()V"), (1, .class_ 10), (1, u "java/lang/System"), (0, u "allowSecurityManager"), (0, u "I"), (16, u "cons"), (0, u "Ljava/io/Console;"), (77, .class_ 110), (1, u "java/lang/System$CallersHolder"), (43, u "initialErrStream"), (0, u "Ljava/io/PrintStream;"), (19, u "security"), (0, u "Ljava/lang/SecurityManager;"), (31, .class_ 209), (0, u "java/lang/System$1"), (7, u "props"), (0, u "Ljava/util/Properties;"), (2, u "lineSeparator"), (0, u "Ljava/lang/String;"), (96, .class_ 321), (1, u "java/lang/System$LoggerFinder"), (5, .class_ 328), (0, u "java/lang/System$Logger"), (67, u "err"), (2, u "out"), (91, u "notSupportedJnuEncoding"), (15, u "in"), (17, u "initialIn"), (0, u "Ljava/io/InputStream;"), (35, u "bootLayer"), (0, u "Ljava/lang/ModuleLayer;"), (99, .class_ 664), (0, u "java/lang/System$2"), (9, u "NEVER"), (2, u "MAYBE"), (49, u "arraycopy"), (0, u "(Ljava/lang/Object;ILjava/lang/Object;II)V"), (72, .class_ 802), (0, u "java/lang/System$Logger$Level")] 31

def k5m0 : Method := { name := "<init>", desc := "()V", sig := { parameters := [], returnType := none }, accessFlags := 2, code := none }
def k5m1 : Method := { name := "arraycopy", desc := "(Ljava/lang/Object;ILjava/lang/Object;II)V", sig := { parameters := [(.object "java/lang/Object"), .int, (.object "java/lang/Object"), .int, .int], returnType := none }, accessFlags := 265, code := none }
/-- java/lang/System -/
def k5 : Class := { plain "java/lang/System" (some 0) with
  accessFlags := 49
  interfaces := #[]
  cf := some (fileOf pool5 8 #[.nestMembers #[319, 327, 801, 108, 663, 208]] #[{ accessFlags := 2, nameIndex := 5, descriptorIndex := 6, attributes := #[] }, { accessFlags := 265, nameIndex := 727, descriptorIndex := 728, attributes := #[] }] 49 2 #[] #[{ accessFlags := 25, nameIndex := 507, descriptorIndex := 526, attributes := #[] }, { accessFlags := 25, nameIndex := 399, descriptorIndex := 155, attributes := #[] }, { accessFlags := 25, nameIndex := 396, descriptorIndex := 155, attributes := #[] }, { accessFlags := 10, nameIndex := 525, descriptorIndex := 526, attributes := #[] }, { accessFlags := 26, nameIndex := 674, descriptorIndex := 12, attributes := #[] }, { accessFlags := 26, nameIndex := 677, descriptorIndex := 12, attributes := #[] }, { accessFlags := 10, nameIndex := 11, descriptorIndex := 12, attributes := #[] }, { accessFlags := 74, nameIndex := 175, descriptorIndex := 176, attributes := #[] }, { accessFlags := 10, nameIndex := 491, descriptorIndex := 222, attributes := #[] }, { accessFlags := 74, nameIndex := 29, descriptorIndex := 30, attributes := #[] }, { accessFlags := 74, nameIndex := 154, descriptorIndex := 155, attributes := #[] }, { accessFlags := 10, nameIndex := 217, descriptorIndex := 218, attributes := #[] }, { accessFlags := 10, nameIndex := 221, descriptorIndex := 222, attributes := #[] }, { accessFlags := 8, nameIndex := 562, descriptorIndex := 563, attributes := #[] }])
  fields := #[{ name := "in", type := (.object "java/io/InputStream"), accessFlags := 25, slot := 0, constantValue := 0 }, { name := "out", type := (.object "java/io/PrintStream"), accessFlags := 25, slot := 1, constantValue := 0 }, { name := "err", type := (.object "java/io/PrintStream"), accessFlags := 25, slot := 2, constantValue := 0 }, { name := "initialIn", type := (.object "java/io/InputStream"), accessFlags := 10, slot := 3, constantValue := 0 }, { name := "NEVER", type := .int, accessFlags := 26, slot := 4, constantValue := 0 }, { name := "MAYBE", type := .int, accessFlags := 26, slot := 5, constantValue := 0 }, { name := "allowSecurityManager", type := .int, accessFlags := 10, slot := 6, constantValue := 0 }, { name := "security", type := (.object "java/lang/SecurityManager"), accessFlags := 74, slot := 7, constantValue := 0 }, { name := "notSupportedJnuEncoding", type := (.object "java/lang/String"), accessFlags := 10, slot := 8, constantValue := 0 }, { name := "cons", type := (.object "java/io/Console"), accessFlags := 74, slot := 9, constantValue := 0 }, { name := "initialErrStream", type := (.object "java/io/PrintStream"), accessFlags := 74, slot := 10, constantValue := 0 }, { name := "props", type := (.object "java/util/Properties"), accessFlags := 10, slot := 11, constantValue := 0 }, { name := "lineSeparator", type := (.object "java/lang/String"), accessFlags := 10, slot := 12, constantValue := 0 }, { name := "bootLayer", type := (.object "java/lang/ModuleLayer"), accessFlags := 8, slot := 13, constantValue := 0 }]
  methods := #[k5m0, k5m1]
  instanceTypes := #[]
  staticTypes := #[(.object "java/io/InputStream"), (.object "java/io/PrintStream"), (.object "java/io/PrintStream"), (.object "java/io/InputStream"), .int, .int, .int, (.object "java/lang/SecurityManager"), (.object "java/lang/String"), (.object "java/io/Console"), (.object "java/io/PrintStream"), (.object "java/util/Properties"), (.object "java/lang/String"), (.object "java/lang/ModuleLayer")]
  resolved := Array.replicate 834 none
  statics := none }

def pool6 : Array CpInfo := pool [(1, .class_ 2), (0, u "java/io/Serializable"), (0, .class_ 4), (0, u "java/lang/Object")] 2

/-- java/io/Serializable -/
def k6 : Class := { plain "java/io/Serializable" (some 0) with
  accessFlags := 1537
  interfaces := #[]
  cf := some (fileOf pool6 1 #[] #[] 1537 3 #[] #[])
  fields := #[]
  methods := #[]
  instanceTypes := #[]
  staticTypes := #[]
  resolved := Array.replicate 7 none
  statics := none }

def pool7 : Array CpInfo := pool [(2, .class_ 4), (1, u "java/lang/Object"), (0, u "<init>"), (0, u "()V"), (1, .class_ 10), (1, u "java/lang/Number"), (2, .class_ 14), (0, u "java/io/Serializable"), (0, u "serialVersionUID"), (0, u "J")] 20

def k7m0 : Method := { name := "<init>", desc := "()V", sig := { parameters := [], returnType := none }, accessFlags := 1, code := none }
/-- java/lang/Number -/
def k7 : Class := { plain "java/lang/Number" (some 0) with
  accessFlags := 1057
  interfaces := #[6]
  cf := some (fileOf pool7 8 #[] #[{ accessFlags := 1, nameIndex := 5, descriptorIndex := 6, attributes := #[] }] 1057 2 #[13] #[{ accessFlags := 26, nameIndex := 15, descriptorIndex := 16, attributes := #[] }])
  fields := #[{ name := "serialVersionUID", type := .long, accessFlags := 26, slot := 0, constantValue := 0 }]
  methods := #[k7m0]
  instanceTypes := #[]
  staticTypes := #[.long]
  resolved := Array.replicate 37 none
  statics := none }

def pool8 : Array CpInfo := pool [(1, .class_ 2), (0, u "java/lang/Comparable"), (0, .class_ 4), (0, u "java/lang/Object")] 7

/-- java/lang/Comparable -/
def k8 : Class := { plain "java/lang/Comparable" (some 0) with
  accessFlags := 1537
  interfaces := #[]
  cf := some (fileOf pool8 1 #[] #[] 1537 3 #[] #[])
  fields := #[]
  methods := #[]
  instanceTypes := #[]
  staticTypes := #[]
  resolved := Array.replicate 12 none
  statics := none }

def pool9 : Array CpInfo := pool [(1, .class_ 2), (0, u "java/lang/constant/Constable"), (0, .class_ 4), (0, u "java/lang/Object")] 6

/-- java/lang/constant/Constable -/
def k9 : Class := { plain "java/lang/constant/Constable" (some 0) with
  accessFlags := 1537
  interfaces := #[]
  cf := some (fileOf pool9 1 #[] #[] 1537 3 #[] #[])
  fields := #[]
  methods := #[]
  instanceTypes := #[]
  staticTypes := #[]
  resolved := Array.replicate 11 none
  statics := none }

def pool10 : Array CpInfo := pool [(1, .class_ 2), (0, u "java/lang/constant/ConstantDesc"), (0, .class_ 4), (0, u "java/lang/Object")] 32

/-- java/lang/constant/ConstantDesc -/
def k10 : Class := { plain "java/lang/constant/ConstantDesc" (some 0) with
  accessFlags := 1537
  interfaces := #[]
  cf := some (fileOf pool10 1 #[] #[] 1537 3 #[] #[])
  fields := #[]
  methods := #[]
  instanceTypes := #[]
  staticTypes := #[]
  resolved := Array.replicate 37 none
  statics := none }

def pool11 : Array CpInfo := pool [(1, .class_ 2), (0, u "java/lang/Long"), (15, .class_ 20), (1, u "java/lang/Integer"), (80, u "(J)I"), (133, .class_ 237), (1, u "java/lang/Long$LongCache"), (33, .class_ 272), (0, u "java/lang/Number"), (2, u "value"), (0, u "J"), (33, u "(I)I"), (0, .methodref 18 312), (0, .nameAndType 313 310), (0, u "numberOfTrailingZeros"), (47, u "TYPE"), (0, u "Ljava/lang/Class;"), (0, .class_ 364), (0, u "java/lang/Comparable"), (0, .class_ 366), (0, u "java/lang/constant/Constable"), (0, .class_ 368), (0, u "java/lang/constant/ConstantDesc"), (0, u "MIN_VALUE"), (1, u "MAX_VALUE"), (4, u "SIZE"), (0, u "I"), (1, u "BYTES"), (1, u "serialVersionUID")] 142

def k11c0 : Code := { maxStack := 4, maxLocals := 3, code := jdk_35_method_49_code, exceptionTable := #[], attributes := #[] }
def k11m0 : Method := { name := "numberOfTrailingZeros", desc := "(J)I", sig := { parameters := [.long], returnType := some .int }, accessFlags := 9, code := some k11c0 }
/-- java/lang/Long -/
def k11 : Class := { plain "java/lang/Long" (some 7) with
  accessFlags := 49
  interfaces := #[8, 9, 10]
  cf := some (fileOf pool11 1 #[.nestMembers #[235]] #[{ accessFlags := 9, nameIndex := 313, descriptorIndex := 101, attributes := #[] }] 49 271 #[363, 365, 367] #[{ accessFlags := 25, nameIndex := 369, descriptorIndex := 276, attributes := #[] }, { accessFlags := 25, nameIndex := 371, descriptorIndex := 276, attributes := #[] }, { accessFlags := 25, nameIndex := 361, descriptorIndex := 362, attributes := #[] }, { accessFlags := 18, nameIndex := 275, descriptorIndex := 276, attributes := #[] }, { accessFlags := 25, nameIndex := 376, descriptorIndex := 377, attributes := #[] }, { accessFlags := 25, nameIndex := 379, descriptorIndex := 377, attributes := #[] }, { accessFlags := 26, nameIndex := 381, descriptorIndex := 276, attributes := #[] }])
  fields := #[{ name := "MIN_VALUE", type := .long, accessFlags := 25, slot := 0, constantValue := 0 }, { name := "MAX_VALUE", type := .long, accessFlags := 25, slot := 1, constantValue := 0 }, { name := "TYPE", type := (.object "java/lang/Class"), accessFlags := 25, slot := 2, constantValue := 0 }, { name := "value", type := .long, accessFlags := 18, slot := 0, constantValue := 0 }, { name := "SIZE", type := .int, accessFlags := 25, slot := 3, constantValue := 0 }, { name := "BYTES", type := .int, accessFlags := 25, slot := 4, constantValue := 0 }, { name := "serialVersionUID", type := .long, accessFlags := 26, slot := 5, constantValue := 0 }]
  methods := #[k11m0]
  instanceTypes := #[.long]
  staticTypes := #[.long, .long, (.object "java/lang/Class"), .int, .int, .long]
  resolved := Array.replicate 524 none
  statics := none }

def pool12 : Array CpInfo := pool [(1, .class_ 2), (0, u "java/lang/Integer"), (16, u "digits"), (0, u "[C"), (33, u "(I)I"), (30, u "DigitOnes"), (0, u "[B"), (2, u "DigitTens"), (99, .class_ 190), (0, u "java/lang/Integer$IntegerCache"), (3, u "I"), (8, .class_ 204), (0, u "java/lang/Number"), (2, u "value"), (56, .integer 65536), (37, u "TYPE"), (0, u "Ljava/lang/Class;"), (0, .class_ 305), (0, u "java/lang/Comparable"), (0, .class_ 307), (0, u "java/lang/constant/Constable"), (0, .class_ 309), (0, u "java/lang/constant/ConstantDesc"), (0, u "MIN_VALUE"), (1, u "MAX_VALUE"), (3, u "SIZE"), (1, u "BYTES"), (1, u "serialVersionUID"), (0, u "J"), (84, u "numberOfTrailingZeros")] 46

def k12c0 : Code := { maxStack := 3, maxLocals := 2, code := jdk_33_method_48_code, exceptionTable := #[], attributes := #[] }
def k12m0 : Method := { name := "numberOfTrailingZeros", desc := "(I)I", sig := { parameters := [.int], returnType := some .int }, accessFlags := 9, code := some k12c0 }
/-- java/lang/Integer -/
def k12 : Class := { plain "java/lang/Integer" (some 7) with
  accessFlags := 49
  interfaces := #[8, 9, 10]
  cf := some (fileOf pool12 1 #[.nestMembers #[189]] #[{ accessFlags := 9, nameIndex := 406, descriptorIndex := 54, attributes := #[] }] 49 203 #[304, 306, 308] #[{ accessFlags := 25, nameIndex := 310, descriptorIndex := 194, attributes := #[] }, { accessFlags := 25, nameIndex := 312, descriptorIndex := 194, attributes := #[] }, { accessFlags := 25, nameIndex := 302, descriptorIndex := 303, attributes := #[] }, { accessFlags := 24, nameIndex := 19, descriptorIndex := 20, attributes := #[] }, { accessFlags := 24, nameIndex := 89, descriptorIndex := 86, attributes := #[] }, { accessFlags := 24, nameIndex := 85, descriptorIndex := 86, attributes := #[] }, { accessFlags := 18, nameIndex := 207, descriptorIndex := 194, attributes := #[] }, { accessFlags := 25, nameIndex := 316, descriptorIndex := 194, attributes := #[] }, { accessFlags := 25, nameIndex := 318, descriptorIndex := 194, attributes := #[] }, { accessFlags := 26, nameIndex := 320, descriptorIndex := 321, attributes := #[] }])
  fields := #[{ name := "MIN_VALUE", type := .int, accessFlags := 25, slot := 0, constantValue := 0 }, { name := "MAX_VALUE", type := .int, accessFlags := 25, slot := 1, constantValue := 0 }, { name := "TYPE", type := (.object "java/lang/Class"), accessFlags := 25, slot := 2, constantValue := 0 }, { name := "digits", type := (.array .char), accessFlags := 24, slot := 3, constantValue := 0 }, { name := "DigitTens", type := (.array .byte), accessFlags := 24, slot := 4, constantValue := 0 }, { name := "DigitOnes", type := (.array .byte), accessFlags := 24, slot := 5, constantValue := 0 }, { name := "value", type := .int, accessFlags := 18, slot := 0, constantValue := 0 }, { name := "SIZE", type := .int, accessFlags := 25, slot := 6, constantValue := 0 }, { name := "BYTES", type := .int, accessFlags := 25, slot := 7, constantValue := 0 }, { name := "serialVersionUID", type := .long, accessFlags := 26, slot := 8, constantValue := 0 }]
  methods := #[k12m0]
  instanceTypes := #[.int]
  staticTypes := #[.int, .int, (.object "java/lang/Class"), (.array .char), (.array .byte), (.array .byte), .int, .int, .long]
  resolved := Array.replicate 453 none
  statics := none }

def pool13 : Array CpInfo := pool [(1, u "java/lang/Cloneable"), (0, .class_ 1), (0, u "java/lang/Object"), (0, .class_ 3)] 3

/-- java/lang/Cloneable -/
def k13 : Class := { plain "java/lang/Cloneable" (some 0) with
  accessFlags := 1537
  interfaces := #[]
  cf := some (fileOf pool13 2 #[] #[] 1537 4 #[] #[])
  fields := #[]
  methods := #[]
  instanceTypes := #[]
  staticTypes := #[]
  resolved := Array.replicate 8 none
  statics := none }

/-- the primitive byte -/
def k14 : Class := { plain "byte" none with kind := .primitive 'B', accessFlags := 0x411 }
/-- [B -/
def k15 : Class := { plain "[B" (some 0) with kind := .array 14 .byte, interfaces := #[13, 6], accessFlags := 1041 }

/-- the primitive int -/
def k16 : Class := { plain "int" none with kind := .primitive 'I', accessFlags := 0x411 }
/-- [I -/
def k17 : Class := { plain "[I" (some 0) with kind := .array 16 .int, interfaces := #[13, 6], accessFlags := 1041 }

/-- the primitive long -/
def k18 : Class := { plain "long" none with kind := .primitive 'J', accessFlags := 0x411 }
/-- [J -/
def k19 : Class := { plain "[J" (some 0) with kind := .array 18 .long, interfaces := #[13, 6], accessFlags := 1041 }

def heap : Heap := #[]
def classes : Array Class := #[k0, k1, k2, k3, k4, k5, k6, k7, k8, k9, k10, k11, k12, k13, k14, k15, k16, k17, k18, k19]
def interned : List (Array UInt16 × Addr) := []
def slotsUsed : Nat := 0
def theMethod : MethodId := ⟨1, 1⟩
def args0 : Array Value := #[.int 5, .int 3, .int 2, .int 1, .int 4, .int 7]
def aboutOver (below : List Frame) : State where
  vm := { classes := classes, interned := interned.toArray }
  heap := heap
  slotsUsed := slotsUsed
  threads := #[{ frames := .invoking theMethod args0 :: below }]
def below0 : List Frame := [.native { method := ⟨0, 0⟩, args := #[] }]
def about1 : State := aboutOver below0
def p0 : Program := .bare "" "" ""
def e0 : Env := launch0.env 0 0 0
theorem w_frames : about1.frames = Frame.invoking theMethod args0 :: below0 := rfl
set_option maxRecDepth 65536 in
theorem w_args : argsFit about1.vm theMethod args0 = true := by decide +kernel
set_option maxRecDepth 65536 in
theorem w_heap : heapFits about1 = true := by decide +kernel
set_option maxRecDepth 65536 in
theorem w_runnable : about1.curStatus? = some .runnable := by decide +kernel
set_option maxRecDepth 65536 in
theorem w_alone : about1.alone = true := by decide +kernel
set_option maxRecDepth 65536 in
theorem w_named : about1.methodNamed? x = some theMethod := by decide +kernel
set_option maxRecDepth 65536 in
theorem w_hears : about1.hears theMethod below0 = true := by decide +kernel
set_option maxRecDepth 65536 in
theorem w_ripe : about1.ripe theMethod args0 below0 = true := by decide +kernel
theorem w_running : about1.status = .running := rfl
set_option maxRecDepth 65536 in
theorem w_room : about1.hasRoom e0.platform room_1 = true :=
  launch0.hasRoom_least _ room_1 (by decide +kernel) (by decide +kernel) (by decide +kernel) (by decide +kernel) (by decide +kernel) (by decide +kernel)
theorem allAtoms_all (ts : List Jvm.Cond) (a : Array Jvm.Value) (st : Jvm.State) : (allAtoms ts).before a st = ts.all (fun c => c.before a st) := by
  induction ts with
  | nil => rfl
  | cons c t ih =>
    show (Jvm.Cond.and c (allAtoms t)).before a st = _
    rw [Jvm.Cond.before_and, ih, List.all_cons]
def words1 : List Jvm.Cond := Jvm.Cond.code x code maxLocals ret :: tables_1
/-- a 'code' word, met by the world's own term for the bytes: nothing is compared byte by byte -/
theorem code_word {y : MethodName} {bytes : ByteArray} {mx : Nat} {rt : Option FieldType} {a : Array Value} {s : State} {m : MethodId} {meth : Method} {c : Code} (h1 : s.methodNamed? y = some m) (h2 : s.vm.method? m = some meth) (h3 : meth.code = some c) (h4 : c.code = bytes)
    (h5 : (c.maxLocals == mx && c.exceptionTable.isEmpty && decide (c.maxStack ≤ mostOperands) && decide (meth.sig.returnType = rt) && !meth.locks && decide (parseMethodDescriptor y.desc = some meth.sig)) = true) : (Jvm.Cond.code y bytes mx rt).before a s = true := by
  simp only [Bool.and_eq_true, beq_iff_eq, Bool.not_eq_true', decide_eq_true_eq] at h5
  obtain ⟨⟨⟨⟨⟨g1, g2⟩, g3⟩, g4⟩, g5⟩, g6⟩ := h5
  simp [Cond.before, Cond.holds, Cond.value, h1, h2, h3, h4, g1, g2, g3, g4, g5, g6]
def isCode : Jvm.Cond → Bool
  | .code _ _ _ _ => true
  | _ => false
theorem all_split {L : List Jvm.Cond} {P : Jvm.Cond → Bool} (h1 : L.all (fun c => isCode c || P c) = true) (h2 : ∀ c ∈ L.filter isCode, P c = true) : L.all P = true := by
  refine List.all_eq_true.mpr fun c hc => ?_
  have h := List.all_eq_true.mp h1 c hc
  rcases Bool.eq_false_or_eq_true (isCode c) with hi | hi
  · exact h2 c (List.mem_filter.mpr ⟨hc, hi⟩)
  · simpa [hi] using h
set_option maxRecDepth 65536 in
theorem w_c0 : (Jvm.Cond.code x code maxLocals ret).before args0 about1 = true := code_word (m := ⟨1, 1⟩) (meth := k1m1) (c := k1c1) (by decide +kernel) rfl rfl rfl (by decide +kernel)
set_option maxRecDepth 65536 in
theorem w_c1 : (Jvm.Cond.code ({ cls := "java/lang/Math", name := "max", desc := "(II)I" } : Jvm.MethodName) jdk_29_method_65_code (2 : Nat) (Option.some Jvm.ClassFile.FieldType.int)).before args0 about1 = true := code_word (m := ⟨2, 1⟩) (meth := k2m1) (c := k2c1) (by decide +kernel) rfl rfl rfl (by decide +kernel)
set_option maxRecDepth 65536 in
theorem w_c2 : (Jvm.Cond.code ({ cls := "com/example/tokushima/tokushima/SummaryBitmap", name := "<init>", desc := "(I)V" } : Jvm.MethodName) prog_27_method_1_code (2 : Nat) (Option.none : Option Jvm.ClassFile.FieldType)).before args0 about1 = true := code_word (m := ⟨3, 0⟩) (meth := k3m0) (c := k3c0) (by decide +kernel) rfl rfl rfl (by decide +kernel)
set_option maxRecDepth 65536 in
theorem w_c3 : (Jvm.Cond.code ({ cls := "java/lang/Object", name := "<init>", desc := "()V" } : Jvm.MethodName) object_method_1_code (1 : Nat) (Option.none : Option Jvm.ClassFile.FieldType)).before args0 about1 = true := code_word (m := ⟨0, 0⟩) (meth := k0m0) (c := k0c0) (by decide +kernel) rfl rfl rfl (by decide +kernel)
set_option maxRecDepth 65536 in
theorem w_c4 : (Jvm.Cond.code ({ cls := "com/example/tokushima/tokushima/SummaryBitmap", name := "grow", desc := "(I)V" } : Jvm.MethodName) prog_27_method_7_code (2 : Nat) (Option.none : Option Jvm.ClassFile.FieldType)).before args0 about1 = true := code_word (m := ⟨3, 5⟩) (meth := k3m5) (c := k3c5) (by decide +kernel) rfl rfl rfl (by decide +kernel)
set_option maxRecDepth 65536 in
theorem w_c5 : (Jvm.Cond.code ({ cls := "com/example/tokushima/tokushima/SummaryBitmap", name := "words", desc := "(I)I" } : Jvm.MethodName) prog_27_method_12_code (1 : Nat) (Option.some Jvm.ClassFile.FieldType.int)).before args0 about1 = true := code_word (m := ⟨3, 9⟩) (meth := k3m9) (c := k3c9) (by decide +kernel) rfl rfl rfl (by decide +kernel)
set_option maxRecDepth 65536 in
theorem w_c6 : (Jvm.Cond.code ({ cls := "com/example/tokushima/tokushima/SummaryBitmap", name := "grown", desc := "([JI)[J" } : Jvm.MethodName) prog_27_method_11_code (3 : Nat) (Option.some (Jvm.ClassFile.FieldType.array Jvm.ClassFile.FieldType.long))).before args0 about1 = true := code_word (m := ⟨3, 8⟩) (meth := k3m8) (c := k3c8) (by decide +kernel) rfl rfl rfl (by decide +kernel)
set_option maxRecDepth 65536 in
theorem w_c7 : (Jvm.Cond.code ({ cls := "java/util/Arrays", name := "copyOf", desc := "([JI)[J" } : Jvm.MethodName) jdk_65_method_124_code (3 : Nat) (Option.some (Jvm.ClassFile.FieldType.array Jvm.ClassFile.FieldType.long))).before args0 about1 = true := code_word (m := ⟨4, 3⟩) (meth := k4m3) (c := k4c3) (by decide +kernel) rfl rfl rfl (by decide +kernel)
set_option maxRecDepth 65536 in
theorem w_c8 : (Jvm.Cond.code ({ cls := "java/lang/Math", name := "min", desc := "(II)I" } : Jvm.MethodName) jdk_29_method_69_code (2 : Nat) (Option.some Jvm.ClassFile.FieldType.int)).before args0 about1 = true := code_word (m := ⟨2, 2⟩) (meth := k2m2) (c := k2c2) (by decide +kernel) rfl rfl rfl (by decide +kernel)
set_option maxRecDepth 65536 in
theorem w_c9 : (Jvm.Cond.code ({ cls := "java/util/Arrays", name := "fill", desc := "([JIIJ)V" } : Jvm.MethodName) jdk_65_method_102_code (6 : Nat) (Option.none : Option Jvm.ClassFile.FieldType)).before args0 about1 = true := code_word (m := ⟨4, 2⟩) (meth := k4m2) (c := k4c2) (by decide +kernel) rfl rfl rfl (by decide +kernel)
set_option maxRecDepth 65536 in
theorem w_c10 : (Jvm.Cond.code ({ cls := "java/util/Arrays", name := "rangeCheck", desc := "(III)V" } : Jvm.MethodName) jdk_65_method_30_code (3 : Nat) (Option.none : Option Jvm.ClassFile.FieldType)).before args0 about1 = true := code_word (m := ⟨4, 1⟩) (meth := k4m1) (c := k4c1) (by decide +kernel) rfl rfl rfl (by decide +kernel)
set_option maxRecDepth 65536 in
theorem w_c11 : (Jvm.Cond.code ({ cls := "com/example/tokushima/tokushima/SummaryBitmap", name := "clear", desc := "(I)V" } : Jvm.MethodName) prog_27_method_2_code (4 : Nat) (Option.none : Option Jvm.ClassFile.FieldType)).before args0 about1 = true := code_word (m := ⟨3, 1⟩) (meth := k3m1) (c := k3c1) (by decide +kernel) rfl rfl rfl (by decide +kernel)
set_option maxRecDepth 65536 in
theorem w_c12 : (Jvm.Cond.code ({ cls := "com/example/tokushima/tokushima/SummaryBitmap", name := "set", desc := "(I)V" } : Jvm.MethodName) prog_27_method_3_code (3 : Nat) (Option.none : Option Jvm.ClassFile.FieldType)).before args0 about1 = true := code_word (m := ⟨3, 2⟩) (meth := k3m2) (c := k3c2) (by decide +kernel) rfl rfl rfl (by decide +kernel)
set_option maxRecDepth 65536 in
theorem w_c13 : (Jvm.Cond.code ({ cls := "com/example/tokushima/tokushima/SummaryBitmap", name := "bitsFrom", desc := "(J)J" } : Jvm.MethodName) prog_27_method_6_code (8 : Nat) (Option.some Jvm.ClassFile.FieldType.long)).before args0 about1 = true := code_word (m := ⟨3, 4⟩) (meth := k3m4) (c := k3c4) (by decide +kernel) rfl rfl rfl (by decide +kernel)
set_option maxRecDepth 65536 in
theorem w_c14 : (Jvm.Cond.code ({ cls := "com/example/tokushima/tokushima/SummaryBitmap", name := "word", desc := "([JJ)J" } : Jvm.MethodName) prog_27_method_10_code (3 : Nat) (Option.some Jvm.ClassFile.FieldType.long)).before args0 about1 = true := code_word (m := ⟨3, 7⟩) (meth := k3m7) (c := k3c7) (by decide +kernel) rfl rfl rfl (by decide +kernel)
set_option maxRecDepth 65536 in
theorem w_c15 : (Jvm.Cond.code ({ cls := "com/example/tokushima/tokushima/SummaryBitmapSetPinLaw", name := "expected", desc := "(JIII)J" } : Jvm.MethodName) method_4_code (7 : Nat) (Option.some Jvm.ClassFile.FieldType.long)).before args0 about1 = true := code_word (m := ⟨1, 3⟩) (meth := k1m3) (c := k1c3) (by decide +kernel) rfl rfl rfl (by decide +kernel)
set_option maxRecDepth 65536 in
theorem w_c16 : (Jvm.Cond.code ({ cls := "com/example/tokushima/tokushima/SummaryBitmapSetPinLaw", name := "cleared", desc := "(JJII)J" } : Jvm.MethodName) method_5_code (8 : Nat) (Option.some Jvm.ClassFile.FieldType.long)).before args0 about1 = true := code_word (m := ⟨1, 4⟩) (meth := k1m4) (c := k1c4) (by decide +kernel) rfl rfl rfl (by decide +kernel)
set_option maxRecDepth 65536 in
theorem w_c17 : (Jvm.Cond.code ({ cls := "com/example/tokushima/tokushima/SummaryBitmapSetPinLaw", name := "on", desc := "(JIII)Z" } : Jvm.MethodName) method_3_code (5 : Nat) (Option.some Jvm.ClassFile.FieldType.boolean)).before args0 about1 = true := code_word (m := ⟨1, 2⟩) (meth := k1m2) (c := k1c2) (by decide +kernel) rfl rfl rfl (by decide +kernel)
set_option maxRecDepth 65536 in
theorem w_c18 : (Jvm.Cond.code ({ cls := "com/example/tokushima/tokushima/SummaryBitmap", name := "next", desc := "(J)J" } : Jvm.MethodName) prog_27_method_5_code (7 : Nat) (Option.some Jvm.ClassFile.FieldType.long)).before args0 about1 = true := code_word (m := ⟨3, 3⟩) (meth := k3m3) (c := k3c3) (by decide +kernel) rfl rfl rfl (by decide +kernel)
set_option maxRecDepth 65536 in
theorem w_c19 : (Jvm.Cond.code ({ cls := "java/lang/Long", name := "numberOfTrailingZeros", desc := "(J)I" } : Jvm.MethodName) jdk_35_method_49_code (3 : Nat) (Option.some Jvm.ClassFile.FieldType.int)).before args0 about1 = true := code_word (m := ⟨11, 0⟩) (meth := k11m0) (c := k11c0) (by decide +kernel) rfl rfl rfl (by decide +kernel)
set_option maxRecDepth 65536 in
theorem w_c20 : (Jvm.Cond.code ({ cls := "java/lang/Integer", name := "numberOfTrailingZeros", desc := "(I)I" } : Jvm.MethodName) jdk_33_method_48_code (2 : Nat) (Option.some Jvm.ClassFile.FieldType.int)).before args0 about1 = true := code_word (m := ⟨12, 0⟩) (meth := k12m0) (c := k12c0) (by decide +kernel) rfl rfl rfl (by decide +kernel)
set_option maxRecDepth 65536 in
theorem w_c21 : (Jvm.Cond.code ({ cls := "com/example/tokushima/tokushima/SummaryBitmap", name := "nextWord", desc := "(J)J" } : Jvm.MethodName) prog_27_method_8_code (7 : Nat) (Option.some Jvm.ClassFile.FieldType.long)).before args0 about1 = true := code_word (m := ⟨3, 6⟩) (meth := k3m6) (c := k3c6) (by decide +kernel) rfl rfl rfl (by decide +kernel)
def codes1 : List Jvm.Cond := [Jvm.Cond.code x code maxLocals ret, Jvm.Cond.code ({ cls := "java/lang/Math", name := "max", desc := "(II)I" } : Jvm.MethodName) jdk_29_method_65_code (2 : Nat) (Option.some Jvm.ClassFile.FieldType.int), Jvm.Cond.code ({ cls := "com/example/tokushima/tokushima/SummaryBitmap", name := "<init>", desc := "(I)V" } : Jvm.MethodName) prog_27_method_1_code (2 : Nat) (Option.none : Option Jvm.ClassFile.FieldType), Jvm.Cond.code ({ cls := "java/lang/Object", name := "<init>", desc := "()V" } : Jvm.MethodName) object_method_1_code (1 : Nat) (Option.none : Option Jvm.ClassFile.FieldType), Jvm.Cond.code ({ cls := "com/example/tokushima/tokushima/SummaryBitmap", name := "grow", desc := "(I)V" } : Jvm.MethodName) prog_27_method_7_code (2 : Nat) (Option.none : Option Jvm.ClassFile.FieldType), Jvm.Cond.code ({ cls := "com/example/tokushima/tokushima/SummaryBitmap", name := "words", desc := "(I)I" } : Jvm.MethodName) prog_27_method_12_code (1 : Nat) (Option.some Jvm.ClassFile.FieldType.int), Jvm.Cond.code ({ cls := "com/example/tokushima/tokushima/SummaryBitmap", name := "grown", desc := "([JI)[J" } : Jvm.MethodName) prog_27_method_11_code (3 : Nat) (Option.some (Jvm.ClassFile.FieldType.array Jvm.ClassFile.FieldType.long)), Jvm.Cond.code ({ cls := "java/util/Arrays", name := "copyOf", desc := "([JI)[J" } : Jvm.MethodName) jdk_65_method_124_code (3 : Nat) (Option.some (Jvm.ClassFile.FieldType.array Jvm.ClassFile.FieldType.long)), Jvm.Cond.code ({ cls := "java/lang/Math", name := "min", desc := "(II)I" } : Jvm.MethodName) jdk_29_method_69_code (2 : Nat) (Option.some Jvm.ClassFile.FieldType.int), Jvm.Cond.code ({ cls := "java/util/Arrays", name := "fill", desc := "([JIIJ)V" } : Jvm.MethodName) jdk_65_method_102_code (6 : Nat) (Option.none : Option Jvm.ClassFile.FieldType), Jvm.Cond.code ({ cls := "java/util/Arrays", name := "rangeCheck", desc := "(III)V" } : Jvm.MethodName) jdk_65_method_30_code (3 : Nat) (Option.none : Option Jvm.ClassFile.FieldType), Jvm.Cond.code ({ cls := "com/example/tokushima/tokushima/SummaryBitmap", name := "clear", desc := "(I)V" } : Jvm.MethodName) prog_27_method_2_code (4 : Nat) (Option.none : Option Jvm.ClassFile.FieldType), Jvm.Cond.code ({ cls := "com/example/tokushima/tokushima/SummaryBitmap", name := "set", desc := "(I)V" } : Jvm.MethodName) prog_27_method_3_code (3 : Nat) (Option.none : Option Jvm.ClassFile.FieldType), Jvm.Cond.code ({ cls := "com/example/tokushima/tokushima/SummaryBitmap", name := "bitsFrom", desc := "(J)J" } : Jvm.MethodName) prog_27_method_6_code (8 : Nat) (Option.some Jvm.ClassFile.FieldType.long), Jvm.Cond.code ({ cls := "com/example/tokushima/tokushima/SummaryBitmap", name := "word", desc := "([JJ)J" } : Jvm.MethodName) prog_27_method_10_code (3 : Nat) (Option.some Jvm.ClassFile.FieldType.long), Jvm.Cond.code ({ cls := "com/example/tokushima/tokushima/SummaryBitmapSetPinLaw", name := "expected", desc := "(JIII)J" } : Jvm.MethodName) method_4_code (7 : Nat) (Option.some Jvm.ClassFile.FieldType.long), Jvm.Cond.code ({ cls := "com/example/tokushima/tokushima/SummaryBitmapSetPinLaw", name := "cleared", desc := "(JJII)J" } : Jvm.MethodName) method_5_code (8 : Nat) (Option.some Jvm.ClassFile.FieldType.long), Jvm.Cond.code ({ cls := "com/example/tokushima/tokushima/SummaryBitmapSetPinLaw", name := "on", desc := "(JIII)Z" } : Jvm.MethodName) method_3_code (5 : Nat) (Option.some Jvm.ClassFile.FieldType.boolean), Jvm.Cond.code ({ cls := "com/example/tokushima/tokushima/SummaryBitmap", name := "next", desc := "(J)J" } : Jvm.MethodName) prog_27_method_5_code (7 : Nat) (Option.some Jvm.ClassFile.FieldType.long), Jvm.Cond.code ({ cls := "java/lang/Long", name := "numberOfTrailingZeros", desc := "(J)I" } : Jvm.MethodName) jdk_35_method_49_code (3 : Nat) (Option.some Jvm.ClassFile.FieldType.int), Jvm.Cond.code ({ cls := "java/lang/Integer", name := "numberOfTrailingZeros", desc := "(I)I" } : Jvm.MethodName) jdk_33_method_48_code (2 : Nat) (Option.some Jvm.ClassFile.FieldType.int), Jvm.Cond.code ({ cls := "com/example/tokushima/tokushima/SummaryBitmap", name := "nextWord", desc := "(J)J" } : Jvm.MethodName) prog_27_method_8_code (7 : Nat) (Option.some Jvm.ClassFile.FieldType.long)]
set_option maxRecDepth 65536 in
theorem codes_eq : words1.filter isCode = codes1 := rfl
theorem w_codes : ∀ c ∈ words1.filter isCode, c.before args0 about1 = true := by
  rw [codes_eq]
  intro c hc
  simp only [codes1, List.mem_cons, List.not_mem_nil, or_false] at hc
  rcases hc with rfl | rfl | rfl | rfl | rfl | rfl | rfl | rfl | rfl | rfl | rfl | rfl | rfl | rfl | rfl | rfl | rfl | rfl | rfl | rfl | rfl | rfl
  · exact w_c0
  · exact w_c1
  · exact w_c2
  · exact w_c3
  · exact w_c4
  · exact w_c5
  · exact w_c6
  · exact w_c7
  · exact w_c8
  · exact w_c9
  · exact w_c10
  · exact w_c11
  · exact w_c12
  · exact w_c13
  · exact w_c14
  · exact w_c15
  · exact w_c16
  · exact w_c17
  · exact w_c18
  · exact w_c19
  · exact w_c20
  · exact w_c21
set_option maxRecDepth 65536 in
theorem w_t1 : (words1.take 24).all (fun c => isCode c || c.before args0 about1) = true := by decide +kernel
set_option maxRecDepth 65536 in
theorem w_t2 : ((words1.drop 24).take 24).all (fun c => isCode c || c.before args0 about1) = true := by decide +kernel
set_option maxRecDepth 65536 in
theorem w_t3 : (((words1.drop 24).drop 24).take 24).all (fun c => isCode c || c.before args0 about1) = true := by decide +kernel
set_option maxRecDepth 65536 in
theorem w_t4 : ((((words1.drop 24).drop 24).drop 24).take 24).all (fun c => isCode c || c.before args0 about1) = true := by decide +kernel
set_option maxRecDepth 65536 in
theorem w_t5 : ((((words1.drop 24).drop 24).drop 24).drop 24).all (fun c => isCode c || c.before args0 about1) = true := by decide +kernel
theorem w_tables : (allAtoms (Jvm.Cond.code x code maxLocals ret :: tables_1)).before args0 about1 = true := by
  rw [allAtoms_all]
  show words1.all (fun c => c.before args0 about1) = true
  refine all_split ?_ w_codes
  rw [← List.take_append_drop 24 words1, List.all_append, w_t1, ← List.take_append_drop 24 (words1.drop 24), List.all_append, w_t2, ← List.take_append_drop 24 ((words1.drop 24).drop 24), List.all_append, w_t3, ← List.take_append_drop 24 (((words1.drop 24).drop 24).drop 24), List.all_append, w_t4, w_t5]
  rfl
set_option maxRecDepth 65536 in
theorem w_case : (Jvm.Cond.and given_1 narrow_1).before args0 about1 = true := by decide +kernel
theorem w_applies : (headSpec (Jvm.Cond.code x code maxLocals ret :: tables_1) room_1).applies x e0.platform about1 = true :=
  (Spec.applies_iff w_frames).mpr ⟨w_running, w_runnable, w_alone, w_named, w_hears, w_ripe, w_room, w_tables⟩
theorem atStart : AtStart classFile x code maxLocals ret World_1 tables_1 room_1 Calls_1 rest_1 Pre_1 launch0 p0 e0 about1 theMethod args0 below0 :=
  ⟨lists_1, trivial, launch0.admits_env _ _ _, launch0.least_env, fairChoices_fair.cas, fairChoices_fair.clock, w_frames, w_args, w_heap, w_applies, trivial, trivial, w_case⟩
end start1
theorem witness_1 : WitnessClaimed_1 := ⟨start1.p0, start1.e0, start1.about1, start1.theMethod, start1.args0, start1.below0, start1.atStart⟩
end Jvm.Pilot.@@N@@
