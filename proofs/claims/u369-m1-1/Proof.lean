import JvmDerived
import JvmDerived.Pilot.@@N@@Statement
import JvmDerived.Pilot.@@N@@Code
set_option linter.unusedVariables false
set_option linter.unusedSimpArgs false
@@BLOCK:HandJ.lean.txt@@
@@BLOCK:SymMore.lean.txt@@
namespace Jvm.Pilot.@@N@@
open Jvm Jvm.ClassFile Sem Op Lib Jvm.Free Jvm.Stand Jvm.LawKit Jvm.RoadKit Bundle Jvm.Pilot.@@N@@.Jvm.D
/-! ## the common layer: a run that comes to an end of which Q speaks, step by step backwards -/
def Go (p : Program) (e : Env) (below : List Frame) (Q : Outcome → State → Prop) (S : State) : Prop :=
  ∃ s₂ o, Steps p.tables e below S s₂ ∧ s₂.status = .running ∧ Ended s₂ below o ∧ Q o s₂
theorem Go.back {p : Program} {e : Env} {below : List Frame} {Q : Outcome → State → Prop} {A B : State} (k : ∀ t, Steps p.tables e below B t → Steps p.tables e below A t) (h : Go p e below Q B) : Go p e below Q A := by
  obtain ⟨t, o, h1, h2⟩ := h
  exact ⟨t, o, k _ h1, h2⟩
theorem Go.cast {p : Program} {e : Env} {below : List Frame} {Q : Outcome → State → Prop} {A B : State} (k : A = B) (h : Go p e below Q B) : Go p e below Q A := k ▸ h
abbrev jv (x : Int64) : Slot := .val (.long x)
abbrev dv (x : UInt64) : Slot := .val (.double x)
abbrev un : Slot := .unset
abbrev sc : Slot := .second
/-- what a body knows of itself -/
def Cx (p : Program) (s : State) (m : MethodId) (meth : Method) (c : Code) (Z : State) (a0 : Array Value) (own : String) (bytes : ByteArray) (maxL : Nat) (ret : Option FieldType) (nm : String) : Prop :=
  p.tables.exec = Jvm.exec ∧ Z.Warmed39 s.vm ∧ (∀ d ∈ tables_1, d.before a0 Z = true) ∧ s.vm.findClass own = some m.cls ∧ c.code = bytes ∧ c.maxLocals = maxL ∧ meth.sig.returnType = ret ∧ meth.locks = false ∧ meth.name = nm
/-- where the run stands: heap h; every write so far lies at or above n0; k cells and n slots made at the most -/
def St (Z : State) (p : Program) (l : Launch) (e : Env) (R : Room) (s : State) (m : MethodId) (args : Array Value) (below : List Frame) (meth : Method) (c : Code) (n0 : Nat) (T : State) (h : Heap) (k n : Nat) : Prop :=
  ∃ locs, Stand p l e R s m args below meth c T locs k n ∧ Fr n0 locs ∧ Old Z n0 s.heap ∧ T.heap = h
def FinQ (s : State) (k n n0 : Nat) (Q : Option Value → Heap → Prop) (o : Outcome) (t : State) : Prop := ∃ v L, o = .returned v ∧ (Fr n0 L ∧ Q v t.heap) ∧ FrameEnd s o t L k n
/-- a body's contract -/
def Con (l : Launch) (Z : State) (y : MethodName) (bytes : ByteArray) (maxL : Nat) (ret : Option FieldType) (rm : Room) (as' : Array Value) (h : Heap) (n0 : Nat) (Q : Option Value → Heap → Prop) : Prop :=
  ∀ ws, MetFree l y (head1 (Jvm.Cond.code y bytes maxL ret :: ws) rm) (fun a U => a = as' ∧ Z.Warmed39 U.vm ∧ U.heap = h) (fun _ _ _ _ _ => True) (fun _ U o U' => ∃ v L, o = .returned v ∧ (Fr n0 L ∧ Q v U'.heap) ∧ FrameEnd U o U' L rm.cells rm.slots)
theorem con_of {l : Launch} {Z : State} {a0 : Array Value} {y : MethodName} {bytes : ByteArray} {maxL : Nat} {ret : Option FieldType} {rm : Room} {as' : Array Value} {h : Heap} {n0 : Nat} {Q : Option Value → Heap → Prop}
    (hw : ∀ d ∈ tables_1, d.before a0 Z = true) (hpl : plainFor y = true) (hn0 : Old Z n0 h)
    (body : ∀ p e s m below meth c T, Cx p s m meth c Z a0 y.cls bytes maxL ret y.name → St Z p l e rm s m as' below meth c n0 T h 0 0 → Go p e below (FinQ s rm.cells rm.slots n0 Q) (T.setTop (entryFrame m as' maxL))) :
    Con l Z y bytes maxL ret rm as' h n0 Q := by
  intro ws
  refine MetFree.of_bodySF hpl hisR ?_
  intro p e s m args below meth c s₁ Bd hml0 hP hK
  obtain ⟨rfl, hZ, hh⟩ := hP
  have e0 : s₁.heap = h := by rw [← hh, Bd.state]; rfl
  exact body p e s m below meth c s₁ ⟨Bd.exec, hZ, hw, findClass_of_methodNamed Bd.named, Bd.bytes, hml0, Bd.returns, Bd.notSynchronized, (name_of_methodNamed Bd.named Bd.method).1⟩ ⟨[], Stand.of_body Bd, Fr.nil n0, by rw [hh]; exact hn0, e0⟩
section Steps1
variable {p : Program} {l : Launch} {e : Env} {R : Room} {s : State} {m : MethodId} {args : Array Value} {below : List Frame} {meth : Method} {c : Code} {Z : State} {a0 : Array Value} {own : String} {bytes : ByteArray} {maxL : Nat} {ret : Option FieldType} {nm : String} {n0 : Nat} {T : State} {h : Heap} {k n : Nat} {Q : Outcome → State → Prop} {pc pc' pc2 : Nat} {Ls Ls' : Array Slot} {st : List Value}
theorem Cx.w (C : Cx p s m meth c Z a0 own bytes maxL ret nm) (i : Nat) {d : Jvm.Cond} (hd : tables_1[i]? = some d) : d.before a0 Z = true := C.2.2.1 _ (List.mem_of_getElem? hd)
theorem Cx.ws (C : Cx p s m meth c Z a0 own bytes maxL ret nm) : ∀ d ∈ tables_1, d.before a0 Z = true := C.2.2.1
theorem Cx.cd (C : Cx p s m meth c Z a0 own bytes maxL ret nm) {r : Except ClassFile.DecodeError (ClassFile.Instr × Nat)} (h2 : decode bytes pc = r) : decode c.code pc = r := hb C.2.2.2.2.1 h2
theorem Cx.ow (C : Cx p s m meth c Z a0 own bytes maxL ret nm) : s.vm.findClass own = some m.cls := C.2.2.2.1
theorem Cx.hZ (C : Cx p s m meth c Z a0 own bytes maxL ret nm) : Z.Warmed39 s.vm := C.2.1
theorem Cx.ml (C : Cx p s m meth c Z a0 own bytes maxL ret nm) : c.maxLocals = maxL := C.2.2.2.2.2.1
theorem Cx.rt (C : Cx p s m meth c Z a0 own bytes maxL ret nm) : meth.sig.returnType = ret := C.2.2.2.2.2.2.1
theorem Cx.lk (C : Cx p s m meth c Z a0 own bytes maxL ret nm) : meth.locks = false := C.2.2.2.2.2.2.2.1
theorem Cx.nmE (C : Cx p s m meth c Z a0 own bytes maxL ret nm) : meth.name = nm := C.2.2.2.2.2.2.2.2
theorem St.sz (X : St Z p l e R s m args below meth c n0 T h k n) : n0 ≤ h.size := by obtain ⟨_, Y, _, q, rfl⟩ := X; exact Nat.le_trans (Nat.le_trans (Nat.le_of_eq q.1.symm) q.2.1) Y.same.2.1
theorem St.old (X : St Z p l e R s m args below meth c n0 T h k n) : Old Z n0 h := by
  obtain ⟨locs, Y, N, o, rfl⟩ := X
  refine ⟨o.1, Nat.le_trans o.2.1 Y.same.2.1, fun a ce hc => ?_⟩
  obtain ⟨c', e1, e2, e3, e4⟩ := Y.same.2.2.2.2.2 a ce (o.2.2 a ce hc)
  have lt := (Array.getElem?_eq_some_iff.mp hc).1
  have hs : c'.slots = ce.slots := Array.ext_getElem? fun i => e4 i fun q => by have := N _ q; have := o.1; simp at *; omega
  rw [hs] at e2
  exact (show c' = ce from e2) ▸ e1
theorem St.more (X : St Z p l e R s m args below meth c n0 T h k n) {k' n' : Nat} (hk : k ≤ k') (hn : n ≤ n') : St Z p l e R s m args below meth c n0 T h k' n' := by
  obtain ⟨locs, Y, r⟩ := X
  exact ⟨locs, Y.more hk hn, r⟩

theorem go_iload (C : Cx p s m meth c Z a0 own bytes maxL ret nm) (X : St Z p l e R s m args below meth c n0 T h k n) {i : Nat} {v : Int32} (pc' : Nat) (hp : pc + 2 = pc') (hd : decode bytes pc = .ok (.iload i, 2)) (hl : Ls[i]? = some (.val (.int v))) (hr : Go p e below Q (T.setTop (mkF m pc' Ls (.int v :: st)))) : Go p e below Q (T.setTop (mkF m pc Ls st)) := by
  subst hp
  obtain ⟨locs, Y, -, -, -⟩ := X
  exact Go.back (fun t kt => Jvm.Free.XS.iload Y.here C.1 rfl (C.cd hd) hl kt) hr
theorem go_iloadN (C : Cx p s m meth c Z a0 own bytes maxL ret nm) (X : St Z p l e R s m args below meth c n0 T h k n) {i : Fin 4} {v : Int32} (pc' : Nat) (hp : pc + 1 = pc') (hd : decode bytes pc = .ok (.iload_n i, 1)) (hl : Ls[i.val]? = some (.val (.int v))) (hr : Go p e below Q (T.setTop (mkF m pc' Ls (.int v :: st)))) : Go p e below Q (T.setTop (mkF m pc Ls st)) := by
  subst hp
  obtain ⟨locs, Y, -, -, -⟩ := X
  exact Go.back (fun t kt => Jvm.Free.XS.iloadN Y.here C.1 rfl (C.cd hd) hl kt) hr
theorem go_istore (C : Cx p s m meth c Z a0 own bytes maxL ret nm) (X : St Z p l e R s m args below meth c n0 T h k n) {i : Nat} {v : Int32} (pc' : Nat) (hp : pc + 2 = pc') (hd : decode bytes pc = .ok (.istore i, 2)) (Ls' : Array Slot) (hl : storeLocals Ls i (.int v) = some Ls') (hr : Go p e below Q (T.setTop (mkF m pc' Ls' st))) : Go p e below Q (T.setTop (mkF m pc Ls (.int v :: st))) := by
  subst hp
  obtain ⟨locs, Y, -, -, -⟩ := X
  exact Go.back (fun t kt => Jvm.Free.XS.istore Y.here C.1 rfl (C.cd hd) rfl hl kt) hr
theorem go_istoreN (C : Cx p s m meth c Z a0 own bytes maxL ret nm) (X : St Z p l e R s m args below meth c n0 T h k n) {i : Fin 4} {v : Int32} (pc' : Nat) (hp : pc + 1 = pc') (hd : decode bytes pc = .ok (.istore_n i, 1)) (Ls' : Array Slot) (hl : storeLocals Ls i.val (.int v) = some Ls') (hr : Go p e below Q (T.setTop (mkF m pc' Ls' st))) : Go p e below Q (T.setTop (mkF m pc Ls (.int v :: st))) := by
  subst hp
  obtain ⟨locs, Y, -, -, -⟩ := X
  exact Go.back (fun t kt => Jvm.Free.XS.istoreN Y.here C.1 rfl (C.cd hd) rfl hl kt) hr
theorem go_lload (C : Cx p s m meth c Z a0 own bytes maxL ret nm) (X : St Z p l e R s m args below meth c n0 T h k n) {i : Nat} {v : Int64} (pc' : Nat) (hp : pc + 2 = pc') (hd : decode bytes pc = .ok (.lload i, 2)) (hl : Ls[i]? = some (.val (.long v))) (hr : Go p e below Q (T.setTop (mkF m pc' Ls (.long v :: st)))) : Go p e below Q (T.setTop (mkF m pc Ls st)) := by
  subst hp
  obtain ⟨locs, Y, -, -, -⟩ := X
  exact Go.back (fun t kt => Jvm.Free.XS.lload Y.here C.1 rfl (C.cd hd) hl kt) hr
theorem go_lloadN (C : Cx p s m meth c Z a0 own bytes maxL ret nm) (X : St Z p l e R s m args below meth c n0 T h k n) {i : Fin 4} {v : Int64} (pc' : Nat) (hp : pc + 1 = pc') (hd : decode bytes pc = .ok (.lload_n i, 1)) (hl : Ls[i.val]? = some (.val (.long v))) (hr : Go p e below Q (T.setTop (mkF m pc' Ls (.long v :: st)))) : Go p e below Q (T.setTop (mkF m pc Ls st)) := by
  subst hp
  obtain ⟨locs, Y, -, -, -⟩ := X
  exact Go.back (fun t kt => Jvm.Free.XS.lloadN Y.here C.1 rfl (C.cd hd) hl kt) hr
theorem go_lstore (C : Cx p s m meth c Z a0 own bytes maxL ret nm) (X : St Z p l e R s m args below meth c n0 T h k n) {i : Nat} {v : Int64} (pc' : Nat) (hp : pc + 2 = pc') (hd : decode bytes pc = .ok (.lstore i, 2)) (Ls' : Array Slot) (hl : storeLocals Ls i (.long v) = some Ls') (hr : Go p e below Q (T.setTop (mkF m pc' Ls' st))) : Go p e below Q (T.setTop (mkF m pc Ls (.long v :: st))) := by
  subst hp
  obtain ⟨locs, Y, -, -, -⟩ := X
  exact Go.back (fun t kt => Jvm.Free.XS.lstore Y.here C.1 rfl (C.cd hd) rfl hl kt) hr
theorem go_lstoreN (C : Cx p s m meth c Z a0 own bytes maxL ret nm) (X : St Z p l e R s m args below meth c n0 T h k n) {i : Fin 4} {v : Int64} (pc' : Nat) (hp : pc + 1 = pc') (hd : decode bytes pc = .ok (.lstore_n i, 1)) (Ls' : Array Slot) (hl : storeLocals Ls i.val (.long v) = some Ls') (hr : Go p e below Q (T.setTop (mkF m pc' Ls' st))) : Go p e below Q (T.setTop (mkF m pc Ls (.long v :: st))) := by
  subst hp
  obtain ⟨locs, Y, -, -, -⟩ := X
  exact Go.back (fun t kt => Jvm.Free.XS.lstoreN Y.here C.1 rfl (C.cd hd) rfl hl kt) hr
theorem go_aload (C : Cx p s m meth c Z a0 own bytes maxL ret nm) (X : St Z p l e R s m args below meth c n0 T h k n) {i : Nat} {v : Value} (pc' : Nat) (hp : pc + 2 = pc') (hd : decode bytes pc = .ok (.aload i, 2)) (hl : Ls[i]? = some (.val v)) (hv : v.isRef = true) (hr : Go p e below Q (T.setTop (mkF m pc' Ls (v :: st)))) : Go p e below Q (T.setTop (mkF m pc Ls st)) := by
  subst hp
  obtain ⟨locs, Y, -, -, -⟩ := X
  exact Go.back (fun t kt => Jvm.Free.XS.aload Y.here C.1 rfl (C.cd hd) hl hv kt) hr
theorem go_aloadN (C : Cx p s m meth c Z a0 own bytes maxL ret nm) (X : St Z p l e R s m args below meth c n0 T h k n) {i : Fin 4} {v : Value} (pc' : Nat) (hp : pc + 1 = pc') (hd : decode bytes pc = .ok (.aload_n i, 1)) (hl : Ls[i.val]? = some (.val v)) (hv : v.isRef = true) (hr : Go p e below Q (T.setTop (mkF m pc' Ls (v :: st)))) : Go p e below Q (T.setTop (mkF m pc Ls st)) := by
  subst hp
  obtain ⟨locs, Y, -, -, -⟩ := X
  exact Go.back (fun t kt => Jvm.Free.XS.aloadN Y.here C.1 rfl (C.cd hd) hl hv kt) hr
theorem go_astore (C : Cx p s m meth c Z a0 own bytes maxL ret nm) (X : St Z p l e R s m args below meth c n0 T h k n) {i : Nat} {v : Value} (pc' : Nat) (hp : pc + 2 = pc') (hd : decode bytes pc = .ok (.astore i, 2)) (hv : v.isRef = true) (Ls' : Array Slot) (hl : storeLocals Ls i v = some Ls') (hr : Go p e below Q (T.setTop (mkF m pc' Ls' st))) : Go p e below Q (T.setTop (mkF m pc Ls (v :: st))) := by
  subst hp
  obtain ⟨locs, Y, -, -, -⟩ := X
  exact Go.back (fun t kt => Jvm.Free.XS.astore Y.here C.1 rfl (C.cd hd) rfl hv hl kt) hr
theorem go_astoreN (C : Cx p s m meth c Z a0 own bytes maxL ret nm) (X : St Z p l e R s m args below meth c n0 T h k n) {i : Fin 4} {v : Value} (pc' : Nat) (hp : pc + 1 = pc') (hd : decode bytes pc = .ok (.astore_n i, 1)) (hv : v.isRef = true) (Ls' : Array Slot) (hl : storeLocals Ls i.val v = some Ls') (hr : Go p e below Q (T.setTop (mkF m pc' Ls' st))) : Go p e below Q (T.setTop (mkF m pc Ls (v :: st))) := by
  subst hp
  obtain ⟨locs, Y, -, -, -⟩ := X
  exact Go.back (fun t kt => Jvm.Free.XS.astoreN Y.here C.1 rfl (C.cd hd) rfl hv hl kt) hr
theorem go_iconst (C : Cx p s m meth c Z a0 own bytes maxL ret nm) (X : St Z p l e R s m args below meth c n0 T h k n) {i : Int} {z : Int32} (pc' : Nat) (hp : pc + 1 = pc') (hd : decode bytes pc = .ok (.iconst i, 1)) (hz : Int32.ofInt i = z) (hr : Go p e below Q (T.setTop (mkF m pc' Ls (.int z :: st)))) : Go p e below Q (T.setTop (mkF m pc Ls st)) := by
  subst hp
  obtain ⟨locs, Y, -, -, -⟩ := X
  exact Go.back (fun t kt => by subst hz; exact Jvm.Free.XS.iconst Y.here C.1 rfl (C.cd hd) kt) hr
theorem go_bipush (C : Cx p s m meth c Z a0 own bytes maxL ret nm) (X : St Z p l e R s m args below meth c n0 T h k n) {i : Int} {z : Int32} (pc' : Nat) (hp : pc + 2 = pc') (hd : decode bytes pc = .ok (.bipush i, 2)) (hz : (Int8.ofInt i).toInt32 = z) (hr : Go p e below Q (T.setTop (mkF m pc' Ls (.int z :: st)))) : Go p e below Q (T.setTop (mkF m pc Ls st)) := by
  subst hp
  obtain ⟨locs, Y, -, -, -⟩ := X
  exact Go.back (fun t kt => by subst hz; exact Jvm.Free.XS.bipush Y.here C.1 rfl (C.cd hd) kt) hr
theorem go_sipush (C : Cx p s m meth c Z a0 own bytes maxL ret nm) (X : St Z p l e R s m args below meth c n0 T h k n) {i : Int} {z : Int32} (pc' : Nat) (hp : pc + 3 = pc') (hd : decode bytes pc = .ok (.sipush i, 3)) (hz : (Int16.ofInt i).toInt32 = z) (hr : Go p e below Q (T.setTop (mkF m pc' Ls (.int z :: st)))) : Go p e below Q (T.setTop (mkF m pc Ls st)) := by
  subst hp
  obtain ⟨locs, Y, -, -, -⟩ := X
  exact Go.back (fun t kt => by subst hz; exact Jvm.Free.XS.sipush Y.here C.1 rfl (C.cd hd) kt) hr
theorem go_lconst (C : Cx p s m meth c Z a0 own bytes maxL ret nm) (X : St Z p l e R s m args below meth c n0 T h k n) {i : Fin 2} {z : Int64} (pc' : Nat) (hp : pc + 1 = pc') (hd : decode bytes pc = .ok (.lconst i, 1)) (hz : Int64.ofNat i = z) (hr : Go p e below Q (T.setTop (mkF m pc' Ls (.long z :: st)))) : Go p e below Q (T.setTop (mkF m pc Ls st)) := by
  subst hp
  obtain ⟨locs, Y, -, -, -⟩ := X
  exact Go.back (fun t kt => by subst hz; exact Jvm.Free.XS.lconst Y.here C.1 rfl (C.cd hd) kt) hr
theorem go_aconstNull (C : Cx p s m meth c Z a0 own bytes maxL ret nm) (X : St Z p l e R s m args below meth c n0 T h k n)  (pc' : Nat) (hp : pc + 1 = pc') (hd : decode bytes pc = .ok (.aconst_null, 1)) (hr : Go p e below Q (T.setTop (mkF m pc' Ls (.null :: st)))) : Go p e below Q (T.setTop (mkF m pc Ls st)) := by
  subst hp
  obtain ⟨locs, Y, -, -, -⟩ := X
  exact Go.back (fun t kt => Jvm.Free.XS.aconstNull Y.here C.1 rfl (C.cd hd) kt) hr
theorem go_iaddL (C : Cx p s m meth c Z a0 own bytes maxL ret nm) (X : St Z p l e R s m args below meth c n0 T h k n) {x y z : Int32} (pc' : Nat) (hp : pc + 1 = pc') (hd : decode bytes pc = .ok (.iadd, 1)) (hz : x + y = z) (hr : Go p e below Q (T.setTop (mkF m pc' Ls (.int z :: st)))) : Go p e below Q (T.setTop (mkF m pc Ls (.int y :: .int x :: st))) := by
  subst hp
  obtain ⟨locs, Y, -, -, -⟩ := X
  exact Go.back (fun t kt => by subst hz; exact Jvm.Free.XS.iadd Y.here C.1 rfl (C.cd hd) rfl kt) hr
theorem go_iadd (C : Cx p s m meth c Z a0 own bytes maxL ret nm) (X : St Z p l e R s m args below meth c n0 T h k n) {x y : Int32} (pc' : Nat) (hp : pc + 1 = pc') (hd : decode bytes pc = .ok (.iadd, 1)) (hr : Go p e below Q (T.setTop (mkF m pc' Ls (.int (x + y) :: st)))) : Go p e below Q (T.setTop (mkF m pc Ls (.int y :: .int x :: st))) := by
  subst hp
  obtain ⟨locs, Y, -, -, -⟩ := X
  exact Go.back (fun t kt => Jvm.Free.XS.iadd Y.here C.1 rfl (C.cd hd) rfl kt) hr
theorem go_isubL (C : Cx p s m meth c Z a0 own bytes maxL ret nm) (X : St Z p l e R s m args below meth c n0 T h k n) {x y z : Int32} (pc' : Nat) (hp : pc + 1 = pc') (hd : decode bytes pc = .ok (.isub, 1)) (hz : x - y = z) (hr : Go p e below Q (T.setTop (mkF m pc' Ls (.int z :: st)))) : Go p e below Q (T.setTop (mkF m pc Ls (.int y :: .int x :: st))) := by
  subst hp
  obtain ⟨locs, Y, -, -, -⟩ := X
  exact Go.back (fun t kt => by subst hz; exact Jvm.Free.XS.isub Y.here C.1 rfl (C.cd hd) rfl kt) hr
theorem go_isub (C : Cx p s m meth c Z a0 own bytes maxL ret nm) (X : St Z p l e R s m args below meth c n0 T h k n) {x y : Int32} (pc' : Nat) (hp : pc + 1 = pc') (hd : decode bytes pc = .ok (.isub, 1)) (hr : Go p e below Q (T.setTop (mkF m pc' Ls (.int (x - y) :: st)))) : Go p e below Q (T.setTop (mkF m pc Ls (.int y :: .int x :: st))) := by
  subst hp
  obtain ⟨locs, Y, -, -, -⟩ := X
  exact Go.back (fun t kt => Jvm.Free.XS.isub Y.here C.1 rfl (C.cd hd) rfl kt) hr
theorem go_imulL (C : Cx p s m meth c Z a0 own bytes maxL ret nm) (X : St Z p l e R s m args below meth c n0 T h k n) {x y z : Int32} (pc' : Nat) (hp : pc + 1 = pc') (hd : decode bytes pc = .ok (.imul, 1)) (hz : x * y = z) (hr : Go p e below Q (T.setTop (mkF m pc' Ls (.int z :: st)))) : Go p e below Q (T.setTop (mkF m pc Ls (.int y :: .int x :: st))) := by
  subst hp
  obtain ⟨locs, Y, -, -, -⟩ := X
  exact Go.back (fun t kt => by subst hz; exact Jvm.Free.XS.imul Y.here C.1 rfl (C.cd hd) rfl kt) hr
theorem go_imul (C : Cx p s m meth c Z a0 own bytes maxL ret nm) (X : St Z p l e R s m args below meth c n0 T h k n) {x y : Int32} (pc' : Nat) (hp : pc + 1 = pc') (hd : decode bytes pc = .ok (.imul, 1)) (hr : Go p e below Q (T.setTop (mkF m pc' Ls (.int (x * y) :: st)))) : Go p e below Q (T.setTop (mkF m pc Ls (.int y :: .int x :: st))) := by
  subst hp
  obtain ⟨locs, Y, -, -, -⟩ := X
  exact Go.back (fun t kt => Jvm.Free.XS.imul Y.here C.1 rfl (C.cd hd) rfl kt) hr
theorem go_iandL (C : Cx p s m meth c Z a0 own bytes maxL ret nm) (X : St Z p l e R s m args below meth c n0 T h k n) {x y z : Int32} (pc' : Nat) (hp : pc + 1 = pc') (hd : decode bytes pc = .ok (.iand, 1)) (hz : x &&& y = z) (hr : Go p e below Q (T.setTop (mkF m pc' Ls (.int z :: st)))) : Go p e below Q (T.setTop (mkF m pc Ls (.int y :: .int x :: st))) := by
  subst hp
  obtain ⟨locs, Y, -, -, -⟩ := X
  exact Go.back (fun t kt => by subst hz; exact Jvm.Free.XS.iand Y.here C.1 rfl (C.cd hd) rfl kt) hr
theorem go_iand (C : Cx p s m meth c Z a0 own bytes maxL ret nm) (X : St Z p l e R s m args below meth c n0 T h k n) {x y : Int32} (pc' : Nat) (hp : pc + 1 = pc') (hd : decode bytes pc = .ok (.iand, 1)) (hr : Go p e below Q (T.setTop (mkF m pc' Ls (.int (x &&& y) :: st)))) : Go p e below Q (T.setTop (mkF m pc Ls (.int y :: .int x :: st))) := by
  subst hp
  obtain ⟨locs, Y, -, -, -⟩ := X
  exact Go.back (fun t kt => Jvm.Free.XS.iand Y.here C.1 rfl (C.cd hd) rfl kt) hr
theorem go_iorL (C : Cx p s m meth c Z a0 own bytes maxL ret nm) (X : St Z p l e R s m args below meth c n0 T h k n) {x y z : Int32} (pc' : Nat) (hp : pc + 1 = pc') (hd : decode bytes pc = .ok (.ior, 1)) (hz : x ||| y = z) (hr : Go p e below Q (T.setTop (mkF m pc' Ls (.int z :: st)))) : Go p e below Q (T.setTop (mkF m pc Ls (.int y :: .int x :: st))) := by
  subst hp
  obtain ⟨locs, Y, -, -, -⟩ := X
  exact Go.back (fun t kt => by subst hz; exact Jvm.Free.XS.ior Y.here C.1 rfl (C.cd hd) rfl kt) hr
theorem go_ior (C : Cx p s m meth c Z a0 own bytes maxL ret nm) (X : St Z p l e R s m args below meth c n0 T h k n) {x y : Int32} (pc' : Nat) (hp : pc + 1 = pc') (hd : decode bytes pc = .ok (.ior, 1)) (hr : Go p e below Q (T.setTop (mkF m pc' Ls (.int (x ||| y) :: st)))) : Go p e below Q (T.setTop (mkF m pc Ls (.int y :: .int x :: st))) := by
  subst hp
  obtain ⟨locs, Y, -, -, -⟩ := X
  exact Go.back (fun t kt => Jvm.Free.XS.ior Y.here C.1 rfl (C.cd hd) rfl kt) hr
theorem go_ixorL (C : Cx p s m meth c Z a0 own bytes maxL ret nm) (X : St Z p l e R s m args below meth c n0 T h k n) {x y z : Int32} (pc' : Nat) (hp : pc + 1 = pc') (hd : decode bytes pc = .ok (.ixor, 1)) (hz : x ^^^ y = z) (hr : Go p e below Q (T.setTop (mkF m pc' Ls (.int z :: st)))) : Go p e below Q (T.setTop (mkF m pc Ls (.int y :: .int x :: st))) := by
  subst hp
  obtain ⟨locs, Y, -, -, -⟩ := X
  exact Go.back (fun t kt => by subst hz; exact Jvm.Free.XS.ixor Y.here C.1 rfl (C.cd hd) rfl kt) hr
theorem go_ixor (C : Cx p s m meth c Z a0 own bytes maxL ret nm) (X : St Z p l e R s m args below meth c n0 T h k n) {x y : Int32} (pc' : Nat) (hp : pc + 1 = pc') (hd : decode bytes pc = .ok (.ixor, 1)) (hr : Go p e below Q (T.setTop (mkF m pc' Ls (.int (x ^^^ y) :: st)))) : Go p e below Q (T.setTop (mkF m pc Ls (.int y :: .int x :: st))) := by
  subst hp
  obtain ⟨locs, Y, -, -, -⟩ := X
  exact Go.back (fun t kt => Jvm.Free.XS.ixor Y.here C.1 rfl (C.cd hd) rfl kt) hr
theorem go_idiv (C : Cx p s m meth c Z a0 own bytes maxL ret nm) (X : St Z p l e R s m args below meth c n0 T h k n) {x y : Int32} (pc' : Nat) (hp : pc + 1 = pc') (hd : decode bytes pc = .ok (.idiv, 1)) (hy : y ≠ 0) (hr : Go p e below Q (T.setTop (mkF m pc' Ls (.int (x / y) :: st)))) : Go p e below Q (T.setTop (mkF m pc Ls (.int y :: .int x :: st))) := by
  subst hp
  obtain ⟨locs, Y, -, -, -⟩ := X
  exact Go.back (fun t kt => Jvm.Free.XS.idiv Y.here C.1 rfl (C.cd hd) rfl hy kt) hr
theorem go_ineg (C : Cx p s m meth c Z a0 own bytes maxL ret nm) (X : St Z p l e R s m args below meth c n0 T h k n) {x : Int32} (pc' : Nat) (hp : pc + 1 = pc') (hd : decode bytes pc = .ok (.ineg, 1)) (hr : Go p e below Q (T.setTop (mkF m pc' Ls (.int (-x) :: st)))) : Go p e below Q (T.setTop (mkF m pc Ls (.int x :: st))) := by
  subst hp
  obtain ⟨locs, Y, -, -, -⟩ := X
  exact Go.back (fun t kt => Jvm.Free.XS.ineg Y.here C.1 rfl (C.cd hd) rfl kt) hr
theorem go_laddL (C : Cx p s m meth c Z a0 own bytes maxL ret nm) (X : St Z p l e R s m args below meth c n0 T h k n) {x y z : Int64} (pc' : Nat) (hp : pc + 1 = pc') (hd : decode bytes pc = .ok (.ladd, 1)) (hz : x + y = z) (hr : Go p e below Q (T.setTop (mkF m pc' Ls (.long z :: st)))) : Go p e below Q (T.setTop (mkF m pc Ls (.long y :: .long x :: st))) := by
  subst hp
  obtain ⟨locs, Y, -, -, -⟩ := X
  exact Go.back (fun t kt => by subst hz; exact Jvm.Free.XS.ladd Y.here C.1 rfl (C.cd hd) rfl kt) hr
theorem go_ladd (C : Cx p s m meth c Z a0 own bytes maxL ret nm) (X : St Z p l e R s m args below meth c n0 T h k n) {x y : Int64} (pc' : Nat) (hp : pc + 1 = pc') (hd : decode bytes pc = .ok (.ladd, 1)) (hr : Go p e below Q (T.setTop (mkF m pc' Ls (.long (x + y) :: st)))) : Go p e below Q (T.setTop (mkF m pc Ls (.long y :: .long x :: st))) := by
  subst hp
  obtain ⟨locs, Y, -, -, -⟩ := X
  exact Go.back (fun t kt => Jvm.Free.XS.ladd Y.here C.1 rfl (C.cd hd) rfl kt) hr
theorem go_lsubL (C : Cx p s m meth c Z a0 own bytes maxL ret nm) (X : St Z p l e R s m args below meth c n0 T h k n) {x y z : Int64} (pc' : Nat) (hp : pc + 1 = pc') (hd : decode bytes pc = .ok (.lsub, 1)) (hz : x - y = z) (hr : Go p e below Q (T.setTop (mkF m pc' Ls (.long z :: st)))) : Go p e below Q (T.setTop (mkF m pc Ls (.long y :: .long x :: st))) := by
  subst hp
  obtain ⟨locs, Y, -, -, -⟩ := X
  exact Go.back (fun t kt => by subst hz; exact Jvm.Free.XS.lsub Y.here C.1 rfl (C.cd hd) rfl kt) hr
theorem go_lsub (C : Cx p s m meth c Z a0 own bytes maxL ret nm) (X : St Z p l e R s m args below meth c n0 T h k n) {x y : Int64} (pc' : Nat) (hp : pc + 1 = pc') (hd : decode bytes pc = .ok (.lsub, 1)) (hr : Go p e below Q (T.setTop (mkF m pc' Ls (.long (x - y) :: st)))) : Go p e below Q (T.setTop (mkF m pc Ls (.long y :: .long x :: st))) := by
  subst hp
  obtain ⟨locs, Y, -, -, -⟩ := X
  exact Go.back (fun t kt => Jvm.Free.XS.lsub Y.here C.1 rfl (C.cd hd) rfl kt) hr
theorem go_lmulL (C : Cx p s m meth c Z a0 own bytes maxL ret nm) (X : St Z p l e R s m args below meth c n0 T h k n) {x y z : Int64} (pc' : Nat) (hp : pc + 1 = pc') (hd : decode bytes pc = .ok (.lmul, 1)) (hz : x * y = z) (hr : Go p e below Q (T.setTop (mkF m pc' Ls (.long z :: st)))) : Go p e below Q (T.setTop (mkF m pc Ls (.long y :: .long x :: st))) := by
  subst hp
  obtain ⟨locs, Y, -, -, -⟩ := X
  exact Go.back (fun t kt => by subst hz; exact Jvm.Free.XS.lmul Y.here C.1 rfl (C.cd hd) rfl kt) hr
theorem go_lmul (C : Cx p s m meth c Z a0 own bytes maxL ret nm) (X : St Z p l e R s m args below meth c n0 T h k n) {x y : Int64} (pc' : Nat) (hp : pc + 1 = pc') (hd : decode bytes pc = .ok (.lmul, 1)) (hr : Go p e below Q (T.setTop (mkF m pc' Ls (.long (x * y) :: st)))) : Go p e below Q (T.setTop (mkF m pc Ls (.long y :: .long x :: st))) := by
  subst hp
  obtain ⟨locs, Y, -, -, -⟩ := X
  exact Go.back (fun t kt => Jvm.Free.XS.lmul Y.here C.1 rfl (C.cd hd) rfl kt) hr
theorem go_landL (C : Cx p s m meth c Z a0 own bytes maxL ret nm) (X : St Z p l e R s m args below meth c n0 T h k n) {x y z : Int64} (pc' : Nat) (hp : pc + 1 = pc') (hd : decode bytes pc = .ok (.land, 1)) (hz : x &&& y = z) (hr : Go p e below Q (T.setTop (mkF m pc' Ls (.long z :: st)))) : Go p e below Q (T.setTop (mkF m pc Ls (.long y :: .long x :: st))) := by
  subst hp
  obtain ⟨locs, Y, -, -, -⟩ := X
  exact Go.back (fun t kt => by subst hz; exact Jvm.Free.XS.land Y.here C.1 rfl (C.cd hd) rfl kt) hr
theorem go_land (C : Cx p s m meth c Z a0 own bytes maxL ret nm) (X : St Z p l e R s m args below meth c n0 T h k n) {x y : Int64} (pc' : Nat) (hp : pc + 1 = pc') (hd : decode bytes pc = .ok (.land, 1)) (hr : Go p e below Q (T.setTop (mkF m pc' Ls (.long (x &&& y) :: st)))) : Go p e below Q (T.setTop (mkF m pc Ls (.long y :: .long x :: st))) := by
  subst hp
  obtain ⟨locs, Y, -, -, -⟩ := X
  exact Go.back (fun t kt => Jvm.Free.XS.land Y.here C.1 rfl (C.cd hd) rfl kt) hr
theorem go_lorL (C : Cx p s m meth c Z a0 own bytes maxL ret nm) (X : St Z p l e R s m args below meth c n0 T h k n) {x y z : Int64} (pc' : Nat) (hp : pc + 1 = pc') (hd : decode bytes pc = .ok (.lor, 1)) (hz : x ||| y = z) (hr : Go p e below Q (T.setTop (mkF m pc' Ls (.long z :: st)))) : Go p e below Q (T.setTop (mkF m pc Ls (.long y :: .long x :: st))) := by
  subst hp
  obtain ⟨locs, Y, -, -, -⟩ := X
  exact Go.back (fun t kt => by subst hz; exact Jvm.Free.XS.lor Y.here C.1 rfl (C.cd hd) rfl kt) hr
theorem go_lor (C : Cx p s m meth c Z a0 own bytes maxL ret nm) (X : St Z p l e R s m args below meth c n0 T h k n) {x y : Int64} (pc' : Nat) (hp : pc + 1 = pc') (hd : decode bytes pc = .ok (.lor, 1)) (hr : Go p e below Q (T.setTop (mkF m pc' Ls (.long (x ||| y) :: st)))) : Go p e below Q (T.setTop (mkF m pc Ls (.long y :: .long x :: st))) := by
  subst hp
  obtain ⟨locs, Y, -, -, -⟩ := X
  exact Go.back (fun t kt => Jvm.Free.XS.lor Y.here C.1 rfl (C.cd hd) rfl kt) hr
theorem go_lxorL (C : Cx p s m meth c Z a0 own bytes maxL ret nm) (X : St Z p l e R s m args below meth c n0 T h k n) {x y z : Int64} (pc' : Nat) (hp : pc + 1 = pc') (hd : decode bytes pc = .ok (.lxor, 1)) (hz : x ^^^ y = z) (hr : Go p e below Q (T.setTop (mkF m pc' Ls (.long z :: st)))) : Go p e below Q (T.setTop (mkF m pc Ls (.long y :: .long x :: st))) := by
  subst hp
  obtain ⟨locs, Y, -, -, -⟩ := X
  exact Go.back (fun t kt => by subst hz; exact Jvm.Free.XS.lxor Y.here C.1 rfl (C.cd hd) rfl kt) hr
theorem go_lxor (C : Cx p s m meth c Z a0 own bytes maxL ret nm) (X : St Z p l e R s m args below meth c n0 T h k n) {x y : Int64} (pc' : Nat) (hp : pc + 1 = pc') (hd : decode bytes pc = .ok (.lxor, 1)) (hr : Go p e below Q (T.setTop (mkF m pc' Ls (.long (x ^^^ y) :: st)))) : Go p e below Q (T.setTop (mkF m pc Ls (.long y :: .long x :: st))) := by
  subst hp
  obtain ⟨locs, Y, -, -, -⟩ := X
  exact Go.back (fun t kt => Jvm.Free.XS.lxor Y.here C.1 rfl (C.cd hd) rfl kt) hr
theorem go_ldiv (C : Cx p s m meth c Z a0 own bytes maxL ret nm) (X : St Z p l e R s m args below meth c n0 T h k n) {x y : Int64} (pc' : Nat) (hp : pc + 1 = pc') (hd : decode bytes pc = .ok (.ldiv, 1)) (hy : y ≠ 0) (hr : Go p e below Q (T.setTop (mkF m pc' Ls (.long (x / y) :: st)))) : Go p e below Q (T.setTop (mkF m pc Ls (.long y :: .long x :: st))) := by
  subst hp
  obtain ⟨locs, Y, -, -, -⟩ := X
  exact Go.back (fun t kt => Jvm.Free.XS.ldiv Y.here C.1 rfl (C.cd hd) rfl hy kt) hr
theorem go_lneg (C : Cx p s m meth c Z a0 own bytes maxL ret nm) (X : St Z p l e R s m args below meth c n0 T h k n) {x : Int64} (pc' : Nat) (hp : pc + 1 = pc') (hd : decode bytes pc = .ok (.lneg, 1)) (hr : Go p e below Q (T.setTop (mkF m pc' Ls (.long (-x) :: st)))) : Go p e below Q (T.setTop (mkF m pc Ls (.long x :: st))) := by
  subst hp
  obtain ⟨locs, Y, -, -, -⟩ := X
  exact Go.back (fun t kt => Jvm.Free.XS.lneg Y.here C.1 rfl (C.cd hd) rfl kt) hr
theorem go_irem (C : Cx p s m meth c Z a0 own bytes maxL ret nm) (X : St Z p l e R s m args below meth c n0 T h k n) {x y : Int32} (pc' : Nat) (hp : pc + 1 = pc') (hd : decode bytes pc = .ok (.irem, 1)) (hy : y ≠ 0) (hr : Go p e below Q (T.setTop (mkF m pc' Ls (.int (x % y) :: st)))) : Go p e below Q (T.setTop (mkF m pc Ls (.int y :: .int x :: st))) := by
  subst hp
  obtain ⟨locs, Y, -, -, -⟩ := X
  exact Go.back (fun t kt => iremM Y C.1 rfl (C.cd hd) rfl hy kt) hr
theorem go_lrem (C : Cx p s m meth c Z a0 own bytes maxL ret nm) (X : St Z p l e R s m args below meth c n0 T h k n) {x y : Int64} (pc' : Nat) (hp : pc + 1 = pc') (hd : decode bytes pc = .ok (.lrem, 1)) (hy : y ≠ 0) (hr : Go p e below Q (T.setTop (mkF m pc' Ls (.long (x % y) :: st)))) : Go p e below Q (T.setTop (mkF m pc Ls (.long y :: .long x :: st))) := by
  subst hp
  obtain ⟨locs, Y, -, -, -⟩ := X
  exact Go.back (fun t kt => by rw [← lrem_mod] at kt; exact Jvm.Free.XS.lrem Y.here C.1 rfl (C.cd hd) rfl hy kt) hr
theorem go_i2l (C : Cx p s m meth c Z a0 own bytes maxL ret nm) (X : St Z p l e R s m args below meth c n0 T h k n) {x : Int32} (pc' : Nat) (hp : pc + 1 = pc') (hd : decode bytes pc = .ok (.i2l, 1)) (hr : Go p e below Q (T.setTop (mkF m pc' Ls (.long (x.toInt64) :: st)))) : Go p e below Q (T.setTop (mkF m pc Ls (.int x :: st))) := by
  subst hp
  obtain ⟨locs, Y, -, -, -⟩ := X
  exact Go.back (fun t kt => Jvm.Free.XS.i2l Y.here C.1 rfl (C.cd hd) rfl kt) hr
theorem go_l2i (C : Cx p s m meth c Z a0 own bytes maxL ret nm) (X : St Z p l e R s m args below meth c n0 T h k n) {x : Int64} (pc' : Nat) (hp : pc + 1 = pc') (hd : decode bytes pc = .ok (.l2i, 1)) (hr : Go p e below Q (T.setTop (mkF m pc' Ls (.int (x.toInt32) :: st)))) : Go p e below Q (T.setTop (mkF m pc Ls (.long x :: st))) := by
  subst hp
  obtain ⟨locs, Y, -, -, -⟩ := X
  exact Go.back (fun t kt => Jvm.Free.XS.l2i Y.here C.1 rfl (C.cd hd) rfl kt) hr
theorem go_i2b (C : Cx p s m meth c Z a0 own bytes maxL ret nm) (X : St Z p l e R s m args below meth c n0 T h k n) {x : Int32} (pc' : Nat) (hp : pc + 1 = pc') (hd : decode bytes pc = .ok (.i2b, 1)) (hr : Go p e below Q (T.setTop (mkF m pc' Ls (.int (x.toInt8.toInt32) :: st)))) : Go p e below Q (T.setTop (mkF m pc Ls (.int x :: st))) := by
  subst hp
  obtain ⟨locs, Y, -, -, -⟩ := X
  exact Go.back (fun t kt => Jvm.Free.XS.i2b Y.here C.1 rfl (C.cd hd) rfl kt) hr
theorem go_i2s (C : Cx p s m meth c Z a0 own bytes maxL ret nm) (X : St Z p l e R s m args below meth c n0 T h k n) {x : Int32} (pc' : Nat) (hp : pc + 1 = pc') (hd : decode bytes pc = .ok (.i2s, 1)) (hr : Go p e below Q (T.setTop (mkF m pc' Ls (.int (x.toInt16.toInt32) :: st)))) : Go p e below Q (T.setTop (mkF m pc Ls (.int x :: st))) := by
  subst hp
  obtain ⟨locs, Y, -, -, -⟩ := X
  exact Go.back (fun t kt => Jvm.Free.XS.i2s Y.here C.1 rfl (C.cd hd) rfl kt) hr
theorem go_i2c (C : Cx p s m meth c Z a0 own bytes maxL ret nm) (X : St Z p l e R s m args below meth c n0 T h k n) {x : Int32} (pc' : Nat) (hp : pc + 1 = pc') (hd : decode bytes pc = .ok (.i2c, 1)) (hr : Go p e below Q (T.setTop (mkF m pc' Ls (.int (x.toUInt32.toUInt16.toUInt32.toInt32) :: st)))) : Go p e below Q (T.setTop (mkF m pc Ls (.int x :: st))) := by
  subst hp
  obtain ⟨locs, Y, -, -, -⟩ := X
  exact Go.back (fun t kt => Jvm.Free.XS.i2c Y.here C.1 rfl (C.cd hd) rfl kt) hr
theorem go_ishl (C : Cx p s m meth c Z a0 own bytes maxL ret nm) (X : St Z p l e R s m args below meth c n0 T h k n) {x : Int32} {y : Int32} (pc' : Nat) (hp : pc + 1 = pc') (hd : decode bytes pc = .ok (.ishl, 1)) (hr : Go p e below Q (T.setTop (mkF m pc' Ls (.int (x <<< (y &&& 31)) :: st)))) : Go p e below Q (T.setTop (mkF m pc Ls (.int y :: .int x :: st))) := by
  subst hp
  obtain ⟨locs, Y, -, -, -⟩ := X
  exact Go.back (fun t kt => Jvm.Free.XS.ishl Y.here C.1 rfl (C.cd hd) rfl kt) hr
theorem go_ishr (C : Cx p s m meth c Z a0 own bytes maxL ret nm) (X : St Z p l e R s m args below meth c n0 T h k n) {x : Int32} {y : Int32} (pc' : Nat) (hp : pc + 1 = pc') (hd : decode bytes pc = .ok (.ishr, 1)) (hr : Go p e below Q (T.setTop (mkF m pc' Ls (.int (x >>> (y &&& 31)) :: st)))) : Go p e below Q (T.setTop (mkF m pc Ls (.int y :: .int x :: st))) := by
  subst hp
  obtain ⟨locs, Y, -, -, -⟩ := X
  exact Go.back (fun t kt => Jvm.Free.XS.ishr Y.here C.1 rfl (C.cd hd) rfl kt) hr
theorem go_iushr (C : Cx p s m meth c Z a0 own bytes maxL ret nm) (X : St Z p l e R s m args below meth c n0 T h k n) {x : Int32} {y : Int32} (pc' : Nat) (hp : pc + 1 = pc') (hd : decode bytes pc = .ok (.iushr, 1)) (hr : Go p e below Q (T.setTop (mkF m pc' Ls (.int ((x.toUInt32 >>> (y &&& 31).toUInt32).toInt32) :: st)))) : Go p e below Q (T.setTop (mkF m pc Ls (.int y :: .int x :: st))) := by
  subst hp
  obtain ⟨locs, Y, -, -, -⟩ := X
  exact Go.back (fun t kt => Jvm.Free.XS.iushr Y.here C.1 rfl (C.cd hd) rfl kt) hr
theorem go_lshl (C : Cx p s m meth c Z a0 own bytes maxL ret nm) (X : St Z p l e R s m args below meth c n0 T h k n) {x : Int64} {y : Int32} (pc' : Nat) (hp : pc + 1 = pc') (hd : decode bytes pc = .ok (.lshl, 1)) (hr : Go p e below Q (T.setTop (mkF m pc' Ls (.long (x <<< (y &&& 0x3f).toInt64) :: st)))) : Go p e below Q (T.setTop (mkF m pc Ls (.int y :: .long x :: st))) := by
  subst hp
  obtain ⟨locs, Y, -, -, -⟩ := X
  exact Go.back (fun t kt => Jvm.Free.XS.lshl Y.here C.1 rfl (C.cd hd) rfl kt) hr
theorem go_lshr (C : Cx p s m meth c Z a0 own bytes maxL ret nm) (X : St Z p l e R s m args below meth c n0 T h k n) {x : Int64} {y : Int32} (pc' : Nat) (hp : pc + 1 = pc') (hd : decode bytes pc = .ok (.lshr, 1)) (hr : Go p e below Q (T.setTop (mkF m pc' Ls (.long (x >>> (y &&& 0x3f).toInt64) :: st)))) : Go p e below Q (T.setTop (mkF m pc Ls (.int y :: .long x :: st))) := by
  subst hp
  obtain ⟨locs, Y, -, -, -⟩ := X
  exact Go.back (fun t kt => Jvm.Free.XS.lshr Y.here C.1 rfl (C.cd hd) rfl kt) hr
theorem go_lushr (C : Cx p s m meth c Z a0 own bytes maxL ret nm) (X : St Z p l e R s m args below meth c n0 T h k n) {x : Int64} {y : Int32} (pc' : Nat) (hp : pc + 1 = pc') (hd : decode bytes pc = .ok (.lushr, 1)) (hr : Go p e below Q (T.setTop (mkF m pc' Ls (.long ((x.toUInt64 >>> (y &&& 0x3f).toInt64.toUInt64).toInt64) :: st)))) : Go p e below Q (T.setTop (mkF m pc Ls (.int y :: .long x :: st))) := by
  subst hp
  obtain ⟨locs, Y, -, -, -⟩ := X
  exact Go.back (fun t kt => Jvm.Free.XS.lushr Y.here C.1 rfl (C.cd hd) rfl kt) hr
theorem go_lcmp (C : Cx p s m meth c Z a0 own bytes maxL ret nm) (X : St Z p l e R s m args below meth c n0 T h k n) {x y : Int64} (pc' : Nat) (hp : pc + 1 = pc') (hd : decode bytes pc = .ok (.lcmp, 1)) (hr : Go p e below Q (T.setTop (mkF m pc' Ls (.int (lcmpW x y) :: st)))) : Go p e below Q (T.setTop (mkF m pc Ls (.long y :: .long x :: st))) := by
  subst hp
  obtain ⟨locs, Y, -, -, -⟩ := X
  exact Go.back (fun t kt => Jvm.Free.XS.lcmp Y.here C.1 rfl (C.cd hd) rfl kt) hr
theorem go_iinc (C : Cx p s m meth c Z a0 own bytes maxL ret nm) (X : St Z p l e R s m args below meth c n0 T h k n) {i : Nat} {cst : Int} {x z : Int32} (pc' : Nat) (hp : pc + 3 = pc') (hd : decode bytes pc = .ok (.iinc i cst, 3)) (hl : Ls[i]? = some (.val (.int x))) (hz : Int32.ofInt cst = z) (Ls' : Array Slot) (hl' : storeLocals Ls i (.int (x + z)) = some Ls') (hr : Go p e below Q (T.setTop (mkF m pc' Ls' st))) : Go p e below Q (T.setTop (mkF m pc Ls st)) := by
  subst hp
  obtain ⟨locs, Y, -, -, -⟩ := X
  exact Go.back (fun t kt => by subst hz; exact Jvm.Free.XS.iinc Y.here C.1 rfl (C.cd hd) hl hl' kt) hr
theorem go_dup (C : Cx p s m meth c Z a0 own bytes maxL ret nm) (X : St Z p l e R s m args below meth c n0 T h k n) {v : Value} (pc' : Nat) (hp : pc + 1 = pc') (hd : decode bytes pc = .ok (.dup, 1)) (hc : v.category = 1) (hr : Go p e below Q (T.setTop (mkF m pc' Ls (v :: v :: st)))) : Go p e below Q (T.setTop (mkF m pc Ls (v :: st))) := by
  subst hp
  obtain ⟨locs, Y, -, -, -⟩ := X
  exact Go.back (fun t kt => Jvm.Free.XS.dup Y.here C.1 rfl (C.cd hd) rfl hc kt) hr
theorem go_pop (C : Cx p s m meth c Z a0 own bytes maxL ret nm) (X : St Z p l e R s m args below meth c n0 T h k n) {v : Value} (pc' : Nat) (hp : pc + 1 = pc') (hd : decode bytes pc = .ok (.pop, 1)) (hc : v.category = 1) (hr : Go p e below Q (T.setTop (mkF m pc' Ls st))) : Go p e below Q (T.setTop (mkF m pc Ls (v :: st))) := by
  subst hp
  obtain ⟨locs, Y, -, -, -⟩ := X
  exact Go.back (fun t kt => Jvm.Free.XS.pop Y.here C.1 rfl (C.cd hd) rfl hc kt) hr
theorem go_dupX1 (C : Cx p s m meth c Z a0 own bytes maxL ret nm) (X : St Z p l e R s m args below meth c n0 T h k n) {v w : Value} (pc' : Nat) (hp : pc + 1 = pc') (hd : decode bytes pc = .ok (.dup_x1, 1)) (hc : v.category = 1) (hc2 : w.category = 1) (hr : Go p e below Q (T.setTop (mkF m pc' Ls (v :: w :: v :: st)))) : Go p e below Q (T.setTop (mkF m pc Ls (v :: w :: st))) := by
  subst hp
  obtain ⟨locs, Y, -, -, -⟩ := X
  exact Go.back (fun t kt => Jvm.Free.XS.dupX1 Y.here C.1 rfl (C.cd hd) rfl hc hc2 kt) hr
theorem go_dup2 (C : Cx p s m meth c Z a0 own bytes maxL ret nm) (X : St Z p l e R s m args below meth c n0 T h k n) {v w : Value} (pc' : Nat) (hp : pc + 1 = pc') (hd : decode bytes pc = .ok (.dup2, 1)) (hc : v.category = 1) (hc2 : w.category = 1) (hr : Go p e below Q (T.setTop (mkF m pc' Ls (v :: w :: v :: w :: st)))) : Go p e below Q (T.setTop (mkF m pc Ls (v :: w :: st))) := by
  subst hp
  obtain ⟨locs, Y, -, -, -⟩ := X
  refine Go.back (fun t kt => ?_) hr
  show Steps p.tables e below (T.setTop { method := m, pc := pc, locals := Ls, stack := v :: w :: st, locked := none }) _
  jvm_step Y.here [Y.here.top, C.1, C.cd hd, hc, hc2]
  exact kt
theorem go_goto (C : Cx p s m meth c Z a0 own bytes maxL ret nm) (X : St Z p l e R s m args below meth c n0 T h k n) {o : Int} (hd : decode bytes pc = .ok (.goto o, 3)) (ho : 0 ≤ (pc : Int) + o) (hp : ((pc : Int) + o).toNat = pc') (hr : Go p e below Q (T.setTop (mkF m pc' Ls st))) : Go p e below Q (T.setTop (mkF m pc Ls st)) := by
  obtain ⟨locs, Y, -, -, -⟩ := X
  exact Go.back (fun t kt => Jvm.Free.XS.goto Y.here C.1 rfl (pc0 := pc) rfl (C.cd hd) ho hp kt) hr
theorem go_icmp (C : Cx p s m meth c Z a0 own bytes maxL ret nm) (X : St Z p l e R s m args below meth c n0 T h k n) {cd : ClassFile.Cond} {o : Int} {x y : Int32} (hd : decode bytes pc = .ok (.if_icmp cd o, 3)) (hp : pc + 3 = pc') (ho : 0 ≤ (pc : Int) + o) (hp2 : ((pc : Int) + o).toNat = pc2) (h1 : if_icmp.holds cd x y = true → Go p e below Q (T.setTop (mkF m pc2 Ls st))) (h2 : if_icmp.holds cd x y = false → Go p e below Q (T.setTop (mkF m pc' Ls st))) : Go p e below Q (T.setTop (mkF m pc Ls (.int y :: .int x :: st))) := by
  subst hp
  obtain ⟨locs, Y, -, -, -⟩ := X
  cases hc : if_icmp.holds cd x y with
  | true => exact Go.back (fun t kt => Jvm.Free.XS.icmpYes Y.here C.1 rfl (pc0 := pc) rfl (C.cd hd) rfl hc ho hp2 kt) (h1 hc)
  | false => exact Go.back (fun t kt => Jvm.Free.XS.icmpNo Y.here C.1 rfl (C.cd hd) rfl hc kt) (h2 hc)
theorem go_if (C : Cx p s m meth c Z a0 own bytes maxL ret nm) (X : St Z p l e R s m args below meth c n0 T h k n) {cd : ClassFile.Cond} {o : Int} {x : Int32} (hd : decode bytes pc = .ok (.ifCond cd o, 3)) (hp : pc + 3 = pc') (ho : 0 ≤ (pc : Int) + o) (hp2 : ((pc : Int) + o).toNat = pc2) (h1 : if_icmp.holds cd x 0 = true → Go p e below Q (T.setTop (mkF m pc2 Ls st))) (h2 : if_icmp.holds cd x 0 = false → Go p e below Q (T.setTop (mkF m pc' Ls st))) : Go p e below Q (T.setTop (mkF m pc Ls (.int x :: st))) := by
  subst hp
  obtain ⟨locs, Y, -, -, -⟩ := X
  cases hc : if_icmp.holds cd x 0 with
  | true => exact Go.back (fun t kt => Jvm.Free.XS.ifYes Y.here C.1 rfl (pc0 := pc) rfl (C.cd hd) rfl ((if0 _ _).trans hc) ho hp2 kt) (h1 hc)
  | false => exact Go.back (fun t kt => Jvm.Free.XS.ifNo Y.here C.1 rfl (C.cd hd) rfl ((if0 _ _).trans hc) kt) (h2 hc)
theorem i32lt {x y : Int32} : x < y ↔ x.toInt < y.toInt := Int32.lt_iff_toInt_lt
theorem ic_lt {x y : Int32} : (if_icmp.holds .lt x y = true ↔ x.toInt < y.toInt) ∧ (if_icmp.holds .lt x y = false ↔ y.toInt ≤ x.toInt) := by
  by_cases q : x < y
  · have := i32lt.mp q; simp [(tlt q).1]; omega
  · have := mt i32lt.mpr q; simp [(flt q).1]; omega
theorem ic_ge {x y : Int32} : (if_icmp.holds .ge x y = true ↔ y.toInt ≤ x.toInt) ∧ (if_icmp.holds .ge x y = false ↔ x.toInt < y.toInt) := by
  by_cases q : x < y
  · have := i32lt.mp q; simp [(tlt q).2.1]; omega
  · have := mt i32lt.mpr q; simp [(flt q).2.1]; omega
theorem ic_gt {x y : Int32} : (if_icmp.holds .gt x y = true ↔ y.toInt < x.toInt) ∧ (if_icmp.holds .gt x y = false ↔ x.toInt ≤ y.toInt) := by
  by_cases q : y < x
  · have := i32lt.mp q; simp [(tlt q).2.2.1]; omega
  · have := mt i32lt.mpr q; simp [(flt q).2.2.1]; omega
theorem ic_le {x y : Int32} : (if_icmp.holds .le x y = true ↔ x.toInt ≤ y.toInt) ∧ (if_icmp.holds .le x y = false ↔ y.toInt < x.toInt) := by
  by_cases q : y < x
  · have := i32lt.mp q; simp [(tlt q).2.2.2]; omega
  · have := mt i32lt.mpr q; simp [(flt q).2.2.2]; omega
theorem ic_eq {x y : Int32} : (if_icmp.holds .eq x y = true ↔ x = y) ∧ (if_icmp.holds .eq x y = false ↔ ¬ x = y) := by
  by_cases q : x = y
  · subst q; exact ⟨⟨fun _ => rfl, fun _ => (teq rfl).1⟩, ⟨fun h => (by rw [(teq rfl).1] at h; cases h), fun h => absurd rfl h⟩⟩
  · exact ⟨⟨fun h => (by rw [(feq q).1] at h; cases h), fun h => absurd h q⟩, ⟨fun _ => q, fun _ => (feq q).1⟩⟩
theorem ic_ne {x y : Int32} : (if_icmp.holds .ne x y = true ↔ ¬ x = y) ∧ (if_icmp.holds .ne x y = false ↔ x = y) := by
  by_cases q : x = y
  · subst q; exact ⟨⟨fun h => (by rw [(teq rfl).2] at h; cases h), fun h => absurd rfl h⟩, ⟨fun _ => rfl, fun _ => (teq rfl).2⟩⟩
  · exact ⟨⟨fun _ => q, fun _ => (feq q).2⟩, ⟨fun h => (by rw [(feq q).2] at h; cases h), fun h => absurd h q⟩⟩
theorem lc_i (x y : Int64) : ((lcmpW x y).toInt < 0 ↔ x.toInt < y.toInt) ∧ (0 < (lcmpW x y).toInt ↔ y.toInt < x.toInt) ∧ (lcmpW x y = 0 ↔ x = y) := by
  obtain ⟨a, b, c⟩ := c_lcmp x y
  refine ⟨?_, ?_, lw_eq x y⟩ <;> rcases Int.lt_trichotomy x.toInt y.toInt with q | q | q <;> (first | have := a q | have := b q | have := c q) <;> omega
theorem go_icmp_lt (C : Cx p s m meth c Z a0 own bytes maxL ret nm) (X : St Z p l e R s m args below meth c n0 T h k n) {o : Int} {x y : Int32} (hd : decode bytes pc = .ok (.if_icmp .lt o, 3)) (hp : pc + 3 = pc') (ho : 0 ≤ (pc : Int) + o) (hp2 : ((pc : Int) + o).toNat = pc2) (h1 : x.toInt < y.toInt → Go p e below Q (T.setTop (mkF m pc2 Ls st))) (h2 : y.toInt ≤ x.toInt → Go p e below Q (T.setTop (mkF m pc' Ls st))) : Go p e below Q (T.setTop (mkF m pc Ls (.int y :: .int x :: st))) := go_icmp C X hd hp ho hp2 (fun q => h1 (ic_lt.1.mp q)) (fun q => h2 (ic_lt.2.mp q))
theorem go_if_lt (C : Cx p s m meth c Z a0 own bytes maxL ret nm) (X : St Z p l e R s m args below meth c n0 T h k n) {o : Int} {x : Int32} (hd : decode bytes pc = .ok (.ifCond .lt o, 3)) (hp : pc + 3 = pc') (ho : 0 ≤ (pc : Int) + o) (hp2 : ((pc : Int) + o).toNat = pc2) (h1 : x.toInt < 0 → Go p e below Q (T.setTop (mkF m pc2 Ls st))) (h2 : 0 ≤ x.toInt → Go p e below Q (T.setTop (mkF m pc' Ls st))) : Go p e below Q (T.setTop (mkF m pc Ls (.int x :: st))) := go_if C X hd hp ho hp2 (fun q => h1 (ic_lt.1.mp q)) (fun q => h2 (ic_lt.2.mp q))
theorem go_lif_lt (C : Cx p s m meth c Z a0 own bytes maxL ret nm) (X : St Z p l e R s m args below meth c n0 T h k n) {o : Int} {x y : Int64} {pc1 : Nat} (hp1 : pc + 1 = pc1) (hd1 : decode bytes pc = .ok (.lcmp, 1)) (hd : decode bytes pc1 = .ok (.ifCond .lt o, 3)) (hp : pc1 + 3 = pc') (ho : 0 ≤ (pc1 : Int) + o) (hp2 : ((pc1 : Int) + o).toNat = pc2) (h1 : x.toInt < y.toInt → Go p e below Q (T.setTop (mkF m pc2 Ls st))) (h2 : y.toInt ≤ x.toInt → Go p e below Q (T.setTop (mkF m pc' Ls st))) : Go p e below Q (T.setTop (mkF m pc Ls (.long y :: .long x :: st))) := go_lcmp C X _ hp1 hd1 (go_if_lt C X hd hp ho hp2 (fun q => h1 ((lc_i x y).1.mp q)) (fun q => h2 (by have := mt (lc_i x y).1.mpr (by omega); omega)))
theorem go_icmp_ge (C : Cx p s m meth c Z a0 own bytes maxL ret nm) (X : St Z p l e R s m args below meth c n0 T h k n) {o : Int} {x y : Int32} (hd : decode bytes pc = .ok (.if_icmp .ge o, 3)) (hp : pc + 3 = pc') (ho : 0 ≤ (pc : Int) + o) (hp2 : ((pc : Int) + o).toNat = pc2) (h1 : y.toInt ≤ x.toInt → Go p e below Q (T.setTop (mkF m pc2 Ls st))) (h2 : x.toInt < y.toInt → Go p e below Q (T.setTop (mkF m pc' Ls st))) : Go p e below Q (T.setTop (mkF m pc Ls (.int y :: .int x :: st))) := go_icmp C X hd hp ho hp2 (fun q => h1 (ic_ge.1.mp q)) (fun q => h2 (ic_ge.2.mp q))
theorem go_if_ge (C : Cx p s m meth c Z a0 own bytes maxL ret nm) (X : St Z p l e R s m args below meth c n0 T h k n) {o : Int} {x : Int32} (hd : decode bytes pc = .ok (.ifCond .ge o, 3)) (hp : pc + 3 = pc') (ho : 0 ≤ (pc : Int) + o) (hp2 : ((pc : Int) + o).toNat = pc2) (h1 : 0 ≤ x.toInt → Go p e below Q (T.setTop (mkF m pc2 Ls st))) (h2 : x.toInt < 0 → Go p e below Q (T.setTop (mkF m pc' Ls st))) : Go p e below Q (T.setTop (mkF m pc Ls (.int x :: st))) := go_if C X hd hp ho hp2 (fun q => h1 (ic_ge.1.mp q)) (fun q => h2 (ic_ge.2.mp q))
theorem go_lif_ge (C : Cx p s m meth c Z a0 own bytes maxL ret nm) (X : St Z p l e R s m args below meth c n0 T h k n) {o : Int} {x y : Int64} {pc1 : Nat} (hp1 : pc + 1 = pc1) (hd1 : decode bytes pc = .ok (.lcmp, 1)) (hd : decode bytes pc1 = .ok (.ifCond .ge o, 3)) (hp : pc1 + 3 = pc') (ho : 0 ≤ (pc1 : Int) + o) (hp2 : ((pc1 : Int) + o).toNat = pc2) (h1 : y.toInt ≤ x.toInt → Go p e below Q (T.setTop (mkF m pc2 Ls st))) (h2 : x.toInt < y.toInt → Go p e below Q (T.setTop (mkF m pc' Ls st))) : Go p e below Q (T.setTop (mkF m pc Ls (.long y :: .long x :: st))) := go_lcmp C X _ hp1 hd1 (go_if_ge C X hd hp ho hp2 (fun q => h1 (by have := mt (lc_i x y).1.mpr (by omega); omega)) (fun q => h2 ((lc_i x y).1.mp q)))
theorem go_icmp_gt (C : Cx p s m meth c Z a0 own bytes maxL ret nm) (X : St Z p l e R s m args below meth c n0 T h k n) {o : Int} {x y : Int32} (hd : decode bytes pc = .ok (.if_icmp .gt o, 3)) (hp : pc + 3 = pc') (ho : 0 ≤ (pc : Int) + o) (hp2 : ((pc : Int) + o).toNat = pc2) (h1 : y.toInt < x.toInt → Go p e below Q (T.setTop (mkF m pc2 Ls st))) (h2 : x.toInt ≤ y.toInt → Go p e below Q (T.setTop (mkF m pc' Ls st))) : Go p e below Q (T.setTop (mkF m pc Ls (.int y :: .int x :: st))) := go_icmp C X hd hp ho hp2 (fun q => h1 (ic_gt.1.mp q)) (fun q => h2 (ic_gt.2.mp q))
theorem go_if_gt (C : Cx p s m meth c Z a0 own bytes maxL ret nm) (X : St Z p l e R s m args below meth c n0 T h k n) {o : Int} {x : Int32} (hd : decode bytes pc = .ok (.ifCond .gt o, 3)) (hp : pc + 3 = pc') (ho : 0 ≤ (pc : Int) + o) (hp2 : ((pc : Int) + o).toNat = pc2) (h1 : 0 < x.toInt → Go p e below Q (T.setTop (mkF m pc2 Ls st))) (h2 : x.toInt ≤ 0 → Go p e below Q (T.setTop (mkF m pc' Ls st))) : Go p e below Q (T.setTop (mkF m pc Ls (.int x :: st))) := go_if C X hd hp ho hp2 (fun q => h1 (ic_gt.1.mp q)) (fun q => h2 (ic_gt.2.mp q))
theorem go_lif_gt (C : Cx p s m meth c Z a0 own bytes maxL ret nm) (X : St Z p l e R s m args below meth c n0 T h k n) {o : Int} {x y : Int64} {pc1 : Nat} (hp1 : pc + 1 = pc1) (hd1 : decode bytes pc = .ok (.lcmp, 1)) (hd : decode bytes pc1 = .ok (.ifCond .gt o, 3)) (hp : pc1 + 3 = pc') (ho : 0 ≤ (pc1 : Int) + o) (hp2 : ((pc1 : Int) + o).toNat = pc2) (h1 : y.toInt < x.toInt → Go p e below Q (T.setTop (mkF m pc2 Ls st))) (h2 : x.toInt ≤ y.toInt → Go p e below Q (T.setTop (mkF m pc' Ls st))) : Go p e below Q (T.setTop (mkF m pc Ls (.long y :: .long x :: st))) := go_lcmp C X _ hp1 hd1 (go_if_gt C X hd hp ho hp2 (fun q => h1 ((lc_i x y).2.1.mp q)) (fun q => h2 (by have := mt (lc_i x y).2.1.mpr (by omega); omega)))
theorem go_icmp_le (C : Cx p s m meth c Z a0 own bytes maxL ret nm) (X : St Z p l e R s m args below meth c n0 T h k n) {o : Int} {x y : Int32} (hd : decode bytes pc = .ok (.if_icmp .le o, 3)) (hp : pc + 3 = pc') (ho : 0 ≤ (pc : Int) + o) (hp2 : ((pc : Int) + o).toNat = pc2) (h1 : x.toInt ≤ y.toInt → Go p e below Q (T.setTop (mkF m pc2 Ls st))) (h2 : y.toInt < x.toInt → Go p e below Q (T.setTop (mkF m pc' Ls st))) : Go p e below Q (T.setTop (mkF m pc Ls (.int y :: .int x :: st))) := go_icmp C X hd hp ho hp2 (fun q => h1 (ic_le.1.mp q)) (fun q => h2 (ic_le.2.mp q))
theorem go_if_le (C : Cx p s m meth c Z a0 own bytes maxL ret nm) (X : St Z p l e R s m args below meth c n0 T h k n) {o : Int} {x : Int32} (hd : decode bytes pc = .ok (.ifCond .le o, 3)) (hp : pc + 3 = pc') (ho : 0 ≤ (pc : Int) + o) (hp2 : ((pc : Int) + o).toNat = pc2) (h1 : x.toInt ≤ 0 → Go p e below Q (T.setTop (mkF m pc2 Ls st))) (h2 : 0 < x.toInt → Go p e below Q (T.setTop (mkF m pc' Ls st))) : Go p e below Q (T.setTop (mkF m pc Ls (.int x :: st))) := go_if C X hd hp ho hp2 (fun q => h1 (ic_le.1.mp q)) (fun q => h2 (ic_le.2.mp q))
theorem go_lif_le (C : Cx p s m meth c Z a0 own bytes maxL ret nm) (X : St Z p l e R s m args below meth c n0 T h k n) {o : Int} {x y : Int64} {pc1 : Nat} (hp1 : pc + 1 = pc1) (hd1 : decode bytes pc = .ok (.lcmp, 1)) (hd : decode bytes pc1 = .ok (.ifCond .le o, 3)) (hp : pc1 + 3 = pc') (ho : 0 ≤ (pc1 : Int) + o) (hp2 : ((pc1 : Int) + o).toNat = pc2) (h1 : x.toInt ≤ y.toInt → Go p e below Q (T.setTop (mkF m pc2 Ls st))) (h2 : y.toInt < x.toInt → Go p e below Q (T.setTop (mkF m pc' Ls st))) : Go p e below Q (T.setTop (mkF m pc Ls (.long y :: .long x :: st))) := go_lcmp C X _ hp1 hd1 (go_if_le C X hd hp ho hp2 (fun q => h1 (by have := mt (lc_i x y).2.1.mpr (by omega); omega)) (fun q => h2 ((lc_i x y).2.1.mp q)))
theorem go_icmp_eq (C : Cx p s m meth c Z a0 own bytes maxL ret nm) (X : St Z p l e R s m args below meth c n0 T h k n) {o : Int} {x y : Int32} (hd : decode bytes pc = .ok (.if_icmp .eq o, 3)) (hp : pc + 3 = pc') (ho : 0 ≤ (pc : Int) + o) (hp2 : ((pc : Int) + o).toNat = pc2) (h1 : x = y → Go p e below Q (T.setTop (mkF m pc2 Ls st))) (h2 : ¬ x = y → Go p e below Q (T.setTop (mkF m pc' Ls st))) : Go p e below Q (T.setTop (mkF m pc Ls (.int y :: .int x :: st))) := go_icmp C X hd hp ho hp2 (fun q => h1 (ic_eq.1.mp q)) (fun q => h2 (ic_eq.2.mp q))
theorem go_if_eq (C : Cx p s m meth c Z a0 own bytes maxL ret nm) (X : St Z p l e R s m args below meth c n0 T h k n) {o : Int} {x : Int32} (hd : decode bytes pc = .ok (.ifCond .eq o, 3)) (hp : pc + 3 = pc') (ho : 0 ≤ (pc : Int) + o) (hp2 : ((pc : Int) + o).toNat = pc2) (h1 : x = 0 → Go p e below Q (T.setTop (mkF m pc2 Ls st))) (h2 : ¬ x = 0 → Go p e below Q (T.setTop (mkF m pc' Ls st))) : Go p e below Q (T.setTop (mkF m pc Ls (.int x :: st))) := go_if C X hd hp ho hp2 (fun q => h1 (ic_eq.1.mp q)) (fun q => h2 (ic_eq.2.mp q))
theorem go_lif_eq (C : Cx p s m meth c Z a0 own bytes maxL ret nm) (X : St Z p l e R s m args below meth c n0 T h k n) {o : Int} {x y : Int64} {pc1 : Nat} (hp1 : pc + 1 = pc1) (hd1 : decode bytes pc = .ok (.lcmp, 1)) (hd : decode bytes pc1 = .ok (.ifCond .eq o, 3)) (hp : pc1 + 3 = pc') (ho : 0 ≤ (pc1 : Int) + o) (hp2 : ((pc1 : Int) + o).toNat = pc2) (h1 : x = y → Go p e below Q (T.setTop (mkF m pc2 Ls st))) (h2 : ¬ x = y → Go p e below Q (T.setTop (mkF m pc' Ls st))) : Go p e below Q (T.setTop (mkF m pc Ls (.long y :: .long x :: st))) := go_lcmp C X _ hp1 hd1 (go_if_eq C X hd hp ho hp2 (fun q => h1 ((lc_i x y).2.2.mp q)) (fun q => h2 (mt (lc_i x y).2.2.mpr q)))
theorem go_icmp_ne (C : Cx p s m meth c Z a0 own bytes maxL ret nm) (X : St Z p l e R s m args below meth c n0 T h k n) {o : Int} {x y : Int32} (hd : decode bytes pc = .ok (.if_icmp .ne o, 3)) (hp : pc + 3 = pc') (ho : 0 ≤ (pc : Int) + o) (hp2 : ((pc : Int) + o).toNat = pc2) (h1 : ¬ x = y → Go p e below Q (T.setTop (mkF m pc2 Ls st))) (h2 : x = y → Go p e below Q (T.setTop (mkF m pc' Ls st))) : Go p e below Q (T.setTop (mkF m pc Ls (.int y :: .int x :: st))) := go_icmp C X hd hp ho hp2 (fun q => h1 (ic_ne.1.mp q)) (fun q => h2 (ic_ne.2.mp q))
theorem go_if_ne (C : Cx p s m meth c Z a0 own bytes maxL ret nm) (X : St Z p l e R s m args below meth c n0 T h k n) {o : Int} {x : Int32} (hd : decode bytes pc = .ok (.ifCond .ne o, 3)) (hp : pc + 3 = pc') (ho : 0 ≤ (pc : Int) + o) (hp2 : ((pc : Int) + o).toNat = pc2) (h1 : ¬ x = 0 → Go p e below Q (T.setTop (mkF m pc2 Ls st))) (h2 : x = 0 → Go p e below Q (T.setTop (mkF m pc' Ls st))) : Go p e below Q (T.setTop (mkF m pc Ls (.int x :: st))) := go_if C X hd hp ho hp2 (fun q => h1 (ic_ne.1.mp q)) (fun q => h2 (ic_ne.2.mp q))
theorem go_lif_ne (C : Cx p s m meth c Z a0 own bytes maxL ret nm) (X : St Z p l e R s m args below meth c n0 T h k n) {o : Int} {x y : Int64} {pc1 : Nat} (hp1 : pc + 1 = pc1) (hd1 : decode bytes pc = .ok (.lcmp, 1)) (hd : decode bytes pc1 = .ok (.ifCond .ne o, 3)) (hp : pc1 + 3 = pc') (ho : 0 ≤ (pc1 : Int) + o) (hp2 : ((pc1 : Int) + o).toNat = pc2) (h1 : ¬ x = y → Go p e below Q (T.setTop (mkF m pc2 Ls st))) (h2 : x = y → Go p e below Q (T.setTop (mkF m pc' Ls st))) : Go p e below Q (T.setTop (mkF m pc Ls (.long y :: .long x :: st))) := go_lcmp C X _ hp1 hd1 (go_if_ne C X hd hp ho hp2 (fun q => h1 (mt (lc_i x y).2.2.mpr q)) (fun q => h2 ((lc_i x y).2.2.mp q)))
theorem go_dload (C : Cx p s m meth c Z a0 own bytes maxL ret nm) (X : St Z p l e R s m args below meth c n0 T h k n) {i : Nat} {v : UInt64} (pc' : Nat) (hp : pc + 2 = pc') (hd : decode bytes pc = .ok (.dload i, 2)) (hl : Ls[i]? = some (.val (.double v))) (hr : Go p e below Q (T.setTop (mkF m pc' Ls (.double v :: st)))) : Go p e below Q (T.setTop (mkF m pc Ls st)) := by
  subst hp
  obtain ⟨locs, Y, -, -, -⟩ := X
  exact Go.back (fun t kt => Jvm.Free.XS.dload Y.here C.1 rfl (C.cd hd) hl kt) hr
theorem go_dloadN (C : Cx p s m meth c Z a0 own bytes maxL ret nm) (X : St Z p l e R s m args below meth c n0 T h k n) {i : Fin 4} {v : UInt64} (pc' : Nat) (hp : pc + 1 = pc') (hd : decode bytes pc = .ok (.dload_n i, 1)) (hl : Ls[i.val]? = some (.val (.double v))) (hr : Go p e below Q (T.setTop (mkF m pc' Ls (.double v :: st)))) : Go p e below Q (T.setTop (mkF m pc Ls st)) := by
  subst hp
  obtain ⟨locs, Y, -, -, -⟩ := X
  exact Go.back (fun t kt => Jvm.Free.XS.dloadN Y.here C.1 rfl (C.cd hd) hl kt) hr
theorem go_dstore (C : Cx p s m meth c Z a0 own bytes maxL ret nm) (X : St Z p l e R s m args below meth c n0 T h k n) {i : Nat} {v : UInt64} (pc' : Nat) (hp : pc + 2 = pc') (hd : decode bytes pc = .ok (.dstore i, 2)) (Ls' : Array Slot) (hl : storeLocals Ls i (.double v) = some Ls') (hr : Go p e below Q (T.setTop (mkF m pc' Ls' st))) : Go p e below Q (T.setTop (mkF m pc Ls (.double v :: st))) := by
  subst hp
  obtain ⟨locs, Y, -, -, -⟩ := X
  exact Go.back (fun t kt => Jvm.Free.XS.dstore Y.here C.1 rfl (C.cd hd) rfl hl kt) hr
theorem go_dstoreN (C : Cx p s m meth c Z a0 own bytes maxL ret nm) (X : St Z p l e R s m args below meth c n0 T h k n) {i : Fin 4} {v : UInt64} (pc' : Nat) (hp : pc + 1 = pc') (hd : decode bytes pc = .ok (.dstore_n i, 1)) (Ls' : Array Slot) (hl : storeLocals Ls i.val (.double v) = some Ls') (hr : Go p e below Q (T.setTop (mkF m pc' Ls' st))) : Go p e below Q (T.setTop (mkF m pc Ls (.double v :: st))) := by
  subst hp
  obtain ⟨locs, Y, -, -, -⟩ := X
  exact Go.back (fun t kt => Jvm.Free.XS.dstoreN Y.here C.1 rfl (C.cd hd) rfl hl kt) hr
theorem go_dconst0 (C : Cx p s m meth c Z a0 own bytes maxL ret nm) (X : St Z p l e R s m args below meth c n0 T h k n)  (pc' : Nat) (hp : pc + 1 = pc') (hd : decode bytes pc = .ok (.dconst 0, 1)) (hr : Go p e below Q (T.setTop (mkF m pc' Ls (.double (FP.l2d 0) :: st)))) : Go p e below Q (T.setTop (mkF m pc Ls st)) := by
  subst hp
  obtain ⟨locs, Y, -, -, -⟩ := X
  exact Go.back (fun t kt => Jvm.Free.XS.dconst0 Y.here C.1 rfl (C.cd hd) (by decide +kernel) kt) hr
theorem go_i2d (C : Cx p s m meth c Z a0 own bytes maxL ret nm) (X : St Z p l e R s m args below meth c n0 T h k n) {x : Int32} (pc' : Nat) (hp : pc + 1 = pc') (hd : decode bytes pc = .ok (.i2d, 1)) (hr : Go p e below Q (T.setTop (mkF m pc' Ls (.double (FP.l2d x.toInt64) :: st)))) : Go p e below Q (T.setTop (mkF m pc Ls (.int x :: st))) := by
  subst hp
  obtain ⟨locs, Y, -, -, -⟩ := X
  exact Go.back (fun t kt => Jvm.Free.XS.i2dS Y.here C.1 rfl (C.cd hd) rfl (i2d_w x) kt) hr
theorem go_l2d (C : Cx p s m meth c Z a0 own bytes maxL ret nm) (X : St Z p l e R s m args below meth c n0 T h k n) {x : Int64} (pc' : Nat) (hp : pc + 1 = pc') (hd : decode bytes pc = .ok (.l2d, 1)) (hr : Go p e below Q (T.setTop (mkF m pc' Ls (.double (FP.l2d x) :: st)))) : Go p e below Q (T.setTop (mkF m pc Ls (.long x :: st))) := by
  subst hp
  obtain ⟨locs, Y, -, -, -⟩ := X
  exact Go.back (fun t kt => Jvm.Free.XS.l2dS Y.here C.1 rfl (C.cd hd) rfl rfl kt) hr
theorem go_dadd (C : Cx p s m meth c Z a0 own bytes maxL ret nm) (X : St Z p l e R s m args below meth c n0 T h k n) {x y : Int64} (pc' : Nat) (hp : pc + 1 = pc') (hd : decode bytes pc = .ok (.dadd, 1)) (ha : B53 x) (hb : B53 y) (hr : Go p e below Q (T.setTop (mkF m pc' Ls (.double (FP.l2d (x + y)) :: st)))) : Go p e below Q (T.setTop (mkF m pc Ls (.double (FP.l2d y) :: .double (FP.l2d x) :: st))) := by
  subst hp
  obtain ⟨locs, Y, -, -, -⟩ := X
  exact Go.back (fun t kt => Jvm.Free.XS.daddS Y.here C.1 rfl (C.cd hd) rfl (nn_w (dadd_w ha hb)) (dadd_w ha hb) kt) hr
theorem go_dcmp (C : Cx p s m meth c Z a0 own bytes maxL ret nm) (X : St Z p l e R s m args below meth c n0 T h k n) {o : CmpOp} {x y : Int64} (pc' : Nat) (hp : pc + 1 = pc') (hd : decode bytes pc = .ok (.dcmp o, 1)) (ha : B53 x) (hb : B53 y) (hr : Go p e below Q (T.setTop (mkF m pc' Ls (.int (lcmpW x y) :: st)))) : Go p e below Q (T.setTop (mkF m pc Ls (.double (FP.l2d y) :: .double (FP.l2d x) :: st))) := by
  subst hp
  obtain ⟨locs, Y, -, -, -⟩ := X
  exact Go.back (fun t kt => Jvm.Free.XS.dcmpS Y.here C.1 rfl (C.cd hd) rfl (dcmpV_w ha hb o) kt) hr
theorem go_ldcInt (C : Cx p s m meth c Z a0 own bytes maxL ret nm) (X : St Z p l e R s m args below meth c n0 T h k n) {idx : Nat} {v : Int32} (w : (Jvm.Cond.constant own idx v).before a0 Z = true) (hp : pc + 2 = pc') (hd : decode bytes pc = .ok (.ldc idx, 2)) (hr : Go p e below Q (T.setTop (mkF m pc' Ls (.int v :: st)))) : Go p e below Q (T.setTop (mkF m pc Ls st)) := by
  subst hp
  obtain ⟨locs, Y, -, -, -⟩ := X
  exact Go.back (fun t kt => Y.ldcInt C.1 C.ow (mvT C.hZ w) (g := mkF m pc Ls st) rfl (C.cd hd) t kt) hr
theorem go_ldcwInt (C : Cx p s m meth c Z a0 own bytes maxL ret nm) (X : St Z p l e R s m args below meth c n0 T h k n) {idx : Nat} {v : Int32} (w : (Jvm.Cond.constant own idx v).before a0 Z = true) (hp : pc + 3 = pc') (hd : decode bytes pc = .ok (.ldc_w idx, 3)) (hr : Go p e below Q (T.setTop (mkF m pc' Ls (.int v :: st)))) : Go p e below Q (T.setTop (mkF m pc Ls st)) := by
  subst hp
  obtain ⟨locs, Y, -, -, -⟩ := X
  exact Go.back (fun t kt => Y.ldcwInt C.1 C.ow (mvT C.hZ w) (g := mkF m pc Ls st) rfl (C.cd hd) t kt) hr
theorem go_ldc2Long (C : Cx p s m meth c Z a0 own bytes maxL ret nm) (X : St Z p l e R s m args below meth c n0 T h k n) {idx : Nat} {v : Int64} (w : (Jvm.Cond.constantLong own idx v).before a0 Z = true) (hp : pc + 3 = pc') (hd : decode bytes pc = .ok (.ldc2_w idx, 3)) (hr : Go p e below Q (T.setTop (mkF m pc' Ls (.long v :: st)))) : Go p e below Q (T.setTop (mkF m pc Ls st)) := by
  subst hp
  obtain ⟨locs, Y, -, -, -⟩ := X
  exact Go.back (fun t kt => Y.ldc2Long C.1 C.ow (mvT C.hZ w) (g := mkF m pc Ls st) rfl (C.cd hd) t kt) hr
variable {kc kn : Nat} {Qy : Option Value → Heap → Prop}
theorem go_leave (C : Cx p s m meth c Z a0 own bytes maxL ret nm) (X : St Z p l e R s m args below meth c n0 T h k n) {v : Option Value} {f : JFrame} (hv : meth.sig.returnType = none → v = none) (hQ : Qy v h) (hk : k ≤ kc) (hn : n ≤ kn)
    (go : ∀ {locs : List Loc} (Y : Stand p l e R s m args below meth c T locs k n) {fs : List Frame}, (∀ (f : JFrame) (acts : List Action), f.method = m → f.locked = none → f.entered = [] → (doReturn e (T.setTop f) acts v).1 = T.setFrames fs) → Steps p.tables e below (T.setTop f) (T.setFrames fs)) :
    Go p e below (FinQ s kc kn n0 Qy) (T.setTop f) := by
  obtain ⟨locs, Y, N, -, rfl⟩ := X
  obtain ⟨fs, hr, hrun, hended, hW, hsame⟩ := Y.leave hv C.lk
  exact ⟨_, _, go Y hr, hrun, hended, _, _, rfl, ⟨N, hQ⟩, ⟨_, rfl⟩, hW, hsame.mono hk hn⟩
theorem go_ret0 (C : Cx p s m meth c Z a0 own bytes maxL none nm) (X : St Z p l e R s m args below meth c n0 T h k n) (hd : decode bytes pc = .ok (.return_, 1)) (hQ : Qy none h) (hk : k ≤ kc) (hn : n ≤ kn) : Go p e below (FinQ s kc kn n0 Qy) (T.setTop (mkF m pc Ls [])) :=
  go_leave C X (fun _ => rfl) hQ hk hn fun Y _ hr => Y.returnOut C.1 C.rt (C.cd hd) hr
theorem go_retI (C : Cx p s m meth c Z a0 own bytes maxL (some .int) nm) (X : St Z p l e R s m args below meth c n0 T h k n) {z : Int32} (hd : decode bytes pc = .ok (.ireturn, 1)) (hQ : Qy (some (.int z)) h) (hk : k ≤ kc) (hn : n ≤ kn) : Go p e below (FinQ s kc kn n0 Qy) (T.setTop (mkF m pc Ls (.int z :: st))) :=
  go_leave C X (fun q => by rw [C.rt] at q; cases q) hQ hk hn fun Y _ hr => retOut Y C.1 C.rt rfl (Or.inl ⟨rfl, Or.inl rfl, _, rfl⟩) (C.cd hd) hr
theorem go_retJ (C : Cx p s m meth c Z a0 own bytes maxL (some .long) nm) (X : St Z p l e R s m args below meth c n0 T h k n) {z : Int64} (hd : decode bytes pc = .ok (.lreturn, 1)) (hQ : Qy (some (.long z)) h) (hk : k ≤ kc) (hn : n ≤ kn) : Go p e below (FinQ s kc kn n0 Qy) (T.setTop (mkF m pc Ls (.long z :: st))) :=
  go_leave C X (fun q => by rw [C.rt] at q; cases q) hQ hk hn fun Y _ hr => retOut Y C.1 C.rt rfl (Or.inr (Or.inl ⟨rfl, rfl, _, rfl⟩)) (C.cd hd) hr
theorem go_retD (C : Cx p s m meth c Z a0 own bytes maxL (some .double) nm) (X : St Z p l e R s m args below meth c n0 T h k n) {z : UInt64} (hd : decode bytes pc = .ok (.dreturn, 1)) (hQ : Qy (some (.double z)) h) (hk : k ≤ kc) (hn : n ≤ kn) : Go p e below (FinQ s kc kn n0 Qy) (T.setTop (mkF m pc Ls (.double z :: st))) :=
  go_leave C X (fun q => by rw [C.rt] at q; cases q) hQ hk hn fun Y _ hr => retOut Y C.1 C.rt rfl (Or.inr (Or.inr (Or.inl ⟨rfl, rfl, _, rfl⟩))) (C.cd hd) hr
theorem go_retA {ty : FieldType} (C : Cx p s m meth c Z a0 own bytes maxL (some ty) nm) (X : St Z p l e R s m args below meth c n0 T h k n) {v : Value} (hd : decode bytes pc = .ok (.areturn, 1)) (ht : ty.isReference = true) (hv : v.isRef = true) (hQ : Qy (some v) h) (hk : k ≤ kc) (hn : n ≤ kn) : Go p e below (FinQ s kc kn n0 Qy) (T.setTop (mkF m pc Ls (v :: st))) :=
  go_leave C X (fun q => by rw [C.rt] at q; cases q) hQ hk hn fun Y _ hr => retOut Y C.1 C.rt (by cases ty <;> first | (cases ht; done) | rfl) (Or.inr (Or.inr (Or.inr (Or.inr ⟨rfl, ht, hv⟩)))) (C.cd hd) hr
theorem go_retN {ty : FieldType} (C : Cx p s m meth c Z a0 own bytes maxL (some ty) nm) (X : St Z p l e R s m args below meth c n0 T h k n) {z z' : Int32} (ht : ty = .boolean ∨ ty = .byte ∨ ty = .char ∨ ty = .short) (hz : nar ty z = z') (hd : decode bytes pc = .ok (.ireturn, 1)) (hQ : Qy (some (.int z')) h) (hk : k ≤ kc) (hn : n ≤ kn) : Go p e below (FinQ s kc kn n0 Qy) (T.setTop (mkF m pc Ls (.int z :: st))) := by
  subst hz
  exact go_leave C X (fun q => by rw [C.rt] at q; cases q) hQ hk hn fun Y _ hr => retN Y C.1 C.rt ht (C.cd hd) hr
/-! calls by the callee's contract -/
variable {idx : Nat} {y : MethodName} {yb : ByteArray} {yl : Nat} {yr : Option FieldType} {rm : Room} {as' : Array Value} {QY : Option Value → Heap → Prop} {argsL rest : List Value}
theorem con_back (C : Cx p s m meth c Z a0 own bytes maxL ret nm) (hM : Con l Z y yb yl yr rm as' h n0 QY) {W : Nat} (wc : (Jvm.Cond.code y yb yl yr).before a0 Z = true) (wz : (Jvm.Cond.initialized y.cls).before a0 Z = true) (hf : rm.frames + 1 ≤ R.frames) (hl : W + (yl + 11) + rm.locals ≤ R.locals) :
    Back l R p e below s args y 3 W (fun A a => a = as' ∧ A.U.heap = h ∧ A.cells + rm.cells ≤ R.cells ∧ A.slots + rm.slots ≤ R.slots) (fun A _ v B => ∃ L, (Fr n0 L ∧ QY v B.U.heap) ∧ B.locs = A.locs ++ L ∧ B.cells = A.cells + rm.cells ∧ B.slots = A.slots + rm.slots) :=
  backOf (Q := fun v h' L => Fr n0 L ∧ QY v h') (hM []) C.hZ wc wz hf hl
theorem go_callS (C : Cx p s m meth c Z a0 own bytes maxL ret nm) (X : St Z p l e R s m args below meth c n0 T h k n) (wl : (Jvm.Cond.methodLink own idx y).before a0 Z = true) (ws : (Jvm.Cond.static y).before a0 Z = true) (wi : (Jvm.Cond.initialized y.cls).before a0 Z = true) (wc : (Jvm.Cond.code y yb yl yr).before a0 Z = true)
    (hM : Con l Z y yb yl yr rm as' h n0 QY) (hlen : ∀ sig, parseMethodDescriptor y.desc = some sig → argsL.length = sig.parameters.length) (ha : argsL.toArray = as') (hy : y.cls ≠ "java/lang/invoke/MethodHandle" ∧ y.cls ≠ "java/lang/invoke/VarHandle")
    (hf : rm.frames + 1 ≤ R.frames) (hl : (rest.map fun v => v.category).sum + (yl + 11) + rm.locals ≤ R.locals) (hc : k + rm.cells ≤ R.cells) (hn : n + rm.slots ≤ R.slots) (hst : st = argsL.reverse ++ rest) (hsz : Ls.size = maxL) (hp : pc + 3 = pc') (hd : decode bytes pc = .ok (.invokestatic idx, 3))
    (hr : ∀ T' h' v, QY v h' → St Z p l e R s m args below meth c n0 T' h' (k + rm.cells) (n + rm.slots) → Go p e below Q (T'.setTop (mkF m pc' Ls (v.toList ++ rest)))) : Go p e below Q (T.setTop (mkF m pc Ls st)) := by
  subst hp; subst ha; subst hst
  obtain ⟨locs, Y, N, zs, eT⟩ := X
  obtain ⟨v, _, ⟨T', L', k', n'⟩, -, X', ⟨Lc, ⟨N', hQ⟩, l1, y1, z1⟩, stp⟩ := Jvm.LawKit.callS Y C.1 C.ow (mvT C.hZ wl) (mvT C.hZ ws) (mvT C.hZ wi) (mvT C.hZ wc) hy (con_back C hM (W := (rest.map fun v => v.category).sum) wc wi hf hl) (g := mkF m pc Ls (argsL.reverse ++ rest)) rfl (hsz.trans C.ml.symm) (argsL := argsL) (rest := rest) hlen rfl (by show 2 * 0 + _ ≤ _; omega) (C.cd hd) (fun _ _ => ⟨rfl, eT, hc, hn⟩)
  dsimp only [Pt.U, Pt.locs, Pt.cells, Pt.slots] at X' l1 y1 z1 stp hQ
  subst l1 y1 z1
  exact Go.back stp (hr T' T'.heap v hQ ⟨_, X', N.app N', zs, rfl⟩)
theorem go_special (C : Cx p s m meth c Z a0 own bytes maxL ret nm) (X : St Z p l e R s m args below meth c n0 T h k n) {a : Addr} (wl : (Jvm.Cond.methodLink own idx y).before a0 Z = true) (ws : (Jvm.Cond.instanceMethod y).before a0 Z = true) (wi : (Jvm.Cond.initialized y.cls).before a0 Z = true) (wc : (Jvm.Cond.code y yb yl none).before a0 Z = true) (hy1 : y.name = "<init>")
    (hM : Con l Z y yb yl none rm as' h n0 QY) (hlen : ∀ sig, parseMethodDescriptor y.desc = some sig → argsL.length = sig.parameters.length) (ha : (.ref a :: argsL).toArray = as') (hy : y.cls ≠ "java/lang/invoke/MethodHandle" ∧ y.cls ≠ "java/lang/invoke/VarHandle")
    (hf : rm.frames + 1 ≤ R.frames) (hl : (rest.map fun v => v.category).sum + (yl + 11) + rm.locals ≤ R.locals) (hc : k + rm.cells ≤ R.cells) (hn : n + rm.slots ≤ R.slots) (hst : st = argsL.reverse ++ .ref a :: rest) (hsz : Ls.size = maxL) (hp : pc + 3 = pc') (hd : decode bytes pc = .ok (.invokespecial idx, 3))
    (hr : ∀ T' h' v, QY v h' → St Z p l e R s m args below meth c n0 T' h' (k + rm.cells) (n + rm.slots) → Go p e below Q (T'.setTop (mkF m pc' Ls (v.toList ++ rest)))) : Go p e below Q (T.setTop (mkF m pc Ls st)) := by
  subst hp; subst ha; subst hst
  obtain ⟨locs, Y, N, zs, eT⟩ := X
  obtain ⟨v, _, ⟨T', L', k', n'⟩, -, X', ⟨Lc, ⟨N', hQ⟩, l1, y1, z1⟩, stp⟩ := Y.specialBack C.1 hy1 C.ow (mvT C.hZ wl) (mvT C.hZ ws) (mvT C.hZ wc) hy (con_back C hM (W := (rest.map fun v => v.category).sum) wc wi hf hl) (g := mkF m pc Ls (argsL.reverse ++ .ref a :: rest)) rfl (hsz.trans C.ml.symm) (Steps.refl _) (a := a) (argsL := argsL) (rest := rest) hlen rfl (by show 2 * 0 + _ ≤ _; omega) (C.cd hd) (fun _ _ => ⟨rfl, eT, hc, hn⟩)
  dsimp only [Pt.U, Pt.locs, Pt.cells, Pt.slots] at X' l1 y1 z1 stp hQ
  subst l1 y1 z1
  exact Go.back (fun t kt => stp.trans kt) (hr T' T'.heap v hQ ⟨_, X', N.app N', zs, rfl⟩)
theorem go_virtual (C : Cx p s m meth c Z a0 own bytes maxL ret nm) (X : St Z p l e R s m args below meth c n0 T h k n) {a : Addr} {cn : String} {y0 : MethodName} (E : Exa Z h a cn) (wl : (Jvm.Cond.methodLink own idx y0).before a0 Z = true) (wd : (Jvm.Cond.declares y0).before a0 Z = true) (hnf : NotFace s y0) (wsel : (Jvm.Cond.selects cn y0 y).before a0 Z = true) (ws : (Jvm.Cond.instanceMethod y).before a0 Z = true) (wi : (Jvm.Cond.initialized y.cls).before a0 Z = true) (wc : (Jvm.Cond.code y yb yl yr).before a0 Z = true)
    (hM : Con l Z y yb yl yr rm as' h n0 QY) (hlen : ∀ sig, parseMethodDescriptor y0.desc = some sig → argsL.length = sig.parameters.length) (ha : (.ref a :: argsL).toArray = as') (hy : y0.cls ≠ "java/lang/invoke/MethodHandle" ∧ y0.cls ≠ "java/lang/invoke/VarHandle")
    (hf : rm.frames + 1 ≤ R.frames) (hl : (rest.map fun v => v.category).sum + (yl + 11) + rm.locals ≤ R.locals) (hc : k + rm.cells ≤ R.cells) (hn : n + rm.slots ≤ R.slots) (hst : st = argsL.reverse ++ .ref a :: rest) (hsz : Ls.size = maxL) (hp : pc + 3 = pc') (hd : decode bytes pc = .ok (.invokevirtual idx, 3))
    (hr : ∀ T' h' v, QY v h' → St Z p l e R s m args below meth c n0 T' h' (k + rm.cells) (n + rm.slots) → Go p e below Q (T'.setTop (mkF m pc' Ls (v.toList ++ rest)))) : Go p e below Q (T.setTop (mkF m pc Ls st)) := by
  subst hp; subst ha; subst hst
  obtain ⟨locs, Y, N, zs, eT⟩ := X
  obtain ⟨cq, kq, qa, qb, qc⟩ := isOf C.hZ eT E
  obtain ⟨v, _, ⟨T', L', k', n'⟩, -, X', ⟨Lc, ⟨N', hQ⟩, l1, y1, z1⟩, stp⟩ := Y.virtualBack C.1 C.ow (mvT C.hZ wl) (mvT C.hZ wd) hnf (mvT C.hZ wsel) (mvT C.hZ ws) hy (con_back C hM (W := (rest.map fun v => v.category).sum) wc wi hf hl) qa qc (g := mkF m pc Ls (argsL.reverse ++ .ref a :: rest)) rfl (hsz.trans C.ml.symm) (Steps.refl _) (argsL := argsL) (rest := rest) hlen rfl (by show 2 * 0 + _ ≤ _; omega) (C.cd hd) (fun _ _ => ⟨rfl, eT, hc, hn⟩)
  dsimp only [Pt.U, Pt.locs, Pt.cells, Pt.slots] at X' l1 y1 z1 stp hQ
  subst l1 y1 z1
  exact Go.back (fun t kt => stp.trans kt) (hr T' T'.heap v hQ ⟨_, X', N.app N', zs, rfl⟩)
theorem go_private (C : Cx p s m meth c Z a0 own bytes maxL ret nm) (X : St Z p l e R s m args below meth c n0 T h k n) {a : Addr} {cn : String} (E : Exa Z h a cn) (wl : (Jvm.Cond.methodLink own idx y).before a0 Z = true) (ws : (Jvm.Cond.instanceMethod y).before a0 Z = true) (wsel : (Jvm.Cond.selects y.cls y y).before a0 Z = true) (wp : (Jvm.Cond.privateMethod y).before a0 Z = true) (wi : (Jvm.Cond.initialized y.cls).before a0 Z = true) (wc : (Jvm.Cond.code y yb yl yr).before a0 Z = true)
    (hM : Con l Z y yb yl yr rm as' h n0 QY) (hlen : ∀ sig, parseMethodDescriptor y.desc = some sig → argsL.length = sig.parameters.length) (ha : (.ref a :: argsL).toArray = as') (hy : y.cls ≠ "java/lang/invoke/MethodHandle" ∧ y.cls ≠ "java/lang/invoke/VarHandle")
    (hf : rm.frames + 1 ≤ R.frames) (hl : (rest.map fun v => v.category).sum + (yl + 11) + rm.locals ≤ R.locals) (hc : k + rm.cells ≤ R.cells) (hn : n + rm.slots ≤ R.slots) (hst : st = argsL.reverse ++ .ref a :: rest) (hsz : Ls.size = maxL) (hp : pc + 3 = pc') (hd : decode bytes pc = .ok (.invokevirtual idx, 3))
    (hr : ∀ T' h' v, QY v h' → St Z p l e R s m args below meth c n0 T' h' (k + rm.cells) (n + rm.slots) → Go p e below Q (T'.setTop (mkF m pc' Ls (v.toList ++ rest)))) : Go p e below Q (T.setTop (mkF m pc Ls st)) := by
  subst hp; subst ha; subst hst
  obtain ⟨locs, Y, N, zs, eT⟩ := X
  obtain ⟨cq, q1, q2⟩ := E.cell
  obtain ⟨v, _, ⟨T', L', k', n'⟩, -, X', ⟨Lc, ⟨N', hQ⟩, l1, y1, z1⟩, stp⟩ := Y.privateBack C.1 C.ow (mvT C.hZ wl) (mvT C.hZ ws) (mvT C.hZ wsel) (Cond.privateMethod_at (mvP C.hZ wp (args := #[]))) (mvT C.hZ wc) hy (con_back C hM (W := (rest.map fun v => v.category).sum) wc wi hf hl) (g := mkF m pc Ls (argsL.reverse ++ .ref a :: rest)) rfl (hsz.trans C.ml.symm) (Steps.refl _) (a := a) (by rw [eT]; exact q1) q2 (argsL := argsL) (rest := rest) hlen rfl (by show 2 * 0 + _ ≤ _; omega) (C.cd hd) (fun _ _ => ⟨rfl, eT, hc, hn⟩)
  dsimp only [Pt.U, Pt.locs, Pt.cells, Pt.slots] at X' l1 y1 z1 stp hQ
  subst l1 y1 z1
  exact Go.back (fun t kt => stp.trans kt) (hr T' T'.heap v hQ ⟨_, X', N.app N', zs, rfl⟩)
theorem go_initO (C : Cx p s m meth c Z a0 own bytes maxL ret nm) (X : St Z p l e R s m args below meth c n0 T h k n) {a : Addr} (w1 : (Jvm.Cond.methodLink own idx Lib.objectInit).before a0 Z = true) (w2 : (Jvm.Cond.instanceMethod Lib.objectInit).before a0 Z = true) (w3 : (Jvm.Cond.code Lib.objectInit ⟨#[0xb1]⟩ 1 none).before a0 Z = true)
    (hf : 1 ≤ R.frames) (hl : (st.map fun v => v.category).sum + 12 ≤ R.locals) (hsz : Ls.size = maxL) (hp : pc + 3 = pc') (hd : decode bytes pc = .ok (.invokespecial idx, 3))
    (hr : ∀ T', St Z p l e R s m args below meth c n0 T' h k n → Go p e below Q (T'.setTop (mkF m pc' Ls st))) : Go p e below Q (T.setTop (mkF m pc Ls (.ref a :: st))) := by
  subst hp
  obtain ⟨locs, Y, N, zs, eT⟩ := X
  obtain ⟨T', X', e', stp⟩ := initO Y C.1 C.hZ C.ow w1 w2 w3 eT (g := mkF m pc Ls (.ref a :: st)) rfl (hsz.trans C.ml.symm) rfl (C.cd hd) hf (W := (st.map fun v => v.category).sum) (by show 2 * 0 + _ ≤ _; omega) hl
  exact Go.back stp (hr T' ⟨_, X', N, zs, e'⟩)
/-! fields, new objects, arrays -/
theorem go_getF (C : Cx p s m meth c Z a0 own bytes maxL ret nm) (X : St Z p l e R s m args below meth c n0 T h k n) {R0 O fn d : String} {a : Addr} {v : Value} (w : (Jvm.Cond.fieldLink own idx R0 fn d).before a0 Z = true) (via : Via Z R0 O fn d) (F : Fld Z h a O fn d v) (hp : pc + 3 = pc') (hd : decode bytes pc = .ok (.getfield idx, 3))
    (hr : ∀ T', St Z p l e R s m args below meth c n0 T' h k n → Go p e below Q (T'.setTop (mkF m pc' Ls (v :: st)))) : Go p e below Q (T.setTop (mkF m pc Ls (.ref a :: st))) := by
  subst hp
  obtain ⟨locs, Y, N, zs, eT⟩ := X
  obtain ⟨T', X', e', stp⟩ := getF Y C.1 C.hZ C.ow (host := "") (Or.inl w) via eT F (g := mkF m pc Ls (.ref a :: st)) rfl rfl (C.cd hd)
  exact Go.back stp (hr T' ⟨_, X', N, zs, e'⟩)
theorem go_getFN (C : Cx p s m meth c Z a0 own bytes maxL ret nm) (X : St Z p l e R s m args below meth c n0 T h k n) {R0 O fn d host : String} {a : Addr} {v : Value} (w : (Jvm.Cond.fieldLinkNest own idx R0 fn d host).before a0 Z = true) (via : Via Z R0 O fn d) (F : Fld Z h a O fn d v) (hp : pc + 3 = pc') (hd : decode bytes pc = .ok (.getfield idx, 3))
    (hr : ∀ T', St Z p l e R s m args below meth c n0 T' h k n → Go p e below Q (T'.setTop (mkF m pc' Ls (v :: st)))) : Go p e below Q (T.setTop (mkF m pc Ls (.ref a :: st))) := by
  subst hp
  obtain ⟨locs, Y, N, zs, eT⟩ := X
  obtain ⟨T', X', e', stp⟩ := getF Y C.1 C.hZ C.ow (host := host) (Or.inr w) via eT F (g := mkF m pc Ls (.ref a :: st)) rfl rfl (C.cd hd)
  exact Go.back stp (hr T' ⟨_, X', N, zs, e'⟩)
theorem go_getS (C : Cx p s m meth c Z a0 own bytes maxL ret nm) (X : St Z p l e R s m args below meth c n0 T h k n) {O fn d : String} {v : Value} (w : (Jvm.Cond.fieldLink own idx O fn d).before a0 Z = true) (F : Sta Z h O fn d v) (hp : pc + 3 = pc') (hd : decode bytes pc = .ok (.getstatic idx, 3))
    (hr : ∀ T', St Z p l e R s m args below meth c n0 T' h k n → Go p e below Q (T'.setTop (mkF m pc' Ls (v :: st)))) : Go p e below Q (T.setTop (mkF m pc Ls st)) := by
  subst hp
  obtain ⟨locs, Y, N, zs, eT⟩ := X
  obtain ⟨T', X', e', stp⟩ := getS2 Y C.1 C.hZ C.ow (host := "") (Or.inl w) Via.refl eT F (g := mkF m pc Ls st) rfl (C.cd hd)
  exact Go.back stp (hr T' ⟨_, X', N, zs, e'⟩)
theorem go_putF (C : Cx p s m meth c Z a0 own bytes maxL ret nm) (X : St Z p l e R s m args below meth c n0 T h k n) {R0 O fn d cn : String} {kk : Nat} {ty : FieldType} {a : Addr} {v old : Value} (w : (Jvm.Cond.fieldLink own idx R0 fn d).before a0 Z = true) (via : Via Z R0 O fn d) (F : Fld Z h a O fn d old) (E : Exa Z h a cn) (L : (Jvm.Cond.lays cn O fn d).before a0 Z = true ∨ ((Jvm.Cond.laysFinal cn O fn d).before a0 Z = true ∧ own = O ∧ meth.name = "<init>")) (wi : (Jvm.Cond.instantiable cn kk).before a0 Z = true) (ga : n0 ≤ a)
    (hty : parseFieldDescriptor d = some ty) (hn : narrow ty v = v) (hf : fits ty v = true) (hp : pc + 3 = pc') (hd : decode bytes pc = .ok (.putfield idx, 3))
    (hr : ∀ T' h', Wr h h' a (Jvm.RoadKit.slotOf Z O fn d) v → St Z p l e R s m args below meth c n0 T' h' k n → Go p e below Q (T'.setTop (mkF m pc' Ls st))) : Go p e below Q (T.setTop (mkF m pc Ls (v :: .ref a :: st))) := by
  subst hp
  obtain ⟨locs, Y, N, zs, eT⟩ := X
  obtain ⟨T', h', X', e', W, stp⟩ := putF Y C.1 C.hZ C.ow (host := "") (Or.inl w) via eT F E L wi hty hn hf (g := mkF m pc Ls (v :: .ref a :: st)) rfl rfl (C.cd hd)
  exact Go.back stp (hr T' h' W ⟨_, X', Fr.snoc X' N ga, zs, e'⟩)
theorem go_putFN (C : Cx p s m meth c Z a0 own bytes maxL ret nm) (X : St Z p l e R s m args below meth c n0 T h k n) {R0 O fn d cn : String} {kk : Nat} {ty : FieldType} {a : Addr} {v v' old : Value} (w : (Jvm.Cond.fieldLink own idx R0 fn d).before a0 Z = true) (via : Via Z R0 O fn d) (F : Fld Z h a O fn d old) (E : Exa Z h a cn) (L : (Jvm.Cond.lays cn O fn d).before a0 Z = true ∨ ((Jvm.Cond.laysFinal cn O fn d).before a0 Z = true ∧ own = O ∧ meth.name = "<init>")) (wi : (Jvm.Cond.instantiable cn kk).before a0 Z = true) (ga : n0 ≤ a)
    (hty : parseFieldDescriptor d = some ty) (hn : narrow ty v = v') (hf : fits ty v' = true) (hp : pc + 3 = pc') (hd : decode bytes pc = .ok (.putfield idx, 3))
    (hr : ∀ T' h', Wr h h' a (Jvm.RoadKit.slotOf Z O fn d) v' → St Z p l e R s m args below meth c n0 T' h' k n → Go p e below Q (T'.setTop (mkF m pc' Ls st))) : Go p e below Q (T.setTop (mkF m pc Ls (v :: .ref a :: st))) := by
  subst hp
  obtain ⟨locs, Y, N, zs, eT⟩ := X
  obtain ⟨T', h', X', e', W, stp⟩ := putFN Y C.1 C.hZ C.ow w via eT F E L wi hty hn hf (g := mkF m pc Ls (v :: .ref a :: st)) rfl rfl (C.cd hd)
  exact Go.back stp (hr T' h' W ⟨_, X', Fr.snoc X' N ga, zs, e'⟩)
theorem go_new (C : Cx p s m meth c Z a0 own bytes maxL ret nm) (X : St Z p l e R s m args below meth c n0 T h k n) {cn : String} {kk : Nat} (w : (Jvm.Cond.classLink own idx cn).before a0 Z = true) (wi : (Jvm.Cond.instantiable cn kk).before a0 Z = true) (wz : (Jvm.Cond.initialized cn).before a0 Z = true) (hc : k + 1 ≤ R.cells) (hl : n + kk ≤ R.slots) (hp : pc + 3 = pc') (hd : decode bytes pc = .ok (.new idx, 3))
    (hr : ∀ T' h' a, a = h.size → n0 ≤ a → Ext h h' → Exa Z h' a cn → (∀ {O fn d : String} {ty : FieldType}, Laid Z a0 cn O fn d → parseFieldDescriptor d = some ty → Fld Z h' a O fn d (defaultValue ty)) → St Z p l e R s m args below meth c n0 T' h' (k + 1) (n + kk) → Go p e below Q (T'.setTop (mkF m pc' Ls (.ref a :: st)))) : Go p e below Q (T.setTop (mkF m pc Ls st)) := by
  subst hp
  have hsz := X.sz
  obtain ⟨locs, Y, N, zs, eT⟩ := X
  obtain ⟨T', h', X', e', E, A, D, -, stp⟩ := newO Y C.1 C.hZ C.ow w wi wz eT (g := mkF m pc Ls st) rfl (C.cd hd) hc hl
  exact Go.back stp (hr T' h' _ rfl hsz E A D ⟨_, X', N, zs, e'⟩)
/-- an array whose components are vs -/
def La (Z : State) (h : Heap) (a : Addr) (ty : FieldType) (vs : List Value) : Prop := ∃ c : Cell, Arr Z h a c ty ∧ c.slots = vs.toArray ∧ vs.length < 2 ^ 31 ∧ ∀ v ∈ vs, fits ty v = true
theorem La.lt {a : Addr} {ty : FieldType} {vs : List Value} (F : La Z h a ty vs) : a < h.size := by obtain ⟨c, A, -⟩ := F; exact A.lt
theorem La.len {a : Addr} {ty : FieldType} {vs : List Value} (F : La Z h a ty vs) : vs.length < 2 ^ 31 := by obtain ⟨c, A, -, q, -⟩ := F; exact q
theorem La.ext {h' : Heap} {a : Addr} {ty : FieldType} {vs : List Value} (F : La Z h a ty vs) (E : Ext h h') : La Z h' a ty vs := by obtain ⟨c, A, r⟩ := F; exact ⟨c, A.ext E, r⟩
theorem La.other {h' : Heap} {a b : Addr} {sl : Nat} {v : Value} {ty : FieldType} {vs : List Value} (F : La Z h b ty vs) (W : Wr h h' a sl v) (q : b ≠ a) : La Z h' b ty vs := by obtain ⟨c, A, r⟩ := F; exact ⟨c, A.other W q, r⟩
theorem La.keep {h' : Heap} {a : Addr} {ws : List Addr} {ty : FieldType} {vs : List Value} (F : La Z h a ty vs) (K : Keep h h' ws) (q : a ∉ ws) : La Z h' a ty vs := by obtain ⟨c, A, r⟩ := F; exact ⟨c, ⟨K.2.1 a c A.1 q, A.2⟩, r⟩
theorem La.set {h' : Heap} {a : Addr} {j : Nat} {v : Value} {ty : FieldType} {vs : List Value} (F : La Z h a ty vs) (W : Wr h h' a j v) (hv : fits ty v = true) : La Z h' a ty (vs.set j v) := by
  obtain ⟨c, A, e1, e2, e3⟩ := F
  refine ⟨_, A.same W, ?_, by simpa using e2, fun w hw => ?_⟩
  · simp [Cell.setSlot, e1]
  · rcases List.mem_or_eq_of_mem_set hw with q | q
    · exact e3 w q
    · subst q; exact hv
theorem clamp_eq {j : Int32} (q : 0 ≤ j.toInt) : (j.toNatClampNeg : Int) = j.toInt := by show ((j.toInt.toNat : Nat) : Int) = _; omega
theorem neg_not {j : Int32} (q : 0 ≤ j.toInt) : ¬ j < 0 := by rw [Int32.lt_iff_toInt_lt]; have : (0 : Int32).toInt = 0 := rfl; omega
theorem La.inb {c : Cell} {vs : List Value} {j : Int32} {v : Value} (e : c.slots = vs.toArray) (q : 0 ≤ j.toInt) (hv : vs[j.toNatClampNeg]? = some v) : ¬ (j < 0 ∨ c.slots.size ≤ j.toNatClampNeg) ∧ c.slots[j.toNatClampNeg]? = some v := by
  obtain ⟨hl, -⟩ := List.getElem?_eq_some_iff.mp hv
  refine ⟨fun r => r.elim (neg_not q) fun r => ?_, by rw [e]; simpa using hv⟩
  rw [e] at r; simp at r; omega
theorem go_alen (C : Cx p s m meth c Z a0 own bytes maxL ret nm) (X : St Z p l e R s m args below meth c n0 T h k n) {a : Addr} {ty : FieldType} {vs : List Value} {z : Int32} (A : La Z h a ty vs) (hz : vs.length.toInt32 = z) (hp : pc + 1 = pc') (hd : decode bytes pc = .ok (.arraylength, 1)) (hr : Go p e below Q (T.setTop (mkF m pc' Ls (.int z :: st)))) : Go p e below Q (T.setTop (mkF m pc Ls (.ref a :: st))) := by
  subst hp
  obtain ⟨locs, Y, N, zs, eT⟩ := X
  obtain ⟨cl, B, e1, e2, e3⟩ := A
  have ez : cl.slots.size.toInt32 = z := by rw [e1]; simpa using hz
  subst ez
  exact Go.back (fun t kt => Y.arraylength C.1 (by rw [eT]; exact B.1) (State.isArrayOf_alike C.hZ.alike B.2.1) (g := mkF m pc Ls (.ref a :: st)) rfl rfl (C.cd hd) t kt) hr

theorem go_iaload (C : Cx p s m meth c Z a0 own bytes maxL ret nm) (X : St Z p l e R s m args below meth c n0 T h k n) {a : Addr} {vs : List Value} {j : Int32} {v : Value} (A : La Z h a .int vs) (q : 0 ≤ j.toInt) (hv : vs[j.toNatClampNeg]? = some v) (hp : pc + 1 = pc') (hd : decode bytes pc = .ok (.iaload, 1)) (hr : Go p e below Q (T.setTop (mkF m pc' Ls (v :: st)))) : Go p e below Q (T.setTop (mkF m pc Ls (.int j :: .ref a :: st))) := by
  subst hp
  obtain ⟨locs, Y, N, zs, eT⟩ := X
  obtain ⟨cl, B, e1, e2, e3⟩ := A
  obtain ⟨i1, i2⟩ := La.inb e1 q hv
  exact Go.back (fun t kt => Y.iaload C.1 (by rw [eT]; exact B.1) (State.isArrayOf_alike C.hZ.alike B.2.1) B.2.2 i1 i2 (g := mkF m pc Ls (.int j :: .ref a :: st)) rfl rfl (C.cd hd) t kt) hr
theorem go_laload (C : Cx p s m meth c Z a0 own bytes maxL ret nm) (X : St Z p l e R s m args below meth c n0 T h k n) {a : Addr} {vs : List Value} {j : Int32} {v : Value} (A : La Z h a .long vs) (q : 0 ≤ j.toInt) (hv : vs[j.toNatClampNeg]? = some v) (hp : pc + 1 = pc') (hd : decode bytes pc = .ok (.laload, 1)) (hr : Go p e below Q (T.setTop (mkF m pc' Ls (v :: st)))) : Go p e below Q (T.setTop (mkF m pc Ls (.int j :: .ref a :: st))) := by
  subst hp
  obtain ⟨locs, Y, N, zs, eT⟩ := X
  obtain ⟨cl, B, e1, e2, e3⟩ := A
  obtain ⟨i1, i2⟩ := La.inb e1 q hv
  exact Go.back (fun t kt => Y.laload C.1 (by rw [eT]; exact B.1) (State.isArrayOf_alike C.hZ.alike B.2.1) B.2.2 i1 i2 (g := mkF m pc Ls (.int j :: .ref a :: st)) rfl rfl (C.cd hd) t kt) hr
theorem go_caload (C : Cx p s m meth c Z a0 own bytes maxL ret nm) (X : St Z p l e R s m args below meth c n0 T h k n) {a : Addr} {vs : List Value} {j : Int32} {v : Value} (A : La Z h a .char vs) (q : 0 ≤ j.toInt) (hv : vs[j.toNatClampNeg]? = some v) (hp : pc + 1 = pc') (hd : decode bytes pc = .ok (.caload, 1)) (hr : Go p e below Q (T.setTop (mkF m pc' Ls (v :: st)))) : Go p e below Q (T.setTop (mkF m pc Ls (.int j :: .ref a :: st))) := by
  subst hp
  obtain ⟨locs, Y, N, zs, eT⟩ := X
  obtain ⟨cl, B, e1, e2, e3⟩ := A
  obtain ⟨i1, i2⟩ := La.inb e1 q hv
  exact Go.back (fun t kt => Y.caload C.1 (by rw [eT]; exact B.1) (State.isArrayOf_alike C.hZ.alike B.2.1) B.2.2 i1 i2 (g := mkF m pc Ls (.int j :: .ref a :: st)) rfl rfl (C.cd hd) t kt) hr
theorem go_saload (C : Cx p s m meth c Z a0 own bytes maxL ret nm) (X : St Z p l e R s m args below meth c n0 T h k n) {a : Addr} {vs : List Value} {j : Int32} {v : Value} (A : La Z h a .short vs) (q : 0 ≤ j.toInt) (hv : vs[j.toNatClampNeg]? = some v) (hp : pc + 1 = pc') (hd : decode bytes pc = .ok (.saload, 1)) (hr : Go p e below Q (T.setTop (mkF m pc' Ls (v :: st)))) : Go p e below Q (T.setTop (mkF m pc Ls (.int j :: .ref a :: st))) := by
  subst hp
  obtain ⟨locs, Y, N, zs, eT⟩ := X
  obtain ⟨cl, B, e1, e2, e3⟩ := A
  obtain ⟨i1, i2⟩ := La.inb e1 q hv
  exact Go.back (fun t kt => Y.saload C.1 (by rw [eT]; exact B.1) (State.isArrayOf_alike C.hZ.alike B.2.1) B.2.2 i1 i2 (g := mkF m pc Ls (.int j :: .ref a :: st)) rfl rfl (C.cd hd) t kt) hr
theorem go_daload (C : Cx p s m meth c Z a0 own bytes maxL ret nm) (X : St Z p l e R s m args below meth c n0 T h k n) {a : Addr} {vs : List Value} {j : Int32} {v : Value} (A : La Z h a .double vs) (q : 0 ≤ j.toInt) (hv : vs[j.toNatClampNeg]? = some v) (hp : pc + 1 = pc') (hd : decode bytes pc = .ok (.daload, 1)) (hr : Go p e below Q (T.setTop (mkF m pc' Ls (v :: st)))) : Go p e below Q (T.setTop (mkF m pc Ls (.int j :: .ref a :: st))) := by
  subst hp
  obtain ⟨locs, Y, N, zs, eT⟩ := X
  obtain ⟨cl, B, e1, e2, e3⟩ := A
  obtain ⟨i1, i2⟩ := La.inb e1 q hv
  exact Go.back (fun t kt => Y.daload C.1 (by rw [eT]; exact B.1) (State.isArrayOf_alike C.hZ.alike B.2.1) B.2.2 i1 i2 (g := mkF m pc Ls (.int j :: .ref a :: st)) rfl rfl (C.cd hd) t kt) hr
theorem go_baloadBytes (C : Cx p s m meth c Z a0 own bytes maxL ret nm) (X : St Z p l e R s m args below meth c n0 T h k n) {a : Addr} {vs : List Value} {j : Int32} {v : Value} (A : La Z h a .byte vs) (q : 0 ≤ j.toInt) (hv : vs[j.toNatClampNeg]? = some v) (hp : pc + 1 = pc') (hd : decode bytes pc = .ok (.baload, 1)) (hr : Go p e below Q (T.setTop (mkF m pc' Ls (v :: st)))) : Go p e below Q (T.setTop (mkF m pc Ls (.int j :: .ref a :: st))) := by
  subst hp
  obtain ⟨locs, Y, N, zs, eT⟩ := X
  obtain ⟨cl, B, e1, e2, e3⟩ := A
  obtain ⟨i1, i2⟩ := La.inb e1 q hv
  exact Go.back (fun t kt => Y.baloadBytes C.1 (by rw [eT]; exact B.1) (State.isArrayOf_alike C.hZ.alike B.2.1) B.2.2 i1 i2 (g := mkF m pc Ls (.int j :: .ref a :: st)) rfl rfl (C.cd hd) t kt) hr
theorem go_baloadBooleans (C : Cx p s m meth c Z a0 own bytes maxL ret nm) (X : St Z p l e R s m args below meth c n0 T h k n) {a : Addr} {vs : List Value} {j : Int32} {v : Value} (A : La Z h a .boolean vs) (q : 0 ≤ j.toInt) (hv : vs[j.toNatClampNeg]? = some v) (hp : pc + 1 = pc') (hd : decode bytes pc = .ok (.baload, 1)) (hr : Go p e below Q (T.setTop (mkF m pc' Ls (v :: st)))) : Go p e below Q (T.setTop (mkF m pc Ls (.int j :: .ref a :: st))) := by
  subst hp
  obtain ⟨locs, Y, N, zs, eT⟩ := X
  obtain ⟨cl, B, e1, e2, e3⟩ := A
  obtain ⟨i1, i2⟩ := La.inb e1 q hv
  exact Go.back (fun t kt => Y.baloadBooleans C.1 (by rw [eT]; exact B.1) (State.isArrayOf_alike C.hZ.alike B.2.1) B.2.2 i1 i2 (g := mkF m pc Ls (.int j :: .ref a :: st)) rfl rfl (C.cd hd) t kt) hr
theorem go_aaload (C : Cx p s m meth c Z a0 own bytes maxL ret nm) (X : St Z p l e R s m args below meth c n0 T h k n) {a : Addr} {vs : List Value} {ty : FieldType} {j : Int32} {v : Value} (A : La Z h a ty vs) (ht : ty.isReference = true) (q : 0 ≤ j.toInt) (hv : vs[j.toNatClampNeg]? = some v) (hp : pc + 1 = pc') (hd : decode bytes pc = .ok (.aaload, 1)) (hr : Go p e below Q (T.setTop (mkF m pc' Ls (v :: st)))) : Go p e below Q (T.setTop (mkF m pc Ls (.int j :: .ref a :: st))) := by
  subst hp
  obtain ⟨locs, Y, N, zs, eT⟩ := X
  obtain ⟨cl, B, e1, e2, e3⟩ := A
  obtain ⟨i1, i2⟩ := La.inb e1 q hv
  exact Go.back (fun t kt => Y.aaload C.1 (by rw [eT]; exact B.1) (State.isArrayOf_alike C.hZ.alike B.2.1) ht B.2.2 i1 i2 (g := mkF m pc Ls (.int j :: .ref a :: st)) rfl rfl (C.cd hd) t kt) hr
theorem go_iastore (C : Cx p s m meth c Z a0 own bytes maxL ret nm) (X : St Z p l e R s m args below meth c n0 T h k n) {a : Addr} {vs : List Value} {j : Int32} {x : Int32} (A : La Z h a .int vs) (q : 0 ≤ j.toInt) (hj : j.toInt < vs.length) (ga : n0 ≤ a) (hp : pc + 1 = pc') (hd : decode bytes pc = .ok (.iastore, 1))
    (hr : ∀ T' h', Wr h h' a j.toNatClampNeg (.int x) → La Z h' a .int (vs.set j.toNatClampNeg (.int x)) → St Z p l e R s m args below meth c n0 T' h' k n → Go p e below Q (T'.setTop (mkF m pc' Ls st))) : Go p e below Q (T.setTop (mkF m pc Ls (.int x :: .int j :: .ref a :: st))) := by
  subst hp
  obtain ⟨locs, Y, N, zs, eT⟩ := X
  have A' := A
  obtain ⟨cl, B, e1, e2, e3⟩ := A
  have i1 : ¬ (j < 0 ∨ cl.slots.size ≤ j.toNatClampNeg) := fun r => r.elim (neg_not q) fun r => by
    rw [e1] at r; simp at r; have := clamp_eq q; omega
  obtain ⟨T', h', X', e', W, stp⟩ := stI Y C.1 C.hZ eT B i1 (g := mkF m pc Ls (.int x :: .int j :: .ref a :: st)) rfl rfl (C.cd hd)
  exact Go.back stp (hr T' h' W (A'.set W rfl) ⟨_, X', Fr.snoc X' N ga, zs, e'⟩)
theorem go_lastore (C : Cx p s m meth c Z a0 own bytes maxL ret nm) (X : St Z p l e R s m args below meth c n0 T h k n) {a : Addr} {vs : List Value} {j : Int32} {x : Int64} (A : La Z h a .long vs) (q : 0 ≤ j.toInt) (hj : j.toInt < vs.length) (ga : n0 ≤ a) (hp : pc + 1 = pc') (hd : decode bytes pc = .ok (.lastore, 1))
    (hr : ∀ T' h', Wr h h' a j.toNatClampNeg (.long x) → La Z h' a .long (vs.set j.toNatClampNeg (.long x)) → St Z p l e R s m args below meth c n0 T' h' k n → Go p e below Q (T'.setTop (mkF m pc' Ls st))) : Go p e below Q (T.setTop (mkF m pc Ls (.long x :: .int j :: .ref a :: st))) := by
  subst hp
  obtain ⟨locs, Y, N, zs, eT⟩ := X
  have A' := A
  obtain ⟨cl, B, e1, e2, e3⟩ := A
  have i1 : ¬ (j < 0 ∨ cl.slots.size ≤ j.toNatClampNeg) := fun r => r.elim (neg_not q) fun r => by
    rw [e1] at r; simp at r; have := clamp_eq q; omega
  obtain ⟨T', h', X', e', W, stp⟩ := stJ Y C.1 C.hZ eT B i1 (g := mkF m pc Ls (.long x :: .int j :: .ref a :: st)) rfl rfl (C.cd hd)
  exact Go.back stp (hr T' h' W (A'.set W rfl) ⟨_, X', Fr.snoc X' N ga, zs, e'⟩)
theorem go_dastore (C : Cx p s m meth c Z a0 own bytes maxL ret nm) (X : St Z p l e R s m args below meth c n0 T h k n) {a : Addr} {vs : List Value} {j : Int32} {x : UInt64} (A : La Z h a .double vs) (q : 0 ≤ j.toInt) (hj : j.toInt < vs.length) (ga : n0 ≤ a) (hp : pc + 1 = pc') (hd : decode bytes pc = .ok (.dastore, 1))
    (hr : ∀ T' h', Wr h h' a j.toNatClampNeg (.double x) → La Z h' a .double (vs.set j.toNatClampNeg (.double x)) → St Z p l e R s m args below meth c n0 T' h' k n → Go p e below Q (T'.setTop (mkF m pc' Ls st))) : Go p e below Q (T.setTop (mkF m pc Ls (.double x :: .int j :: .ref a :: st))) := by
  subst hp
  obtain ⟨locs, Y, N, zs, eT⟩ := X
  have A' := A
  obtain ⟨cl, B, e1, e2, e3⟩ := A
  have i1 : ¬ (j < 0 ∨ cl.slots.size ≤ j.toNatClampNeg) := fun r => r.elim (neg_not q) fun r => by
    rw [e1] at r; simp at r; have := clamp_eq q; omega
  obtain ⟨T', h', X', e', W, stp⟩ := stD Y C.1 C.hZ eT B i1 (g := mkF m pc Ls (.double x :: .int j :: .ref a :: st)) rfl rfl (C.cd hd)
  exact Go.back stp (hr T' h' W (A'.set W rfl) ⟨_, X', Fr.snoc X' N ga, zs, e'⟩)
theorem go_newarr (C : Cx p s m meth c Z a0 own bytes maxL ret nm) (X : St Z p l e R s m args below meth c n0 T h k n) {aty : ArrayType} (w : (Jvm.Cond.arrayClass (newarray.typeOf aty)).before a0 Z = true) {z : Int32} {cap : Nat} (hz : 0 ≤ z.toInt) (hcap : z.toInt ≤ cap) (hb8 : cap * 8 ≤ 536870912) (hc : k + 1 ≤ R.cells) (hl : n + cap ≤ R.slots) (hp : pc + 2 = pc') (hd : decode bytes pc = .ok (.newarray aty, 2))
    (hr : ∀ T' h' a, a = h.size → n0 ≤ a → Ext h h' → La Z h' a (newarray.typeOf aty) (List.replicate z.toNatClampNeg (defaultValue (newarray.typeOf aty))) → St Z p l e R s m args below meth c n0 T' h' (k + 1) (n + cap) → Go p e below Q (T'.setTop (mkF m pc' Ls (.ref a :: st)))) : Go p e below Q (T.setTop (mkF m pc Ls (.int z :: st))) := by
  subst hp
  have hsz := X.sz
  obtain ⟨locs, Y, N, zs, eT⟩ := X
  have hzc := clamp_eq hz
  obtain ⟨T', h', cA, X', e', E, A, stp⟩ := newP Y C.1 C.hZ w eT (g := mkF m pc Ls (.int z :: st)) rfl (C.cd hd) rfl (neg_not hz) (cap := cap) (by omega) hb8 hc hl
  refine Go.back stp (hr T' h' _ rfl hsz E ⟨_, A, by simp [newA], ?_, fun v hv => ?_⟩ ⟨_, X', N, zs, e'⟩)
  · have := z.toInt_lt; simp; omega
  · obtain ⟨-, rfl⟩ := List.mem_replicate.mp hv; cases aty <;> rfl
theorem go_newarrE (C : Cx p s m meth c Z a0 own bytes maxL ret nm) (X : St Z p l e R s m args below meth c n0 T h k n) {aty : ArrayType} (w : (Jvm.Cond.arrayClass (newarray.typeOf aty)).before a0 Z = true) {z : Int32} {cap : Nat} {ad : String} (had : "[" ++ (newarray.typeOf aty).toString = ad) (hz : 0 ≤ z.toInt) (hcap : z.toInt ≤ cap) (hb8 : cap * 8 ≤ 536870912) (hc : k + 1 ≤ R.cells) (hl : n + cap ≤ R.slots) (hp : pc + 2 = pc') (hd : decode bytes pc = .ok (.newarray aty, 2))
    (hr : ∀ T' h' a, a = h.size → n0 ≤ a → Ext h h' → La Z h' a (newarray.typeOf aty) (List.replicate z.toNatClampNeg (defaultValue (newarray.typeOf aty))) → Exa Z h' a ad → St Z p l e R s m args below meth c n0 T' h' (k + 1) (n + cap) → Go p e below Q (T'.setTop (mkF m pc' Ls (.ref a :: st)))) : Go p e below Q (T.setTop (mkF m pc Ls (.int z :: st))) := by
  subst hp
  have hsz := X.sz
  obtain ⟨locs, Y, N, zs, eT⟩ := X
  have hzc := clamp_eq hz
  obtain ⟨T', h', cA, X', e', E, A, EX, stp⟩ := newPE Y C.1 C.hZ w eT (g := mkF m pc Ls (.int z :: st)) rfl (C.cd hd) rfl (neg_not hz) (cap := cap) (by omega) hb8 hc hl had
  refine Go.back stp (hr T' h' _ rfl hsz E ⟨_, A, by simp [newA], ?_, fun v hv => ?_⟩ EX ⟨_, X', N, zs, e'⟩)
  · have := z.toInt_lt; simp; omega
  · obtain ⟨-, rfl⟩ := List.mem_replicate.mp hv; cases aty <;> rfl
theorem go_ifnull_n (C : Cx p s m meth c Z a0 own bytes maxL ret nm) (X : St Z p l e R s m args below meth c n0 T h k n) {o : Int} (hd : decode bytes pc = .ok (.ifnull o, 3)) (ho : 0 ≤ (pc : Int) + o) (hp2 : ((pc : Int) + o).toNat = pc2) (hr : Go p e below Q (T.setTop (mkF m pc2 Ls st))) : Go p e below Q (T.setTop (mkF m pc Ls (.null :: st))) := by
  obtain ⟨locs, Y, -, -, -⟩ := X
  exact Go.back (fun t kt => Jvm.Free.XS.ifnullYes Y.here C.1 rfl (pc0 := pc) rfl (C.cd hd) rfl ho hp2 kt) hr
theorem go_ifnull_r (C : Cx p s m meth c Z a0 own bytes maxL ret nm) (X : St Z p l e R s m args below meth c n0 T h k n) {o : Int} {b : Addr} (hp : pc + 3 = pc') (hd : decode bytes pc = .ok (.ifnull o, 3)) (hr : Go p e below Q (T.setTop (mkF m pc' Ls st))) : Go p e below Q (T.setTop (mkF m pc Ls (.ref b :: st))) := by
  subst hp
  obtain ⟨locs, Y, -, -, -⟩ := X
  exact Go.back (fun t kt => Jvm.Free.XS.ifnullNo Y.here C.1 rfl (C.cd hd) rfl kt) hr
theorem go_ifnonnull_r (C : Cx p s m meth c Z a0 own bytes maxL ret nm) (X : St Z p l e R s m args below meth c n0 T h k n) {o : Int} {b : Addr} (hd : decode bytes pc = .ok (.ifnonnull o, 3)) (ho : 0 ≤ (pc : Int) + o) (hp2 : ((pc : Int) + o).toNat = pc2) (hr : Go p e below Q (T.setTop (mkF m pc2 Ls st))) : Go p e below Q (T.setTop (mkF m pc Ls (.ref b :: st))) := by
  obtain ⟨locs, Y, -, -, -⟩ := X
  exact Go.back (fun t kt => Jvm.Free.XS.ifnonnullYes Y.here C.1 rfl (pc0 := pc) rfl (C.cd hd) rfl ho hp2 kt) hr
theorem go_ifnonnull_n (C : Cx p s m meth c Z a0 own bytes maxL ret nm) (X : St Z p l e R s m args below meth c n0 T h k n) {o : Int} (hp : pc + 3 = pc') (hd : decode bytes pc = .ok (.ifnonnull o, 3)) (hr : Go p e below Q (T.setTop (mkF m pc' Ls st))) : Go p e below Q (T.setTop (mkF m pc Ls (.null :: st))) := by
  subst hp
  obtain ⟨locs, Y, -, -, -⟩ := X
  exact Go.back (fun t kt => Jvm.Free.XS.ifnonnullNo Y.here C.1 rfl (C.cd hd) rfl kt) hr
theorem go_acmp_eq (C : Cx p s m meth c Z a0 own bytes maxL ret nm) (X : St Z p l e R s m args below meth c n0 T h k n) {o : Int} {x y : Value} (hx : x.isRef = true) (hy : y.isRef = true) (hd : decode bytes pc = .ok (.if_acmp .eq o, 3)) (hp : pc + 3 = pc') (ho : 0 ≤ (pc : Int) + o) (hp2 : ((pc : Int) + o).toNat = pc2) (h1 : x = y → Go p e below Q (T.setTop (mkF m pc2 Ls st))) (h2 : ¬ x = y → Go p e below Q (T.setTop (mkF m pc' Ls st))) : Go p e below Q (T.setTop (mkF m pc Ls (y :: x :: st))) := by
  obtain ⟨locs, Y, -, -, -⟩ := X
  by_cases q : x = y
  · exact Go.back (fun t kt => acmp (g := mkF m pc Ls (y :: x :: st)) Y C.1 rfl hx hy (pc0 := pc) (pc' := pc2) (same := true) rfl (C.cd hd) rfl (decide_eq_true q) ho (by simp [acV, hp2]) kt) (h1 q)
  · exact Go.back (fun t kt => acmp (g := mkF m pc Ls (y :: x :: st)) Y C.1 rfl hx hy (pc0 := pc) (pc' := pc') (same := false) rfl (C.cd hd) rfl (decide_eq_false q) ho (by simp [acV, hp]) kt) (h2 q)
theorem go_acmp_ne (C : Cx p s m meth c Z a0 own bytes maxL ret nm) (X : St Z p l e R s m args below meth c n0 T h k n) {o : Int} {x y : Value} (hx : x.isRef = true) (hy : y.isRef = true) (hd : decode bytes pc = .ok (.if_acmp .ne o, 3)) (hp : pc + 3 = pc') (ho : 0 ≤ (pc : Int) + o) (hp2 : ((pc : Int) + o).toNat = pc2) (h1 : ¬ x = y → Go p e below Q (T.setTop (mkF m pc2 Ls st))) (h2 : x = y → Go p e below Q (T.setTop (mkF m pc' Ls st))) : Go p e below Q (T.setTop (mkF m pc Ls (y :: x :: st))) := by
  obtain ⟨locs, Y, -, -, -⟩ := X
  by_cases q : x = y
  · exact Go.back (fun t kt => acmp (g := mkF m pc Ls (y :: x :: st)) Y C.1 rfl hx hy (pc0 := pc) (pc' := pc') (same := true) rfl (C.cd hd) rfl (decide_eq_true q) ho (by simp [acV, hp]) kt) (h2 q)
  · exact Go.back (fun t kt => acmp (g := mkF m pc Ls (y :: x :: st)) Y C.1 rfl hx hy (pc0 := pc) (pc' := pc2) (same := false) rfl (C.cd hd) rfl (decide_eq_false q) ho (by simp [acV, hp2]) kt) (h1 q)
theorem go_cast (C : Cx p s m meth c Z a0 own bytes maxL ret nm) (X : St Z p l e R s m args below meth c n0 T h k n) {cn : String} {a : Addr} (w : (Jvm.Cond.classLink own idx cn).before a0 Z = true) (F : Ins Z h a cn true) (hp : pc + 3 = pc') (hd : decode bytes pc = .ok (.checkcast idx, 3)) (hr : ∀ T', St Z p l e R s m args below meth c n0 T' h k n → Go p e below Q (T'.setTop (mkF m pc' Ls (.ref a :: st)))) : Go p e below Q (T.setTop (mkF m pc Ls (.ref a :: st))) := by
  subst hp
  obtain ⟨locs, Y, N, zs, eT⟩ := X
  obtain ⟨T', X', e', stp⟩ := castY Y C.1 C.hZ C.ow w eT F (g := mkF m pc Ls (.ref a :: st)) rfl rfl (C.cd hd)
  exact Go.back stp (hr T' ⟨_, X', N, zs, e'⟩)
theorem go_clone (C : Cx p s m meth c Z a0 own bytes maxL ret nm) (X : St Z p l e R s m args below meth c n0 T h k n) {ad : String} {a : Addr} {ty : FieldType} {vs : List Value} {cap : Nat} (w1 : (Jvm.Cond.methodLink own idx ⟨ad, "clone", "()Ljava/lang/Object;"⟩).before a0 Z = true) (w2 : (Jvm.Cond.sameMethod ad "java/lang/Object" "clone" "()Ljava/lang/Object;").before a0 Z = true) (w3 : (Jvm.Cond.native ⟨"java/lang/Object", "clone", "()Ljava/lang/Object;"⟩).before a0 Z = true)
    (w4 : (Jvm.Cond.instanceMethod ⟨"java/lang/Object", "clone", "()Ljava/lang/Object;"⟩).before a0 Z = true) (w5 : (Jvm.Cond.selects ad ⟨ad, "clone", "()Ljava/lang/Object;"⟩ ⟨"java/lang/Object", "clone", "()Ljava/lang/Object;"⟩).before a0 Z = true) (w6 : (Jvm.Cond.castable ad "java/lang/Cloneable").before a0 Z = true)
    (A : La Z h a ty vs) (E : Exa Z h a ad) (hf : 1 ≤ R.frames) (hl : (st.map fun v => v.category).sum + 14 ≤ R.locals) (hcap : vs.length ≤ cap) (hc : k + 1 ≤ R.cells) (hsl : n + cap ≤ R.slots) (hsz : Ls.size = maxL) (hp : pc + 3 = pc') (hd : decode bytes pc = .ok (.invokevirtual idx, 3))
    (hr : ∀ T' h' b, b = h.size → n0 ≤ b → Ext h h' → La Z h' b ty vs → Exa Z h' b ad → St Z p l e R s m args below meth c n0 T' h' (k + 1) (n + cap) → Go p e below Q (T'.setTop (mkF m pc' Ls (.ref b :: st)))) : Go p e below Q (T.setTop (mkF m pc Ls (.ref a :: st))) := by
  subst hp
  have hs0 := X.sz
  obtain ⟨locs, Y, N, zs, eT⟩ := X
  obtain ⟨cl, B, e1, e2, e3⟩ := A
  have FC : FitC Z cl := fitC_of B fun i hi v hv => e3 v (by rw [e1] at hv; simp at hv; exact List.mem_of_getElem? hv)
  obtain ⟨T', h', X', e', ex, A', E', stp⟩ := cloneA Y C.1 C.hZ C.ow w1 w2 w3 w4 w5 w6 eT B E FC (g := mkF m pc Ls (.ref a :: st)) rfl (hsz.trans C.ml.symm) rfl (C.cd hd) hf (W := (st.map fun v => v.category).sum) (cap := cap) (by show 2 * 0 + _ ≤ _; omega) hl (by rw [e1]; simpa using hcap) hc hsl
  exact Go.back stp (hr T' h' _ rfl hs0 ex ⟨_, A', e1, e2, e3⟩ E' ⟨_, X', N, zs, e'⟩)

theorem go_multi2 (C : Cx p s m meth c Z a0 own bytes maxL ret nm) (X : St Z p l e R s m args below meth c n0 T h k n) {ty : FieldType} {nm2 : String} {z1 z2 : Int32} (hnm2 : "[" ++ (FieldType.array ty).toString = nm2) (w1 : (Jvm.Cond.classLink own idx nm2).before a0 Z = true) (w2 : (Jvm.Cond.arrayOver (.array ty)).before a0 Z = true) (w3 : (Jvm.Cond.arrayClass ty).before a0 Z = true)
    (h1 : ¬ z1 < 0) (h2 : ¬ z2 < 0) (hb1 : z1.toNatClampNeg * 4 ≤ 536870912) (hb2 : z2.toNatClampNeg * componentBytes ty ≤ 536870912) (hb3 : z2.toNatClampNeg ≤ 536870912) (hdf : fits ty (defaultValue ty) = true) (hdd : (defaultValue ty).isDefault = true)
    (hc : k + (1 + z1.toNatClampNeg) ≤ R.cells) (hl : n + (z1.toNatClampNeg + z1.toNatClampNeg * z2.toNatClampNeg) ≤ R.slots) (hp : pc + 4 = pc') (hd : decode bytes pc = .ok (.multianewarray idx 2, 4))
    (hr : ∀ T' h' a, a = h.size → n0 ≤ a → Ext h h' → La Z h' a (.array ty) ((List.range z1.toNatClampNeg).map fun j => .ref (a + 1 + j)) → (∀ j, j < z1.toNatClampNeg → La Z h' (a + 1 + j) ty (List.replicate z2.toNatClampNeg (defaultValue ty))) → St Z p l e R s m args below meth c n0 T' h' (k + 1 + z1.toNatClampNeg) (n + z1.toNatClampNeg + z1.toNatClampNeg * z2.toNatClampNeg) → Go p e below Q (T'.setTop (mkF m pc' Ls (.ref a :: st)))) :
    Go p e below Q (T.setTop (mkF m pc Ls (.int z2 :: .int z1 :: st))) := by
  subst hp
  have hs0 := X.sz
  subst hnm2
  obtain ⟨locs, Y, N, zs, eT⟩ := X
  obtain ⟨vm1, cA, comp, hW, hfA, hfC, hO, hI, X', stp⟩ := Y.multianewarray2F C.1 C.ow (mvT C.hZ w1) (arrayOver_alikeB C.hZ.alike w2) (mvA C.hZ w3) (g := mkF m pc Ls (.int z2 :: .int z1 :: st)) rfl (C.cd hd) rfl h1 h2 hb1 hb2 hb3 hdf hdd hc hl
  subst eT
  have hs1 : (T.setVm vm1).heap = T.heap := rfl
  obtain ⟨f1, f2, -, -⟩ := Jvm.Free.Multi.fill_facts (T.setVm vm1) cA comp z1.toNatClampNeg z2.toNatClampNeg (defaultValue ty) z1.toNatClampNeg
  have l1 : z1.toNatClampNeg < 2 ^ 31 := (back32 h1).2
  have l2 : z2.toNatClampNeg < 2 ^ 31 := (back32 h2).2
  refine Go.back stp (hr _ _ _ rfl hs0 ⟨by rw [f1, hs1]; omega, fun b cb hb' => ?_⟩ ?_ (fun j hj => ?_) ⟨_, X', N, zs, rfl⟩)
  · rw [Jvm.Free.Multi.fill_old (T.setVm vm1) cA comp _ _ _ (Array.getElem?_eq_some_iff.mp hb').1]; exact hb'
  · obtain ⟨o1, o2⟩ := hO z1.toNatClampNeg T.heap.size z1.toNatClampNeg
    have osz := (Jvm.Free.Multi.outerC_facts cA z1.toNatClampNeg T.heap.size z1.toNatClampNeg).2.2
    refine ⟨_, ⟨f2, State.isArrayOf_alike C.hZ.alike.symm o1, o2⟩, Array.ext_getElem? fun i => ?_, by simpa using l1, fun v hv => ?_⟩
    · by_cases q : i < z1.toNatClampNeg
      · rw [Jvm.Free.Multi.outerC_slot cA z1.toNatClampNeg _ z1.toNatClampNeg i q, if_pos q]; simp [q]
      · exact (Array.getElem?_eq_none (Nat.le_trans (Nat.le_of_eq osz) (Nat.le_of_not_lt q))).trans (by rw [List.getElem?_toArray, List.getElem?_eq_none (by simpa using Nat.le_of_not_lt q)])
    · obtain ⟨j, -, rfl⟩ := List.mem_map.mp hv; rfl
  · obtain ⟨i1, i2⟩ := hI z2.toNatClampNeg (defaultValue ty)
    refine ⟨_, ⟨Jvm.Free.Multi.fill_inner (T.setVm vm1) cA comp _ _ _ _ j hj, State.isArrayOf_alike C.hZ.alike.symm i1, i2⟩, by simp [Jvm.Free.Multi.innerC], by simpa using l2, fun v hv => ?_⟩
    obtain ⟨-, rfl⟩ := List.mem_replicate.mp hv; exact hdf

theorem Laid.of {cn O fn d : String} (w : (Jvm.Cond.lays cn O fn d).before a0 Z = true) : Laid Z a0 cn O fn d := Or.inl w
theorem Laid.ofF {cn O fn d : String} (w : (Jvm.Cond.laysFinal cn O fn d).before a0 Z = true) : Laid Z a0 cn O fn d := Or.inr w
end Steps1
/-! numbers -/
theorem i_add {a b : Int32} {x y : Int} (ha : a.toInt = x) (hb : b.toInt = y) (h1 : -2147483648 ≤ x + y) (h2 : x + y < 2147483648) : (a + b).toInt = x + y := by have := c_iadd a b; have := rng32 (a + b); omega
theorem i_sub {a b : Int32} {x y : Int} (ha : a.toInt = x) (hb : b.toInt = y) (h1 : -2147483648 ≤ x - y) (h2 : x - y < 2147483648) : (a - b).toInt = x - y := by have := c_isub a b; have := rng32 (a - b); omega
theorem i_mul {a b : Int32} {x y : Int} (ha : a.toInt = x) (hb : b.toInt = y) (h1 : -2147483648 ≤ x * y) (h2 : x * y < 2147483648) : (a * b).toInt = x * y := by have := c_imul a b; have := rng32 (a * b); rw [ha, hb] at *; generalize x * y = z at *; omega
theorem l_add {a b : Int64} {x y : Int} (ha : a.toInt = x) (hb : b.toInt = y) (h1 : -9223372036854775808 ≤ x + y) (h2 : x + y < 9223372036854775808) : (a + b).toInt = x + y := by have := c_ladd a b; have := rng64 (a + b); omega
theorem l_sub {a b : Int64} {x y : Int} (ha : a.toInt = x) (hb : b.toInt = y) (h1 : -9223372036854775808 ≤ x - y) (h2 : x - y < 9223372036854775808) : (a - b).toInt = x - y := by have := c_lsub a b; have := rng64 (a - b); omega
theorem l_mul {a b : Int64} {x y : Int} (ha : a.toInt = x) (hb : b.toInt = y) (h1 : -9223372036854775808 ≤ x * y) (h2 : x * y < 9223372036854775808) : (a * b).toInt = x * y := by have := c_lmul a b; have := rng64 (a * b); rw [ha, hb] at *; generalize x * y = z at *; omega
theorem i_div {a b : Int32} {x y : Int} (ha : a.toInt = x) (hb : b.toInt = y) (h1 : 0 ≤ x) (h2 : 0 < y) : (a / b).toInt = x / y := by
  have := (c_idiv a b y hb (fun q => by subst q; have : (-1 : Int32).toInt = -1 := rfl; omega)).1 (by omega); rw [this, ha]
theorem l_div {a b : Int64} {x y : Int} (ha : a.toInt = x) (hb : b.toInt = y) (h1 : 0 ≤ x) (h2 : 0 < y) : (a / b).toInt = x / y := by
  have := (c_ldiv a b y hb (fun q => by subst q; have : (-1 : Int64).toInt = -1 := rfl; omega)).1 (by omega); rw [this, ha]
theorem i_rem {a b : Int32} {x y : Int} (ha : a.toInt = x) (hb : b.toInt = y) (h1 : 0 ≤ x) : (a % b).toInt = x % y := by
  have := (c_irem a b y hb).1 (by omega); rw [this, ha]
theorem l_rem {a b : Int64} {x y : Int} (ha : a.toInt = x) (hb : b.toInt = y) (h1 : 0 ≤ x) : (a % b).toInt = x % y := by
  rw [← lrem_mod]; have := (c_lrem a b y hb).1 (by omega); rw [this, ha]
/-- arrays of ints and longs as lists -/
def ia (xs : List Int32) : List Value := xs.map Value.int
def ja (xs : List Int64) : List Value := xs.map Value.long
def at32 (xs : List Int32) (i : Int32) : Int32 := xs.getD i.toNatClampNeg 0
def at64 (xs : List Int64) (i : Int32) : Int64 := xs.getD i.toNatClampNeg 0
def put32 (xs : List Int32) (i y : Int32) : List Int32 := xs.set i.toNatClampNeg y
def put64 (xs : List Int64) (i : Int32) (y : Int64) : List Int64 := xs.set i.toNatClampNeg y
theorem clamp_lt {i : Int32} {n : Nat} (h0 : 0 ≤ i.toInt) (h1 : i.toInt < n) : i.toNatClampNeg < n := by
  have := clamp_eq h0
  omega
theorem ia_at {xs : List Int32} {i : Int32} (h0 : 0 ≤ i.toInt) (h1 : i.toInt < xs.length) : (ia xs)[i.toNatClampNeg]? = some (.int (at32 xs i)) := by
  have := clamp_lt h0 h1; simp [ia, at32, this]
theorem ja_at {xs : List Int64} {i : Int32} (h0 : 0 ≤ i.toInt) (h1 : i.toInt < xs.length) : (ja xs)[i.toNatClampNeg]? = some (.long (at64 xs i)) := by
  have := clamp_lt h0 h1; simp [ja, at64, this]
theorem ia_put (xs : List Int32) (i y : Int32) : (ia xs).set i.toNatClampNeg (.int y) = ia (put32 xs i y) := by simp [ia, put32, List.map_set]
theorem ja_put (xs : List Int64) (i : Int32) (y : Int64) : (ja xs).set i.toNatClampNeg (.long y) = ja (put64 xs i y) := by simp [ja, put64, List.map_set]
theorem ia_len (xs : List Int32) : (ia xs).length = xs.length := by simp [ia]
theorem ja_len (xs : List Int64) : (ja xs).length = xs.length := by simp [ja]
theorem put32_len (xs : List Int32) (i y : Int32) : (put32 xs i y).length = xs.length := by simp [put32]
theorem put64_len (xs : List Int64) (i : Int32) (y : Int64) : (put64 xs i y).length = xs.length := by simp [put64]
theorem La.of {Z : State} {h : Heap} {a : Addr} {ty : FieldType} {c : Cell} (A : Arr Z h a c ty) (vs : List Value) (hl : c.slots.size = vs.length) (h31 : vs.length < 2 ^ 31) (H : ∀ i, i < vs.length → c.slots[i]? = vs[i]?) (G : ∀ v ∈ vs, fits ty v = true) : La Z h a ty vs := by
  refine ⟨c, A, Array.ext_getElem? fun i => ?_, h31, G⟩
  by_cases q : i < vs.length
  · rw [H i q]; simp
  · rw [Array.getElem?_eq_none (by omega)]; simp; omega
theorem eqv_r {Z : State} {args : Array Value} {X F : Term} {idx : List Nat} {y : Addr} (hF : F.eval args Z none idx Z = some (.ref y)) (h : (Jvm.Cond.eq X F).value args Z none Z idx = some true) : X.eval args Z none idx Z = some (.ref y) := by
  simp only [Jvm.Cond.value, hF] at h
  cases hx : X.eval args Z none idx Z with
  | none => simp [hx] at h
  | some v => cases v <;> simp [hx] at h ⊢; exact h
theorem i_eq {a b : Int32} (h : a.toInt = b.toInt) : a = b := Int32.toInt_inj.mp h
theorem l_eq {a b : Int64} (h : a.toInt = b.toInt) : a = b := Int64.toInt_inj.mp h
theorem i_ne {a b : Int32} (h : ¬ a = b) : ¬ a.toInt = b.toInt := fun q => h (i_eq q)
theorem l_ne {a b : Int64} (h : ¬ a = b) : ¬ a.toInt = b.toInt := fun q => h (l_eq q)

def own_sz (pk : Int64) (p : Int32) : Int32 := (((pk.toUInt64 >>> ((15 * p) &&& 0x3f).toInt64.toUInt64).toInt64) &&& 32767).toInt32 + 1
theorem d1_0 : decode method_2_code 0 = .ok (.lload_n 0, 1) := by decide +kernel
theorem d1_1 : decode method_2_code 1 = .ok (.bipush 15, 2) := by decide +kernel
theorem d1_3 : decode method_2_code 3 = .ok (.iload_n 2, 1) := by decide +kernel
theorem d1_4 : decode method_2_code 4 = .ok (.imul, 1) := by decide +kernel
theorem d1_5 : decode method_2_code 5 = .ok (.lushr, 1) := by decide +kernel
theorem d1_6 : decode method_2_code 6 = .ok (.ldc2_w 7, 3) := by decide +kernel
theorem d1_9 : decode method_2_code 9 = .ok (.land, 1) := by decide +kernel
theorem d1_10 : decode method_2_code 10 = .ok (.l2i, 1) := by decide +kernel
theorem d1_11 : decode method_2_code 11 = .ok (.iconst 1, 1) := by decide +kernel
theorem d1_12 : decode method_2_code 12 = .ok (.iadd, 1) := by decide +kernel
theorem d1_13 : decode method_2_code 13 = .ok (.ireturn, 1) := by decide +kernel
theorem pn_com_example_covertide_covertide_engine_ParameterSetsBitOfPinLaw : plainName "com/example/covertide/covertide/engine/ParameterSetsBitOfPinLaw" = true := by first | (simp [plainName, overriddenIn]; done) | decide +kernel
theorem ef_own_sizeAt (m : MethodId) (pk : Int64) (p1 : Int32)  : entryFrame m #[(.long pk), (.int p1)] 3 = mkF m 0 #[jv pk, sc, iv p1] [] := by
  first | (simp [entryFrame, mkF, argsToLocals, Value.category]; done) | rfl
set_option maxRecDepth 65536 in
set_option maxHeartbeats 40000000 in
theorem own_sizeAt (l : Launch) (Z : State) (a0 : Array Value) (hw : ∀ d ∈ tables_1, d.before a0 Z = true) (pk : Int64) (p1 : Int32)  (h : Heap) (n0 : Nat) (hn0 : Old Z n0 h)  :
    Con l Z (⟨"com/example/covertide/covertide/engine/ParameterSetsBitOfPinLaw", "sizeAt", "(JI)I"⟩ : MethodName) method_2_code 3 (some .int) ({ frames := 0, cells := 0, slots := 0, locals := 0 } : Room) #[(.long pk), (.int p1)] h n0 (fun v h' => v = some (.int (own_sz pk p1)) ∧ h = h') := by
  refine con_of hw (plainFor_of_name pn_com_example_covertide_covertide_engine_ParameterSetsBitOfPinLaw) hn0 ?_
  intro p e s m below meth c T0 C X0
  refine Go.cast (congrArg T0.setTop (ef_own_sizeAt m pk p1)) ?_
  refine go_lloadN C X0 1 rfl d1_0 rfl ?_
  refine go_bipush C X0 3 rfl d1_1 (z := 15) rfl ?_
  refine go_iloadN C X0 4 rfl d1_3 rfl ?_
  refine go_imul C X0 5 rfl d1_4 ?_
  refine go_lushr C X0 6 rfl d1_5 ?_
  refine go_ldc2Long C X0 (C.w 5 rfl) (pc' := 9) rfl d1_6 ?_
  refine go_land C X0 10 rfl d1_9 ?_
  refine go_l2i C X0 11 rfl d1_10 ?_
  refine go_iconst C X0 12 rfl d1_11 (z := 1) rfl ?_
  refine go_iadd C X0 13 rfl d1_12 ?_
  exact go_retI C X0 d1_13 ⟨rfl, rfl⟩ (by decide) (by decide)
theorem d4_0 : decode jdk_65_method_103_code 0 = .ok (.iconst 0, 1) := by decide +kernel
theorem d4_1 : decode jdk_65_method_103_code 1 = .ok (.istore_n 2, 1) := by decide +kernel
theorem d4_2 : decode jdk_65_method_103_code 2 = .ok (.aload_n 0, 1) := by decide +kernel
theorem d4_3 : decode jdk_65_method_103_code 3 = .ok (.arraylength, 1) := by decide +kernel
theorem d4_4 : decode jdk_65_method_103_code 4 = .ok (.istore_n 3, 1) := by decide +kernel
theorem d4_5 : decode jdk_65_method_103_code 5 = .ok (.iload_n 2, 1) := by decide +kernel
theorem d4_6 : decode jdk_65_method_103_code 6 = .ok (.iload_n 3, 1) := by decide +kernel
theorem d4_7 : decode jdk_65_method_103_code 7 = .ok (.if_icmp .ge 13, 3) := by decide +kernel
theorem d4_10 : decode jdk_65_method_103_code 10 = .ok (.aload_n 0, 1) := by decide +kernel
theorem d4_11 : decode jdk_65_method_103_code 11 = .ok (.iload_n 2, 1) := by decide +kernel
theorem d4_12 : decode jdk_65_method_103_code 12 = .ok (.iload_n 1, 1) := by decide +kernel
theorem d4_13 : decode jdk_65_method_103_code 13 = .ok (.iastore, 1) := by decide +kernel
theorem d4_14 : decode jdk_65_method_103_code 14 = .ok (.iinc 2 1, 3) := by decide +kernel
theorem d4_17 : decode jdk_65_method_103_code 17 = .ok (.goto (-12), 3) := by decide +kernel
theorem d4_20 : decode jdk_65_method_103_code 20 = .ok (.return_, 1) := by decide +kernel
theorem pn_java_util_Arrays : plainName "java/util/Arrays" = true := by first | (simp [plainName, overriddenIn]; done) | decide +kernel
theorem ef_own_fillI (m : MethodId) (b : Addr) (z : Int32)  : entryFrame m #[(.ref b), (.int z)] 4 = mkF m 0 #[rv b, iv z, un, un] [] := by
  first | (simp [entryFrame, mkF, argsToLocals, Value.category]; done) | rfl
set_option maxRecDepth 65536 in
set_option maxHeartbeats 40000000 in
theorem own_fillI (l : Launch) (Z : State) (a0 : Array Value) (hw : ∀ d ∈ tables_1, d.before a0 Z = true) (b : Addr) (z : Int32)  (h : Heap) (n0 : Nat) (hn0 : Old Z n0 h) (A1 : La Z h b .int [(.int (0 : Int32)), (.int (0 : Int32)), (.int (0 : Int32)), (.int (0 : Int32)), (.int (0 : Int32))]) (gb : n0 ≤ b) :
    Con l Z (⟨"java/util/Arrays", "fill", "([II)V"⟩ : MethodName) jdk_65_method_103_code 4 none ({ frames := 0, cells := 0, slots := 0, locals := 0 } : Room) #[(.ref b), (.int z)] h n0 (fun v h' => v = none ∧ Keep h h' [b] ∧ La Z h' b .int [(.int z), (.int z), (.int z), (.int z), (.int z)]) := by
  refine con_of hw (plainFor_of_name pn_java_util_Arrays) hn0 ?_
  intro p e s m below meth c T0 C X0
  refine Go.cast (congrArg T0.setTop (ef_own_fillI m b z)) ?_
  refine go_iconst C X0 1 rfl d4_0 (z := 0) rfl ?_
  refine go_istoreN C X0 2 rfl d4_1 #[rv b, iv z, iv (0 : Int32), un] rfl ?_
  refine go_aloadN C X0 3 rfl d4_2 rfl rfl ?_
  refine go_alen C X0 A1 (z := (5 : Int32)) rfl (pc' := 4) rfl d4_3 ?_
  refine go_istoreN C X0 5 rfl d4_4 #[rv b, iv z, iv (0 : Int32), iv (5 : Int32)] rfl ?_
  refine go_iloadN C X0 6 rfl d4_5 rfl ?_
  refine go_iloadN C X0 7 rfl d4_6 rfl ?_
  refine go_icmp_ge C X0 d4_7 (pc' := 10) (pc2 := 20) rfl (by decide) (by decide) (fun (c7 : 5 ≤ 0) => False.elim (by first | omega | exact absurd c7 (by decide))) (fun (c7 : 0 < 5) => ?_)
  refine go_aloadN C X0 11 rfl d4_10 rfl rfl ?_
  refine go_iloadN C X0 12 rfl d4_11 rfl ?_
  refine go_iloadN C X0 13 rfl d4_12 rfl ?_
  refine go_iastore C X0 A1 (by decide) (by show _ < (5 : Int); decide) gb (pc' := 14) rfl d4_13 (fun T1 h3 W4 A5 X2 => ?_)
  have K6 := (Keep.refl h [b]).wr W4 (Or.inl (List.mem_of_getElem? (i := 0) rfl))
  replace A5 : La Z h3 b .int ([(.int z), (.int (0 : Int32)), (.int (0 : Int32)), (.int (0 : Int32)), (.int (0 : Int32))]) := A5
  refine go_iinc C X2 17 rfl d4_14 rfl (z := 1) rfl #[rv b, iv z, iv (1 : Int32), iv (5 : Int32)] rfl ?_
  refine go_goto C X2 d4_17 (pc' := 5) (by decide) (by decide) ?_
  refine go_iloadN C X2 6 rfl d4_5 rfl ?_
  refine go_iloadN C X2 7 rfl d4_6 rfl ?_
  refine go_icmp_ge C X2 d4_7 (pc' := 10) (pc2 := 20) rfl (by decide) (by decide) (fun (c7 : 5 ≤ 1) => False.elim (by first | omega | exact absurd c7 (by decide))) (fun (c7 : 1 < 5) => ?_)
  refine go_aloadN C X2 11 rfl d4_10 rfl rfl ?_
  refine go_iloadN C X2 12 rfl d4_11 rfl ?_
  refine go_iloadN C X2 13 rfl d4_12 rfl ?_
  refine go_iastore C X2 A5 (by decide) (by show _ < (5 : Int); decide) gb (pc' := 14) rfl d4_13 (fun T7 h9 W10 A11 X8 => ?_)
  have K12 := K6.wr W10 (Or.inl (List.mem_of_getElem? (i := 0) rfl))
  replace A11 : La Z h9 b .int ([(.int z), (.int z), (.int (0 : Int32)), (.int (0 : Int32)), (.int (0 : Int32))]) := A11
  refine go_iinc C X8 17 rfl d4_14 rfl (z := 1) rfl #[rv b, iv z, iv (2 : Int32), iv (5 : Int32)] rfl ?_
  refine go_goto C X8 d4_17 (pc' := 5) (by decide) (by decide) ?_
  refine go_iloadN C X8 6 rfl d4_5 rfl ?_
  refine go_iloadN C X8 7 rfl d4_6 rfl ?_
  refine go_icmp_ge C X8 d4_7 (pc' := 10) (pc2 := 20) rfl (by decide) (by decide) (fun (c7 : 5 ≤ 2) => False.elim (by first | omega | exact absurd c7 (by decide))) (fun (c7 : 2 < 5) => ?_)
  refine go_aloadN C X8 11 rfl d4_10 rfl rfl ?_
  refine go_iloadN C X8 12 rfl d4_11 rfl ?_
  refine go_iloadN C X8 13 rfl d4_12 rfl ?_
  refine go_iastore C X8 A11 (by decide) (by show _ < (5 : Int); decide) gb (pc' := 14) rfl d4_13 (fun T13 h15 W16 A17 X14 => ?_)
  have K18 := K12.wr W16 (Or.inl (List.mem_of_getElem? (i := 0) rfl))
  replace A17 : La Z h15 b .int ([(.int z), (.int z), (.int z), (.int (0 : Int32)), (.int (0 : Int32))]) := A17
  refine go_iinc C X14 17 rfl d4_14 rfl (z := 1) rfl #[rv b, iv z, iv (3 : Int32), iv (5 : Int32)] rfl ?_
  refine go_goto C X14 d4_17 (pc' := 5) (by decide) (by decide) ?_
  refine go_iloadN C X14 6 rfl d4_5 rfl ?_
  refine go_iloadN C X14 7 rfl d4_6 rfl ?_
  refine go_icmp_ge C X14 d4_7 (pc' := 10) (pc2 := 20) rfl (by decide) (by decide) (fun (c7 : 5 ≤ 3) => False.elim (by first | omega | exact absurd c7 (by decide))) (fun (c7 : 3 < 5) => ?_)
  refine go_aloadN C X14 11 rfl d4_10 rfl rfl ?_
  refine go_iloadN C X14 12 rfl d4_11 rfl ?_
  refine go_iloadN C X14 13 rfl d4_12 rfl ?_
  refine go_iastore C X14 A17 (by decide) (by show _ < (5 : Int); decide) gb (pc' := 14) rfl d4_13 (fun T19 h21 W22 A23 X20 => ?_)
  have K24 := K18.wr W22 (Or.inl (List.mem_of_getElem? (i := 0) rfl))
  replace A23 : La Z h21 b .int ([(.int z), (.int z), (.int z), (.int z), (.int (0 : Int32))]) := A23
  refine go_iinc C X20 17 rfl d4_14 rfl (z := 1) rfl #[rv b, iv z, iv (4 : Int32), iv (5 : Int32)] rfl ?_
  refine go_goto C X20 d4_17 (pc' := 5) (by decide) (by decide) ?_
  refine go_iloadN C X20 6 rfl d4_5 rfl ?_
  refine go_iloadN C X20 7 rfl d4_6 rfl ?_
  refine go_icmp_ge C X20 d4_7 (pc' := 10) (pc2 := 20) rfl (by decide) (by decide) (fun (c7 : 5 ≤ 4) => False.elim (by first | omega | exact absurd c7 (by decide))) (fun (c7 : 4 < 5) => ?_)
  refine go_aloadN C X20 11 rfl d4_10 rfl rfl ?_
  refine go_iloadN C X20 12 rfl d4_11 rfl ?_
  refine go_iloadN C X20 13 rfl d4_12 rfl ?_
  refine go_iastore C X20 A23 (by decide) (by show _ < (5 : Int); decide) gb (pc' := 14) rfl d4_13 (fun T25 h27 W28 A29 X26 => ?_)
  have K30 := K24.wr W28 (Or.inl (List.mem_of_getElem? (i := 0) rfl))
  replace A29 : La Z h27 b .int ([(.int z), (.int z), (.int z), (.int z), (.int z)]) := A29
  refine go_iinc C X26 17 rfl d4_14 rfl (z := 1) rfl #[rv b, iv z, iv (5 : Int32), iv (5 : Int32)] rfl ?_
  refine go_goto C X26 d4_17 (pc' := 5) (by decide) (by decide) ?_
  refine go_iloadN C X26 6 rfl d4_5 rfl ?_
  refine go_iloadN C X26 7 rfl d4_6 rfl ?_
  refine go_icmp_ge C X26 d4_7 (pc' := 10) (pc2 := 20) rfl (by decide) (by decide) (fun (c7 : 5 ≤ 5) => ?_) (fun (c7 : 5 < 5) => False.elim (by first | omega | exact absurd c7 (by decide)))
  exact go_ret0 C X26 d4_20 ⟨rfl, K30, A29⟩ (by decide) (by decide)
theorem d6_0 : decode jdk_65_method_101_code 0 = .ok (.iconst 0, 1) := by decide +kernel
theorem d6_1 : decode jdk_65_method_101_code 1 = .ok (.istore_n 3, 1) := by decide +kernel
theorem d6_2 : decode jdk_65_method_101_code 2 = .ok (.aload_n 0, 1) := by decide +kernel
theorem d6_3 : decode jdk_65_method_101_code 3 = .ok (.arraylength, 1) := by decide +kernel
theorem d6_4 : decode jdk_65_method_101_code 4 = .ok (.istore 4, 2) := by decide +kernel
theorem d6_6 : decode jdk_65_method_101_code 6 = .ok (.iload_n 3, 1) := by decide +kernel
theorem d6_7 : decode jdk_65_method_101_code 7 = .ok (.iload 4, 2) := by decide +kernel
theorem d6_9 : decode jdk_65_method_101_code 9 = .ok (.if_icmp .ge 13, 3) := by decide +kernel
theorem d6_12 : decode jdk_65_method_101_code 12 = .ok (.aload_n 0, 1) := by decide +kernel
theorem d6_13 : decode jdk_65_method_101_code 13 = .ok (.iload_n 3, 1) := by decide +kernel
theorem d6_14 : decode jdk_65_method_101_code 14 = .ok (.lload_n 1, 1) := by decide +kernel
theorem d6_15 : decode jdk_65_method_101_code 15 = .ok (.lastore, 1) := by decide +kernel
theorem d6_16 : decode jdk_65_method_101_code 16 = .ok (.iinc 3 1, 3) := by decide +kernel
theorem d6_19 : decode jdk_65_method_101_code 19 = .ok (.goto (-13), 3) := by decide +kernel
theorem d6_22 : decode jdk_65_method_101_code 22 = .ok (.return_, 1) := by decide +kernel
theorem ef_own_fillJ (m : MethodId) (b : Addr) (z : Int64)  : entryFrame m #[(.ref b), (.long z)] 5 = mkF m 0 #[rv b, jv z, sc, un, un] [] := by
  first | (simp [entryFrame, mkF, argsToLocals, Value.category]; done) | rfl
set_option maxRecDepth 65536 in
set_option maxHeartbeats 40000000 in
theorem own_fillJ (l : Launch) (Z : State) (a0 : Array Value) (hw : ∀ d ∈ tables_1, d.before a0 Z = true) (b : Addr) (z : Int64)  (h : Heap) (n0 : Nat) (hn0 : Old Z n0 h) (A1 : La Z h b .long [(.long (0 : Int64)), (.long (0 : Int64)), (.long (0 : Int64)), (.long (0 : Int64)), (.long (0 : Int64))]) (gb : n0 ≤ b) :
    Con l Z (⟨"java/util/Arrays", "fill", "([JJ)V"⟩ : MethodName) jdk_65_method_101_code 5 none ({ frames := 0, cells := 0, slots := 0, locals := 0 } : Room) #[(.ref b), (.long z)] h n0 (fun v h' => v = none ∧ Keep h h' [b] ∧ La Z h' b .long [(.long z), (.long z), (.long z), (.long z), (.long z)]) := by
  refine con_of hw (plainFor_of_name pn_java_util_Arrays) hn0 ?_
  intro p e s m below meth c T0 C X0
  refine Go.cast (congrArg T0.setTop (ef_own_fillJ m b z)) ?_
  refine go_iconst C X0 1 rfl d6_0 (z := 0) rfl ?_
  refine go_istoreN C X0 2 rfl d6_1 #[rv b, jv z, sc, iv (0 : Int32), un] rfl ?_
  refine go_aloadN C X0 3 rfl d6_2 rfl rfl ?_
  refine go_alen C X0 A1 (z := (5 : Int32)) rfl (pc' := 4) rfl d6_3 ?_
  refine go_istore C X0 6 rfl d6_4 #[rv b, jv z, sc, iv (0 : Int32), iv (5 : Int32)] rfl ?_
  refine go_iloadN C X0 7 rfl d6_6 rfl ?_
  refine go_iload C X0 9 rfl d6_7 rfl ?_
  refine go_icmp_ge C X0 d6_9 (pc' := 12) (pc2 := 22) rfl (by decide) (by decide) (fun (c9 : 5 ≤ 0) => False.elim (by first | omega | exact absurd c9 (by decide))) (fun (c9 : 0 < 5) => ?_)
  refine go_aloadN C X0 13 rfl d6_12 rfl rfl ?_
  refine go_iloadN C X0 14 rfl d6_13 rfl ?_
  refine go_lloadN C X0 15 rfl d6_14 rfl ?_
  refine go_lastore C X0 A1 (by decide) (by show _ < (5 : Int); decide) gb (pc' := 16) rfl d6_15 (fun T1 h3 W4 A5 X2 => ?_)
  have K6 := (Keep.refl h [b]).wr W4 (Or.inl (List.mem_of_getElem? (i := 0) rfl))
  replace A5 : La Z h3 b .long ([(.long z), (.long (0 : Int64)), (.long (0 : Int64)), (.long (0 : Int64)), (.long (0 : Int64))]) := A5
  refine go_iinc C X2 19 rfl d6_16 rfl (z := 1) rfl #[rv b, jv z, sc, iv (1 : Int32), iv (5 : Int32)] rfl ?_
  refine go_goto C X2 d6_19 (pc' := 6) (by decide) (by decide) ?_
  refine go_iloadN C X2 7 rfl d6_6 rfl ?_
  refine go_iload C X2 9 rfl d6_7 rfl ?_
  refine go_icmp_ge C X2 d6_9 (pc' := 12) (pc2 := 22) rfl (by decide) (by decide) (fun (c9 : 5 ≤ 1) => False.elim (by first | omega | exact absurd c9 (by decide))) (fun (c9 : 1 < 5) => ?_)
  refine go_aloadN C X2 13 rfl d6_12 rfl rfl ?_
  refine go_iloadN C X2 14 rfl d6_13 rfl ?_
  refine go_lloadN C X2 15 rfl d6_14 rfl ?_
  refine go_lastore C X2 A5 (by decide) (by show _ < (5 : Int); decide) gb (pc' := 16) rfl d6_15 (fun T7 h9 W10 A11 X8 => ?_)
  have K12 := K6.wr W10 (Or.inl (List.mem_of_getElem? (i := 0) rfl))
  replace A11 : La Z h9 b .long ([(.long z), (.long z), (.long (0 : Int64)), (.long (0 : Int64)), (.long (0 : Int64))]) := A11
  refine go_iinc C X8 19 rfl d6_16 rfl (z := 1) rfl #[rv b, jv z, sc, iv (2 : Int32), iv (5 : Int32)] rfl ?_
  refine go_goto C X8 d6_19 (pc' := 6) (by decide) (by decide) ?_
  refine go_iloadN C X8 7 rfl d6_6 rfl ?_
  refine go_iload C X8 9 rfl d6_7 rfl ?_
  refine go_icmp_ge C X8 d6_9 (pc' := 12) (pc2 := 22) rfl (by decide) (by decide) (fun (c9 : 5 ≤ 2) => False.elim (by first | omega | exact absurd c9 (by decide))) (fun (c9 : 2 < 5) => ?_)
  refine go_aloadN C X8 13 rfl d6_12 rfl rfl ?_
  refine go_iloadN C X8 14 rfl d6_13 rfl ?_
  refine go_lloadN C X8 15 rfl d6_14 rfl ?_
  refine go_lastore C X8 A11 (by decide) (by show _ < (5 : Int); decide) gb (pc' := 16) rfl d6_15 (fun T13 h15 W16 A17 X14 => ?_)
  have K18 := K12.wr W16 (Or.inl (List.mem_of_getElem? (i := 0) rfl))
  replace A17 : La Z h15 b .long ([(.long z), (.long z), (.long z), (.long (0 : Int64)), (.long (0 : Int64))]) := A17
  refine go_iinc C X14 19 rfl d6_16 rfl (z := 1) rfl #[rv b, jv z, sc, iv (3 : Int32), iv (5 : Int32)] rfl ?_
  refine go_goto C X14 d6_19 (pc' := 6) (by decide) (by decide) ?_
  refine go_iloadN C X14 7 rfl d6_6 rfl ?_
  refine go_iload C X14 9 rfl d6_7 rfl ?_
  refine go_icmp_ge C X14 d6_9 (pc' := 12) (pc2 := 22) rfl (by decide) (by decide) (fun (c9 : 5 ≤ 3) => False.elim (by first | omega | exact absurd c9 (by decide))) (fun (c9 : 3 < 5) => ?_)
  refine go_aloadN C X14 13 rfl d6_12 rfl rfl ?_
  refine go_iloadN C X14 14 rfl d6_13 rfl ?_
  refine go_lloadN C X14 15 rfl d6_14 rfl ?_
  refine go_lastore C X14 A17 (by decide) (by show _ < (5 : Int); decide) gb (pc' := 16) rfl d6_15 (fun T19 h21 W22 A23 X20 => ?_)
  have K24 := K18.wr W22 (Or.inl (List.mem_of_getElem? (i := 0) rfl))
  replace A23 : La Z h21 b .long ([(.long z), (.long z), (.long z), (.long z), (.long (0 : Int64))]) := A23
  refine go_iinc C X20 19 rfl d6_16 rfl (z := 1) rfl #[rv b, jv z, sc, iv (4 : Int32), iv (5 : Int32)] rfl ?_
  refine go_goto C X20 d6_19 (pc' := 6) (by decide) (by decide) ?_
  refine go_iloadN C X20 7 rfl d6_6 rfl ?_
  refine go_iload C X20 9 rfl d6_7 rfl ?_
  refine go_icmp_ge C X20 d6_9 (pc' := 12) (pc2 := 22) rfl (by decide) (by decide) (fun (c9 : 5 ≤ 4) => False.elim (by first | omega | exact absurd c9 (by decide))) (fun (c9 : 4 < 5) => ?_)
  refine go_aloadN C X20 13 rfl d6_12 rfl rfl ?_
  refine go_iloadN C X20 14 rfl d6_13 rfl ?_
  refine go_lloadN C X20 15 rfl d6_14 rfl ?_
  refine go_lastore C X20 A23 (by decide) (by show _ < (5 : Int); decide) gb (pc' := 16) rfl d6_15 (fun T25 h27 W28 A29 X26 => ?_)
  have K30 := K24.wr W28 (Or.inl (List.mem_of_getElem? (i := 0) rfl))
  replace A29 : La Z h27 b .long ([(.long z), (.long z), (.long z), (.long z), (.long z)]) := A29
  refine go_iinc C X26 19 rfl d6_16 rfl (z := 1) rfl #[rv b, jv z, sc, iv (5 : Int32), iv (5 : Int32)] rfl ?_
  refine go_goto C X26 d6_19 (pc' := 6) (by decide) (by decide) ?_
  refine go_iloadN C X26 7 rfl d6_6 rfl ?_
  refine go_iload C X26 9 rfl d6_7 rfl ?_
  refine go_icmp_ge C X26 d6_9 (pc' := 12) (pc2 := 22) rfl (by decide) (by decide) (fun (c9 : 5 ≤ 5) => ?_) (fun (c9 : 5 < 5) => False.elim (by first | omega | exact absurd c9 (by decide)))
  exact go_ret0 C X26 d6_22 ⟨rfl, K30, A29⟩ (by decide) (by decide)
theorem d5_0 : decode prog_10_method_14_code 0 = .ok (.aload_n 0, 1) := by decide +kernel
theorem d5_1 : decode prog_10_method_14_code 1 = .ok (.getfield 18, 3) := by decide +kernel
theorem d5_4 : decode prog_10_method_14_code 4 = .ok (.arraylength, 1) := by decide +kernel
theorem d5_5 : decode prog_10_method_14_code 5 = .ok (.istore_n 1, 1) := by decide +kernel
theorem d5_6 : decode prog_10_method_14_code 6 = .ok (.aload_n 0, 1) := by decide +kernel
theorem d5_7 : decode prog_10_method_14_code 7 = .ok (.getfield 30, 3) := by decide +kernel
theorem d5_10 : decode prog_10_method_14_code 10 = .ok (.iconst 1, 1) := by decide +kernel
theorem d5_11 : decode prog_10_method_14_code 11 = .ok (.iadd, 1) := by decide +kernel
theorem d5_12 : decode prog_10_method_14_code 12 = .ok (.iload_n 1, 1) := by decide +kernel
theorem d5_13 : decode prog_10_method_14_code 13 = .ok (.iconst 1, 1) := by decide +kernel
theorem d5_14 : decode prog_10_method_14_code 14 = .ok (.iadd, 1) := by decide +kernel
theorem d5_15 : decode prog_10_method_14_code 15 = .ok (.multianewarray 118 2, 4) := by decide +kernel
theorem d5_19 : decode prog_10_method_14_code 19 = .ok (.astore_n 2, 1) := by decide +kernel
theorem d5_20 : decode prog_10_method_14_code 20 = .ok (.aload_n 2, 1) := by decide +kernel
theorem d5_21 : decode prog_10_method_14_code 21 = .ok (.iconst 0, 1) := by decide +kernel
theorem d5_22 : decode prog_10_method_14_code 22 = .ok (.aaload, 1) := by decide +kernel
theorem d5_23 : decode prog_10_method_14_code 23 = .ok (.lconst 1, 1) := by decide +kernel
theorem pd_0 : parseMethodDescriptor "([JJ)V" = some ⟨[(.array .long), .long], none⟩ := by decide +kernel
theorem d5_24 : decode prog_10_method_14_code 24 = .ok (.invokestatic 119, 3) := by decide +kernel
theorem d5_27 : decode prog_10_method_14_code 27 = .ok (.iconst 1, 1) := by decide +kernel
theorem d5_28 : decode prog_10_method_14_code 28 = .ok (.istore_n 3, 1) := by decide +kernel
theorem d5_29 : decode prog_10_method_14_code 29 = .ok (.iload_n 3, 1) := by decide +kernel
theorem d5_30 : decode prog_10_method_14_code 30 = .ok (.aload_n 0, 1) := by decide +kernel
theorem d5_31 : decode prog_10_method_14_code 31 = .ok (.getfield 30, 3) := by decide +kernel
theorem d5_34 : decode prog_10_method_14_code 34 = .ok (.if_icmp .gt 70, 3) := by decide +kernel
theorem d5_37 : decode prog_10_method_14_code 37 = .ok (.iload_n 1, 1) := by decide +kernel
theorem d5_38 : decode prog_10_method_14_code 38 = .ok (.iconst 1, 1) := by decide +kernel
theorem d5_39 : decode prog_10_method_14_code 39 = .ok (.isub, 1) := by decide +kernel
theorem d5_40 : decode prog_10_method_14_code 40 = .ok (.istore 4, 2) := by decide +kernel
theorem d5_42 : decode prog_10_method_14_code 42 = .ok (.iload 4, 2) := by decide +kernel
theorem d5_44 : decode prog_10_method_14_code 44 = .ok (.aload_n 0, 1) := by decide +kernel
theorem d5_45 : decode prog_10_method_14_code 45 = .ok (.getfield 30, 3) := by decide +kernel
theorem d5_48 : decode prog_10_method_14_code 48 = .ok (.iload_n 3, 1) := by decide +kernel
theorem d5_49 : decode prog_10_method_14_code 49 = .ok (.isub, 1) := by decide +kernel
theorem d5_50 : decode prog_10_method_14_code 50 = .ok (.if_icmp .lt 48, 3) := by decide +kernel
theorem d5_53 : decode prog_10_method_14_code 53 = .ok (.aload_n 2, 1) := by decide +kernel
theorem d5_54 : decode prog_10_method_14_code 54 = .ok (.iload_n 3, 1) := by decide +kernel
theorem d5_55 : decode prog_10_method_14_code 55 = .ok (.aaload, 1) := by decide +kernel
theorem d5_56 : decode prog_10_method_14_code 56 = .ok (.iload 4, 2) := by decide +kernel
theorem d5_58 : decode prog_10_method_14_code 58 = .ok (.aload_n 2, 1) := by decide +kernel
theorem d5_59 : decode prog_10_method_14_code 59 = .ok (.iload_n 3, 1) := by decide +kernel
theorem d5_60 : decode prog_10_method_14_code 60 = .ok (.aaload, 1) := by decide +kernel
theorem d5_61 : decode prog_10_method_14_code 61 = .ok (.iload 4, 2) := by decide +kernel
theorem d5_63 : decode prog_10_method_14_code 63 = .ok (.iconst 1, 1) := by decide +kernel
theorem d5_64 : decode prog_10_method_14_code 64 = .ok (.iadd, 1) := by decide +kernel
theorem d5_65 : decode prog_10_method_14_code 65 = .ok (.laload, 1) := by decide +kernel
theorem d5_66 : decode prog_10_method_14_code 66 = .ok (.aload_n 0, 1) := by decide +kernel
theorem d5_67 : decode prog_10_method_14_code 67 = .ok (.getfield 7, 3) := by decide +kernel
theorem d5_70 : decode prog_10_method_14_code 70 = .ok (.aload_n 0, 1) := by decide +kernel
theorem d5_71 : decode prog_10_method_14_code 71 = .ok (.getfield 18, 3) := by decide +kernel
theorem d5_74 : decode prog_10_method_14_code 74 = .ok (.iload 4, 2) := by decide +kernel
theorem d5_76 : decode prog_10_method_14_code 76 = .ok (.iaload, 1) := by decide +kernel
theorem d5_77 : decode prog_10_method_14_code 77 = .ok (.iaload, 1) := by decide +kernel
theorem d5_78 : decode prog_10_method_14_code 78 = .ok (.i2l, 1) := by decide +kernel
theorem d5_79 : decode prog_10_method_14_code 79 = .ok (.aload_n 2, 1) := by decide +kernel
theorem d5_80 : decode prog_10_method_14_code 80 = .ok (.iload_n 3, 1) := by decide +kernel
theorem d5_81 : decode prog_10_method_14_code 81 = .ok (.iconst 1, 1) := by decide +kernel
theorem d5_82 : decode prog_10_method_14_code 82 = .ok (.isub, 1) := by decide +kernel
theorem d5_83 : decode prog_10_method_14_code 83 = .ok (.aaload, 1) := by decide +kernel
theorem d5_84 : decode prog_10_method_14_code 84 = .ok (.iload 4, 2) := by decide +kernel
theorem d5_86 : decode prog_10_method_14_code 86 = .ok (.iconst 1, 1) := by decide +kernel
theorem d5_87 : decode prog_10_method_14_code 87 = .ok (.iadd, 1) := by decide +kernel
theorem d5_88 : decode prog_10_method_14_code 88 = .ok (.laload, 1) := by decide +kernel
theorem d5_89 : decode prog_10_method_14_code 89 = .ok (.lmul, 1) := by decide +kernel
theorem d5_90 : decode prog_10_method_14_code 90 = .ok (.ladd, 1) := by decide +kernel
theorem d5_91 : decode prog_10_method_14_code 91 = .ok (.lastore, 1) := by decide +kernel
theorem d5_92 : decode prog_10_method_14_code 92 = .ok (.iinc 4 (-1), 3) := by decide +kernel
theorem d5_95 : decode prog_10_method_14_code 95 = .ok (.goto (-53), 3) := by decide +kernel
theorem d5_98 : decode prog_10_method_14_code 98 = .ok (.iinc 3 1, 3) := by decide +kernel
theorem d5_101 : decode prog_10_method_14_code 101 = .ok (.goto (-72), 3) := by decide +kernel
theorem d5_104 : decode prog_10_method_14_code 104 = .ok (.aload_n 2, 1) := by decide +kernel
theorem d5_105 : decode prog_10_method_14_code 105 = .ok (.areturn, 1) := by decide +kernel
theorem pn_com_example_covertide_covertide_engine_ParameterSets : plainName "com/example/covertide/covertide/engine/ParameterSets" = true := by first | (simp [plainName, overriddenIn]; done) | decide +kernel
theorem ef_own_suf_1 (m : MethodId) (a : Addr)  : entryFrame m #[(.ref a)] 5 = mkF m 0 #[rv a, un, un, un, un] [] := by
  first | (simp [entryFrame, mkF, argsToLocals, Value.category]; done) | rfl
set_option maxRecDepth 65536 in
set_option maxHeartbeats 40000000 in
theorem own_suf_1 (l : Launch) (Z : State) (a0 : Array Value) (hw : ∀ d ∈ tables_1, d.before a0 Z = true) (a : Addr) (sb mb : Addr) (sz : List Int32) (m0 m1 m2 m3 s0 s1 s2 s3 : Int32) (h : Heap) (n0 : Nat) (hn0 : Old Z n0 h) (E0 : Exa Z h a "com/example/covertide/covertide/engine/ParameterSets") (F1 : Fld Z h a "com/example/covertide/covertide/engine/ParameterSets" "sizes" "[I" (.ref sb)) (F2 : Fld Z h a "com/example/covertide/covertide/engine/ParameterSets" "members" "[I" (.ref mb)) (F3 : Fld Z h a "com/example/covertide/covertide/engine/ParameterSets" "size" "I" (.int 1)) (A1 : La Z h sb .int (ia sz)) (A2 : La Z h mb .int [(.int m0), (.int m1), (.int m2), (.int m3)]) (hl : sz.length = 5) (b0 : 0 ≤ m0.toInt ∧ m0.toInt < (5 : Nat)) (z0 : at32 sz m0 = s0) (b1 : 0 ≤ m1.toInt ∧ m1.toInt < (5 : Nat)) (z1 : at32 sz m1 = s1) (b2 : 0 ≤ m2.toInt ∧ m2.toInt < (5 : Nat)) (z2 : at32 sz m2 = s2) (b3 : 0 ≤ m3.toInt ∧ m3.toInt < (5 : Nat)) (z3 : at32 sz m3 = s3) :
    Con l Z (⟨"com/example/covertide/covertide/engine/ParameterSets", "suffixSums", "()[[J"⟩ : MethodName) prog_10_method_14_code 5 (some (.array (.array .long))) ({ frames := 1, cells := 3, slots := 12, locals := 16 } : Room) #[(.ref a)] h n0 (fun v h' => ∃ ob r0 r1 : Addr, v = some (.ref ob) ∧ Keep h h' [] ∧ h.size ≤ ob ∧ h.size ≤ r0 ∧ h.size ≤ r1 ∧ La Z h' ob (.array .long) [(.ref r0), (.ref r1)] ∧ La Z h' r0 .long [(.long (1 : Int64)), (.long (1 : Int64)), (.long (1 : Int64)), (.long (1 : Int64)), (.long (1 : Int64))] ∧ La Z h' r1 .long [(.long (((((0 : Int64) + (s3.toInt64 * (1 : Int64))) + (s2.toInt64 * (1 : Int64))) + (s1.toInt64 * (1 : Int64))) + (s0.toInt64 * (1 : Int64)))), (.long ((((0 : Int64) + (s3.toInt64 * (1 : Int64))) + (s2.toInt64 * (1 : Int64))) + (s1.toInt64 * (1 : Int64)))), (.long (((0 : Int64) + (s3.toInt64 * (1 : Int64))) + (s2.toInt64 * (1 : Int64)))), (.long ((0 : Int64) + (s3.toInt64 * (1 : Int64)))), (.long (0 : Int64))]) := by
  refine con_of hw (plainFor_of_name pn_com_example_covertide_covertide_engine_ParameterSets) hn0 ?_
  intro p e s m below meth c T0 C X0
  refine Go.cast (congrArg T0.setTop (ef_own_suf_1 m a)) ?_
  refine go_aloadN C X0 1 rfl d5_0 rfl rfl ?_
  refine go_getF C X0 (C.w 27 rfl) Via.refl F2 (pc' := 4) rfl d5_1 (fun T1 X2 => ?_)
  refine go_alen C X2 A2 (z := (4 : Int32)) rfl (pc' := 5) rfl d5_4 ?_
  refine go_istoreN C X2 6 rfl d5_5 #[rv a, iv (4 : Int32), un, un, un] rfl ?_
  refine go_aloadN C X2 7 rfl d5_6 rfl rfl ?_
  refine go_getF C X2 (C.w 35 rfl) Via.refl F3 (pc' := 10) rfl d5_7 (fun T3 X4 => ?_)
  refine go_iconst C X4 11 rfl d5_10 (z := 1) rfl ?_
  refine go_iaddL C X4 12 rfl d5_11 (z := (2)) rfl ?_
  refine go_iloadN C X4 13 rfl d5_12 rfl ?_
  refine go_iconst C X4 14 rfl d5_13 (z := 1) rfl ?_
  refine go_iaddL C X4 15 rfl d5_14 (z := (5)) rfl ?_
  refine go_multi2 C X4 (ty := .long) (by decide) (C.w 43 rfl) (C.w 44 rfl) (C.w 45 rfl) (by decide) (by decide) (by decide) (by decide) (by decide) rfl rfl (by decide) (by decide) (pc' := 19) rfl d5_15 (fun T5 h7 ob ha_ob ga_ob E8 A9 AR10 X6 => ?_)
  have ne_a_ob : a ≠ ob := Nat.ne_of_lt (Nat.lt_of_lt_of_le E0.lt (Nat.le_of_eq ha_ob.symm))
  have ne_sb_ob : sb ≠ ob := Nat.ne_of_lt (Nat.lt_of_lt_of_le A1.lt (Nat.le_of_eq ha_ob.symm))
  have ne_mb_ob : mb ≠ ob := Nat.ne_of_lt (Nat.lt_of_lt_of_le A2.lt (Nat.le_of_eq ha_ob.symm))
  have sz_ob : h.size ≤ ob := Nat.le_trans (Keep.refl h []).1 (Nat.le_of_eq ha_ob.symm)
  obtain ⟨r0, er_r0⟩ : ∃ z, z = ob + 1 + 0 := ⟨_, rfl⟩
  have ne_a_r0 : a ≠ r0 := Nat.ne_of_lt (Nat.lt_of_lt_of_le E0.lt (by rw [er_r0, ha_ob]; exact Nat.le_trans (Nat.le_add_right _ 1) (Nat.le_add_right _ _)))
  have ne_sb_r0 : sb ≠ r0 := Nat.ne_of_lt (Nat.lt_of_lt_of_le A1.lt (by rw [er_r0, ha_ob]; exact Nat.le_trans (Nat.le_add_right _ 1) (Nat.le_add_right _ _)))
  have ne_mb_r0 : mb ≠ r0 := Nat.ne_of_lt (Nat.lt_of_lt_of_le A2.lt (by rw [er_r0, ha_ob]; exact Nat.le_trans (Nat.le_add_right _ 1) (Nat.le_add_right _ _)))
  have ne_ob_r0 : ob ≠ r0 := by rw [er_r0]; intro q; replace q : (_ : Nat) = _ := q; omega
  have ga_r0 : n0 ≤ r0 := by rw [er_r0]; exact Nat.le_trans ga_ob (Nat.le_trans (Nat.le_add_right _ 1) (Nat.le_add_right _ _))
  have sz_r0 : h.size ≤ r0 := by rw [er_r0]; exact Nat.le_trans sz_ob (Nat.le_trans (Nat.le_add_right _ 1) (Nat.le_add_right _ _))
  have AR_r0 : La Z h7 r0 .long [.long 0, .long 0, .long 0, .long 0, .long 0] := er_r0 ▸ AR10 0 (by decide)
  obtain ⟨r1, er_r1⟩ : ∃ z, z = ob + 1 + 1 := ⟨_, rfl⟩
  have ne_a_r1 : a ≠ r1 := Nat.ne_of_lt (Nat.lt_of_lt_of_le E0.lt (by rw [er_r1, ha_ob]; exact Nat.le_trans (Nat.le_add_right _ 1) (Nat.le_add_right _ _)))
  have ne_sb_r1 : sb ≠ r1 := Nat.ne_of_lt (Nat.lt_of_lt_of_le A1.lt (by rw [er_r1, ha_ob]; exact Nat.le_trans (Nat.le_add_right _ 1) (Nat.le_add_right _ _)))
  have ne_mb_r1 : mb ≠ r1 := Nat.ne_of_lt (Nat.lt_of_lt_of_le A2.lt (by rw [er_r1, ha_ob]; exact Nat.le_trans (Nat.le_add_right _ 1) (Nat.le_add_right _ _)))
  have ne_ob_r1 : ob ≠ r1 := by rw [er_r1]; intro q; replace q : (_ : Nat) = _ := q; omega
  have ne_r0_r1 : r0 ≠ r1 := by rw [er_r0]; rw [er_r1]; intro q; replace q : (_ : Nat) = _ := q; omega
  have ga_r1 : n0 ≤ r1 := by rw [er_r1]; exact Nat.le_trans ga_ob (Nat.le_trans (Nat.le_add_right _ 1) (Nat.le_add_right _ _))
  have sz_r1 : h.size ≤ r1 := by rw [er_r1]; exact Nat.le_trans sz_ob (Nat.le_trans (Nat.le_add_right _ 1) (Nat.le_add_right _ _))
  have AR_r1 : La Z h7 r1 .long [.long 0, .long 0, .long 0, .long 0, .long 0] := er_r1 ▸ AR10 1 (by decide)
  replace A9 : La Z h7 ob (.array .long) [.ref r0, .ref r1] := by subst er_r0 er_r1; exact A9
  have E11 := E0.ext E8
  have F12 := F1.ext E8
  have F13 := F2.ext E8
  have F14 := F3.ext E8
  have A15 := A1.ext E8
  have A16 := A2.ext E8
  have K17 := (Keep.refl h []).ext E8
  refine go_astoreN C X6 20 rfl d5_19 rfl #[rv a, iv (4 : Int32), rv ob, un, un] rfl ?_
  refine go_aloadN C X6 21 rfl d5_20 rfl rfl ?_
  refine go_iconst C X6 22 rfl d5_21 (z := 0) rfl ?_
  refine go_aaload C X6 A9 rfl (by decide) (v := (.ref r0)) rfl (pc' := 23) rfl d5_22 ?_
  refine go_lconst C X6 24 rfl d5_23 (z := 1) rfl ?_
  refine go_callS C X6 (C.w 46 rfl) (C.w 47 rfl) (C.w 33 rfl) (C.w 48 rfl) (own_fillJ l Z a0 C.ws r0 (1 : Int64) h7 n0 X6.old AR_r0 ga_r0) (argsL := [(.ref r0), (.long (1 : Int64))]) (rest := []) (lenOf pd_0 rfl) rfl (by decide) (by decide) (Nat.le_of_ble_eq_true rfl) (by decide) (by decide) rfl rfl (pc' := 27) rfl d5_24 ?_
  rintro T18 h20 _ ⟨rfl, K8, A8⟩ X19
  show Go p e below _ (T18.setTop (mkF m 27 #[rv a, iv (4 : Int32), rv ob, un, un] []))
  have E21 := E11.keep K8
  have F22 := F12.keep K8 (ninS ne_a_r0 nin0)
  have F23 := F13.keep K8 (ninS ne_a_r0 nin0)
  have F24 := F14.keep K8 (ninS ne_a_r0 nin0)
  have A25 := A15.keep K8 (ninS ne_sb_r0 nin0)
  have A26 := A16.keep K8 (ninS ne_mb_r0 nin0)
  have A27 := A9.keep K8 (ninS ne_ob_r0 nin0)
  have A28 := AR_r1.keep K8 (ninS (Ne.symm ne_r0_r1) nin0)
  have K29 := K17.trans K8 (allS (Or.inr sz_r0) all0)
  refine go_iconst C X19 28 rfl d5_27 (z := 1) rfl ?_
  refine go_istoreN C X19 29 rfl d5_28 #[rv a, iv (4 : Int32), rv ob, iv (1 : Int32), un] rfl ?_
  refine go_iloadN C X19 30 rfl d5_29 rfl ?_
  refine go_aloadN C X19 31 rfl d5_30 rfl rfl ?_
  refine go_getF C X19 (C.w 35 rfl) Via.refl F24 (pc' := 34) rfl d5_31 (fun T30 X31 => ?_)
  refine go_icmp_gt C X31 d5_34 (pc' := 37) (pc2 := 104) rfl (by decide) (by decide) (fun (c34 : 1 < 1) => False.elim (by first | omega | exact absurd c34 (by decide))) (fun (c34 : 1 ≤ 1) => ?_)
  refine go_iloadN C X31 38 rfl d5_37 rfl ?_
  refine go_iconst C X31 39 rfl d5_38 (z := 1) rfl ?_
  refine go_isubL C X31 40 rfl d5_39 (z := (3)) rfl ?_
  refine go_istore C X31 42 rfl d5_40 #[rv a, iv (4 : Int32), rv ob, iv (1 : Int32), iv (3 : Int32)] rfl ?_
  refine go_iload C X31 44 rfl d5_42 rfl ?_
  refine go_aloadN C X31 45 rfl d5_44 rfl rfl ?_
  refine go_getF C X31 (C.w 35 rfl) Via.refl F24 (pc' := 48) rfl d5_45 (fun T32 X33 => ?_)
  refine go_iloadN C X33 49 rfl d5_48 rfl ?_
  refine go_isubL C X33 50 rfl d5_49 (z := (0)) rfl ?_
  refine go_icmp_lt C X33 d5_50 (pc' := 53) (pc2 := 98) rfl (by decide) (by decide) (fun (c50 : 3 < 0) => False.elim (by first | omega | exact absurd c50 (by decide))) (fun (c50 : 0 ≤ 3) => ?_)
  refine go_aloadN C X33 54 rfl d5_53 rfl rfl ?_
  refine go_iloadN C X33 55 rfl d5_54 rfl ?_
  refine go_aaload C X33 A27 rfl (by decide) (v := (.ref r1)) rfl (pc' := 56) rfl d5_55 ?_
  refine go_iload C X33 58 rfl d5_56 rfl ?_
  refine go_aloadN C X33 59 rfl d5_58 rfl rfl ?_
  refine go_iloadN C X33 60 rfl d5_59 rfl ?_
  refine go_aaload C X33 A27 rfl (by decide) (v := (.ref r1)) rfl (pc' := 61) rfl d5_60 ?_
  refine go_iload C X33 63 rfl d5_61 rfl ?_
  refine go_iconst C X33 64 rfl d5_63 (z := 1) rfl ?_
  refine go_iaddL C X33 65 rfl d5_64 (z := (4)) rfl ?_
  refine go_laload C X33 A28 (by decide) (v := (.long (0 : Int64))) rfl (pc' := 66) rfl d5_65 ?_
  refine go_aloadN C X33 67 rfl d5_66 rfl rfl ?_
  refine go_getF C X33 (C.w 16 rfl) Via.refl F22 (pc' := 70) rfl d5_67 (fun T34 X35 => ?_)
  refine go_aloadN C X35 71 rfl d5_70 rfl rfl ?_
  refine go_getF C X35 (C.w 27 rfl) Via.refl F23 (pc' := 74) rfl d5_71 (fun T36 X37 => ?_)
  refine go_iload C X37 76 rfl d5_74 rfl ?_
  refine go_iaload C X37 A26 (by decide) (v := (.int m3)) rfl (pc' := 77) rfl d5_76 ?_
  refine go_iaload C X37 A25 b3.1 (v := (.int (at32 sz m3))) (ia_at b3.1 (by rw [hl]; exact b3.2)) (pc' := 78) rfl d5_77 ?_
  rw [z3]
  refine go_i2l C X37 79 rfl d5_78 ?_
  refine go_aloadN C X37 80 rfl d5_79 rfl rfl ?_
  refine go_iloadN C X37 81 rfl d5_80 rfl ?_
  refine go_iconst C X37 82 rfl d5_81 (z := 1) rfl ?_
  refine go_isubL C X37 83 rfl d5_82 (z := (0)) rfl ?_
  refine go_aaload C X37 A27 rfl (by decide) (v := (.ref r0)) rfl (pc' := 84) rfl d5_83 ?_
  refine go_iload C X37 86 rfl d5_84 rfl ?_
  refine go_iconst C X37 87 rfl d5_86 (z := 1) rfl ?_
  refine go_iaddL C X37 88 rfl d5_87 (z := (4)) rfl ?_
  refine go_laload C X37 A8 (by decide) (v := (.long (1 : Int64))) rfl (pc' := 89) rfl d5_88 ?_
  refine go_lmul C X37 90 rfl d5_89 ?_
  refine go_ladd C X37 91 rfl d5_90 ?_
  generalize et1 : ((0 : Int64) + ((s3.toInt64) * (1 : Int64))) = t1
  refine go_lastore C X37 A28 (by decide) (by show _ < (5 : Int); decide) ga_r1 (pc' := 92) rfl d5_91 (fun T38 h40 W41 A42 X39 => ?_)
  have E43 := E21.wr W41
  have F44 := F22.other W41 (Or.inl ne_a_r1)
  have F45 := F23.other W41 (Or.inl ne_a_r1)
  have F46 := F24.other W41 (Or.inl ne_a_r1)
  have A47 := A25.other W41 ne_sb_r1
  have A48 := A26.other W41 ne_mb_r1
  have A49 := A27.other W41 ne_ob_r1
  have A50 := A8.other W41 ne_r0_r1
  have K51 := K29.wr W41 (Or.inr sz_r1)
  replace A42 : La Z h40 r1 .long ([(.long (0 : Int64)), (.long (0 : Int64)), (.long (0 : Int64)), (.long t1), (.long (0 : Int64))]) := A42
  refine go_iinc C X39 95 rfl d5_92 rfl (z := (-1)) rfl #[rv a, iv (4 : Int32), rv ob, iv (1 : Int32), iv (2 : Int32)] rfl ?_
  refine go_goto C X39 d5_95 (pc' := 42) (by decide) (by decide) ?_
  refine go_iload C X39 44 rfl d5_42 rfl ?_
  refine go_aloadN C X39 45 rfl d5_44 rfl rfl ?_
  refine go_getF C X39 (C.w 35 rfl) Via.refl F46 (pc' := 48) rfl d5_45 (fun T52 X53 => ?_)
  refine go_iloadN C X53 49 rfl d5_48 rfl ?_
  refine go_isubL C X53 50 rfl d5_49 (z := (0)) rfl ?_
  refine go_icmp_lt C X53 d5_50 (pc' := 53) (pc2 := 98) rfl (by decide) (by decide) (fun (c50 : 2 < 0) => False.elim (by first | omega | exact absurd c50 (by decide))) (fun (c50 : 0 ≤ 2) => ?_)
  refine go_aloadN C X53 54 rfl d5_53 rfl rfl ?_
  refine go_iloadN C X53 55 rfl d5_54 rfl ?_
  refine go_aaload C X53 A49 rfl (by decide) (v := (.ref r1)) rfl (pc' := 56) rfl d5_55 ?_
  refine go_iload C X53 58 rfl d5_56 rfl ?_
  refine go_aloadN C X53 59 rfl d5_58 rfl rfl ?_
  refine go_iloadN C X53 60 rfl d5_59 rfl ?_
  refine go_aaload C X53 A49 rfl (by decide) (v := (.ref r1)) rfl (pc' := 61) rfl d5_60 ?_
  refine go_iload C X53 63 rfl d5_61 rfl ?_
  refine go_iconst C X53 64 rfl d5_63 (z := 1) rfl ?_
  refine go_iaddL C X53 65 rfl d5_64 (z := (3)) rfl ?_
  refine go_laload C X53 A42 (by decide) (v := (.long t1)) rfl (pc' := 66) rfl d5_65 ?_
  refine go_aloadN C X53 67 rfl d5_66 rfl rfl ?_
  refine go_getF C X53 (C.w 16 rfl) Via.refl F44 (pc' := 70) rfl d5_67 (fun T54 X55 => ?_)
  refine go_aloadN C X55 71 rfl d5_70 rfl rfl ?_
  refine go_getF C X55 (C.w 27 rfl) Via.refl F45 (pc' := 74) rfl d5_71 (fun T56 X57 => ?_)
  refine go_iload C X57 76 rfl d5_74 rfl ?_
  refine go_iaload C X57 A48 (by decide) (v := (.int m2)) rfl (pc' := 77) rfl d5_76 ?_
  refine go_iaload C X57 A47 b2.1 (v := (.int (at32 sz m2))) (ia_at b2.1 (by rw [hl]; exact b2.2)) (pc' := 78) rfl d5_77 ?_
  rw [z2]
  refine go_i2l C X57 79 rfl d5_78 ?_
  refine go_aloadN C X57 80 rfl d5_79 rfl rfl ?_
  refine go_iloadN C X57 81 rfl d5_80 rfl ?_
  refine go_iconst C X57 82 rfl d5_81 (z := 1) rfl ?_
  refine go_isubL C X57 83 rfl d5_82 (z := (0)) rfl ?_
  refine go_aaload C X57 A49 rfl (by decide) (v := (.ref r0)) rfl (pc' := 84) rfl d5_83 ?_
  refine go_iload C X57 86 rfl d5_84 rfl ?_
  refine go_iconst C X57 87 rfl d5_86 (z := 1) rfl ?_
  refine go_iaddL C X57 88 rfl d5_87 (z := (3)) rfl ?_
  refine go_laload C X57 A50 (by decide) (v := (.long (1 : Int64))) rfl (pc' := 89) rfl d5_88 ?_
  refine go_lmul C X57 90 rfl d5_89 ?_
  refine go_ladd C X57 91 rfl d5_90 ?_
  generalize et2 : (t1 + ((s2.toInt64) * (1 : Int64))) = t2
  refine go_lastore C X57 A42 (by decide) (by show _ < (5 : Int); decide) ga_r1 (pc' := 92) rfl d5_91 (fun T58 h60 W61 A62 X59 => ?_)
  have E63 := E43.wr W61
  have F64 := F44.other W61 (Or.inl ne_a_r1)
  have F65 := F45.other W61 (Or.inl ne_a_r1)
  have F66 := F46.other W61 (Or.inl ne_a_r1)
  have A67 := A47.other W61 ne_sb_r1
  have A68 := A48.other W61 ne_mb_r1
  have A69 := A49.other W61 ne_ob_r1
  have A70 := A50.other W61 ne_r0_r1
  have K71 := K51.wr W61 (Or.inr sz_r1)
  replace A62 : La Z h60 r1 .long ([(.long (0 : Int64)), (.long (0 : Int64)), (.long t2), (.long t1), (.long (0 : Int64))]) := A62
  refine go_iinc C X59 95 rfl d5_92 rfl (z := (-1)) rfl #[rv a, iv (4 : Int32), rv ob, iv (1 : Int32), iv (1 : Int32)] rfl ?_
  refine go_goto C X59 d5_95 (pc' := 42) (by decide) (by decide) ?_
  refine go_iload C X59 44 rfl d5_42 rfl ?_
  refine go_aloadN C X59 45 rfl d5_44 rfl rfl ?_
  refine go_getF C X59 (C.w 35 rfl) Via.refl F66 (pc' := 48) rfl d5_45 (fun T72 X73 => ?_)
  refine go_iloadN C X73 49 rfl d5_48 rfl ?_
  refine go_isubL C X73 50 rfl d5_49 (z := (0)) rfl ?_
  refine go_icmp_lt C X73 d5_50 (pc' := 53) (pc2 := 98) rfl (by decide) (by decide) (fun (c50 : 1 < 0) => False.elim (by first | omega | exact absurd c50 (by decide))) (fun (c50 : 0 ≤ 1) => ?_)
  refine go_aloadN C X73 54 rfl d5_53 rfl rfl ?_
  refine go_iloadN C X73 55 rfl d5_54 rfl ?_
  refine go_aaload C X73 A69 rfl (by decide) (v := (.ref r1)) rfl (pc' := 56) rfl d5_55 ?_
  refine go_iload C X73 58 rfl d5_56 rfl ?_
  refine go_aloadN C X73 59 rfl d5_58 rfl rfl ?_
  refine go_iloadN C X73 60 rfl d5_59 rfl ?_
  refine go_aaload C X73 A69 rfl (by decide) (v := (.ref r1)) rfl (pc' := 61) rfl d5_60 ?_
  refine go_iload C X73 63 rfl d5_61 rfl ?_
  refine go_iconst C X73 64 rfl d5_63 (z := 1) rfl ?_
  refine go_iaddL C X73 65 rfl d5_64 (z := (2)) rfl ?_
  refine go_laload C X73 A62 (by decide) (v := (.long t2)) rfl (pc' := 66) rfl d5_65 ?_
  refine go_aloadN C X73 67 rfl d5_66 rfl rfl ?_
  refine go_getF C X73 (C.w 16 rfl) Via.refl F64 (pc' := 70) rfl d5_67 (fun T74 X75 => ?_)
  refine go_aloadN C X75 71 rfl d5_70 rfl rfl ?_
  refine go_getF C X75 (C.w 27 rfl) Via.refl F65 (pc' := 74) rfl d5_71 (fun T76 X77 => ?_)
  refine go_iload C X77 76 rfl d5_74 rfl ?_
  refine go_iaload C X77 A68 (by decide) (v := (.int m1)) rfl (pc' := 77) rfl d5_76 ?_
  refine go_iaload C X77 A67 b1.1 (v := (.int (at32 sz m1))) (ia_at b1.1 (by rw [hl]; exact b1.2)) (pc' := 78) rfl d5_77 ?_
  rw [z1]
  refine go_i2l C X77 79 rfl d5_78 ?_
  refine go_aloadN C X77 80 rfl d5_79 rfl rfl ?_
  refine go_iloadN C X77 81 rfl d5_80 rfl ?_
  refine go_iconst C X77 82 rfl d5_81 (z := 1) rfl ?_
  refine go_isubL C X77 83 rfl d5_82 (z := (0)) rfl ?_
  refine go_aaload C X77 A69 rfl (by decide) (v := (.ref r0)) rfl (pc' := 84) rfl d5_83 ?_
  refine go_iload C X77 86 rfl d5_84 rfl ?_
  refine go_iconst C X77 87 rfl d5_86 (z := 1) rfl ?_
  refine go_iaddL C X77 88 rfl d5_87 (z := (2)) rfl ?_
  refine go_laload C X77 A70 (by decide) (v := (.long (1 : Int64))) rfl (pc' := 89) rfl d5_88 ?_
  refine go_lmul C X77 90 rfl d5_89 ?_
  refine go_ladd C X77 91 rfl d5_90 ?_
  generalize et3 : (t2 + ((s1.toInt64) * (1 : Int64))) = t3
  refine go_lastore C X77 A62 (by decide) (by show _ < (5 : Int); decide) ga_r1 (pc' := 92) rfl d5_91 (fun T78 h80 W81 A82 X79 => ?_)
  have E83 := E63.wr W81
  have F84 := F64.other W81 (Or.inl ne_a_r1)
  have F85 := F65.other W81 (Or.inl ne_a_r1)
  have F86 := F66.other W81 (Or.inl ne_a_r1)
  have A87 := A67.other W81 ne_sb_r1
  have A88 := A68.other W81 ne_mb_r1
  have A89 := A69.other W81 ne_ob_r1
  have A90 := A70.other W81 ne_r0_r1
  have K91 := K71.wr W81 (Or.inr sz_r1)
  replace A82 : La Z h80 r1 .long ([(.long (0 : Int64)), (.long t3), (.long t2), (.long t1), (.long (0 : Int64))]) := A82
  refine go_iinc C X79 95 rfl d5_92 rfl (z := (-1)) rfl #[rv a, iv (4 : Int32), rv ob, iv (1 : Int32), iv (0 : Int32)] rfl ?_
  refine go_goto C X79 d5_95 (pc' := 42) (by decide) (by decide) ?_
  refine go_iload C X79 44 rfl d5_42 rfl ?_
  refine go_aloadN C X79 45 rfl d5_44 rfl rfl ?_
  refine go_getF C X79 (C.w 35 rfl) Via.refl F86 (pc' := 48) rfl d5_45 (fun T92 X93 => ?_)
  refine go_iloadN C X93 49 rfl d5_48 rfl ?_
  refine go_isubL C X93 50 rfl d5_49 (z := (0)) rfl ?_
  refine go_icmp_lt C X93 d5_50 (pc' := 53) (pc2 := 98) rfl (by decide) (by decide) (fun (c50 : 0 < 0) => False.elim (by first | omega | exact absurd c50 (by decide))) (fun (c50 : 0 ≤ 0) => ?_)
  refine go_aloadN C X93 54 rfl d5_53 rfl rfl ?_
  refine go_iloadN C X93 55 rfl d5_54 rfl ?_
  refine go_aaload C X93 A89 rfl (by decide) (v := (.ref r1)) rfl (pc' := 56) rfl d5_55 ?_
  refine go_iload C X93 58 rfl d5_56 rfl ?_
  refine go_aloadN C X93 59 rfl d5_58 rfl rfl ?_
  refine go_iloadN C X93 60 rfl d5_59 rfl ?_
  refine go_aaload C X93 A89 rfl (by decide) (v := (.ref r1)) rfl (pc' := 61) rfl d5_60 ?_
  refine go_iload C X93 63 rfl d5_61 rfl ?_
  refine go_iconst C X93 64 rfl d5_63 (z := 1) rfl ?_
  refine go_iaddL C X93 65 rfl d5_64 (z := (1)) rfl ?_
  refine go_laload C X93 A82 (by decide) (v := (.long t3)) rfl (pc' := 66) rfl d5_65 ?_
  refine go_aloadN C X93 67 rfl d5_66 rfl rfl ?_
  refine go_getF C X93 (C.w 16 rfl) Via.refl F84 (pc' := 70) rfl d5_67 (fun T94 X95 => ?_)
  refine go_aloadN C X95 71 rfl d5_70 rfl rfl ?_
  refine go_getF C X95 (C.w 27 rfl) Via.refl F85 (pc' := 74) rfl d5_71 (fun T96 X97 => ?_)
  refine go_iload C X97 76 rfl d5_74 rfl ?_
  refine go_iaload C X97 A88 (by decide) (v := (.int m0)) rfl (pc' := 77) rfl d5_76 ?_
  refine go_iaload C X97 A87 b0.1 (v := (.int (at32 sz m0))) (ia_at b0.1 (by rw [hl]; exact b0.2)) (pc' := 78) rfl d5_77 ?_
  rw [z0]
  refine go_i2l C X97 79 rfl d5_78 ?_
  refine go_aloadN C X97 80 rfl d5_79 rfl rfl ?_
  refine go_iloadN C X97 81 rfl d5_80 rfl ?_
  refine go_iconst C X97 82 rfl d5_81 (z := 1) rfl ?_
  refine go_isubL C X97 83 rfl d5_82 (z := (0)) rfl ?_
  refine go_aaload C X97 A89 rfl (by decide) (v := (.ref r0)) rfl (pc' := 84) rfl d5_83 ?_
  refine go_iload C X97 86 rfl d5_84 rfl ?_
  refine go_iconst C X97 87 rfl d5_86 (z := 1) rfl ?_
  refine go_iaddL C X97 88 rfl d5_87 (z := (1)) rfl ?_
  refine go_laload C X97 A90 (by decide) (v := (.long (1 : Int64))) rfl (pc' := 89) rfl d5_88 ?_
  refine go_lmul C X97 90 rfl d5_89 ?_
  refine go_ladd C X97 91 rfl d5_90 ?_
  generalize et4 : (t3 + ((s0.toInt64) * (1 : Int64))) = t4
  refine go_lastore C X97 A82 (by decide) (by show _ < (5 : Int); decide) ga_r1 (pc' := 92) rfl d5_91 (fun T98 h100 W101 A102 X99 => ?_)
  have E103 := E83.wr W101
  have F104 := F84.other W101 (Or.inl ne_a_r1)
  have F105 := F85.other W101 (Or.inl ne_a_r1)
  have F106 := F86.other W101 (Or.inl ne_a_r1)
  have A107 := A87.other W101 ne_sb_r1
  have A108 := A88.other W101 ne_mb_r1
  have A109 := A89.other W101 ne_ob_r1
  have A110 := A90.other W101 ne_r0_r1
  have K111 := K91.wr W101 (Or.inr sz_r1)
  replace A102 : La Z h100 r1 .long ([(.long t4), (.long t3), (.long t2), (.long t1), (.long (0 : Int64))]) := A102
  refine go_iinc C X99 95 rfl d5_92 rfl (z := (-1)) rfl #[rv a, iv (4 : Int32), rv ob, iv (1 : Int32), iv (-1 : Int32)] rfl ?_
  refine go_goto C X99 d5_95 (pc' := 42) (by decide) (by decide) ?_
  refine go_iload C X99 44 rfl d5_42 rfl ?_
  refine go_aloadN C X99 45 rfl d5_44 rfl rfl ?_
  refine go_getF C X99 (C.w 35 rfl) Via.refl F106 (pc' := 48) rfl d5_45 (fun T112 X113 => ?_)
  refine go_iloadN C X113 49 rfl d5_48 rfl ?_
  refine go_isubL C X113 50 rfl d5_49 (z := (0)) rfl ?_
  refine go_icmp_lt C X113 d5_50 (pc' := 53) (pc2 := 98) rfl (by decide) (by decide) (fun (c50 : (-1) < 0) => ?_) (fun (c50 : 0 ≤ (-1)) => False.elim (by first | omega | exact absurd c50 (by decide)))
  refine go_iinc C X113 101 rfl d5_98 rfl (z := 1) rfl #[rv a, iv (4 : Int32), rv ob, iv (2 : Int32), iv (-1 : Int32)] rfl ?_
  refine go_goto C X113 d5_101 (pc' := 29) (by decide) (by decide) ?_
  refine go_iloadN C X113 30 rfl d5_29 rfl ?_
  refine go_aloadN C X113 31 rfl d5_30 rfl rfl ?_
  refine go_getF C X113 (C.w 35 rfl) Via.refl F106 (pc' := 34) rfl d5_31 (fun T114 X115 => ?_)
  refine go_icmp_gt C X115 d5_34 (pc' := 37) (pc2 := 104) rfl (by decide) (by decide) (fun (c34 : 1 < 2) => ?_) (fun (c34 : 2 ≤ 1) => False.elim (by first | omega | exact absurd c34 (by decide)))
  refine go_aloadN C X115 105 rfl d5_104 rfl rfl ?_
  exact go_retA C X115 d5_105 rfl rfl (by subst et4; subst et3; subst et2; subst et1; exact ⟨ob, r0, r1, rfl, K111, sz_ob, sz_r0, sz_r1, A109, A110, A102⟩) (by decide) (by decide)
theorem ef_own_suf_2 (m : MethodId) (a : Addr)  : entryFrame m #[(.ref a)] 5 = mkF m 0 #[rv a, un, un, un, un] [] := by
  first | (simp [entryFrame, mkF, argsToLocals, Value.category]; done) | rfl
set_option maxRecDepth 65536 in
set_option maxHeartbeats 40000000 in
theorem own_suf_2 (l : Launch) (Z : State) (a0 : Array Value) (hw : ∀ d ∈ tables_1, d.before a0 Z = true) (a : Addr) (sb mb : Addr) (sz : List Int32) (m0 m1 m2 m3 s0 s1 s2 s3 : Int32) (h : Heap) (n0 : Nat) (hn0 : Old Z n0 h) (E0 : Exa Z h a "com/example/covertide/covertide/engine/ParameterSets") (F1 : Fld Z h a "com/example/covertide/covertide/engine/ParameterSets" "sizes" "[I" (.ref sb)) (F2 : Fld Z h a "com/example/covertide/covertide/engine/ParameterSets" "members" "[I" (.ref mb)) (F3 : Fld Z h a "com/example/covertide/covertide/engine/ParameterSets" "size" "I" (.int 2)) (A1 : La Z h sb .int (ia sz)) (A2 : La Z h mb .int [(.int m0), (.int m1), (.int m2), (.int m3)]) (hl : sz.length = 5) (b0 : 0 ≤ m0.toInt ∧ m0.toInt < (5 : Nat)) (z0 : at32 sz m0 = s0) (b1 : 0 ≤ m1.toInt ∧ m1.toInt < (5 : Nat)) (z1 : at32 sz m1 = s1) (b2 : 0 ≤ m2.toInt ∧ m2.toInt < (5 : Nat)) (z2 : at32 sz m2 = s2) (b3 : 0 ≤ m3.toInt ∧ m3.toInt < (5 : Nat)) (z3 : at32 sz m3 = s3) :
    Con l Z (⟨"com/example/covertide/covertide/engine/ParameterSets", "suffixSums", "()[[J"⟩ : MethodName) prog_10_method_14_code 5 (some (.array (.array .long))) ({ frames := 1, cells := 4, slots := 18, locals := 16 } : Room) #[(.ref a)] h n0 (fun v h' => ∃ ob r0 r1 r2 : Addr, v = some (.ref ob) ∧ Keep h h' [] ∧ h.size ≤ ob ∧ h.size ≤ r0 ∧ h.size ≤ r1 ∧ h.size ≤ r2 ∧ La Z h' ob (.array .long) [(.ref r0), (.ref r1), (.ref r2)] ∧ La Z h' r0 .long [(.long (1 : Int64)), (.long (1 : Int64)), (.long (1 : Int64)), (.long (1 : Int64)), (.long (1 : Int64))] ∧ La Z h' r1 .long [(.long (0 : Int64)), (.long ((((0 : Int64) + (s3.toInt64 * (1 : Int64))) + (s2.toInt64 * (1 : Int64))) + (s1.toInt64 * (1 : Int64)))), (.long (((0 : Int64) + (s3.toInt64 * (1 : Int64))) + (s2.toInt64 * (1 : Int64)))), (.long ((0 : Int64) + (s3.toInt64 * (1 : Int64)))), (.long (0 : Int64))] ∧ La Z h' r2 .long [(.long (((((0 : Int64) + (s3.toInt64 * (0 : Int64))) + (s2.toInt64 * ((0 : Int64) + (s3.toInt64 * (1 : Int64))))) + (s1.toInt64 * (((0 : Int64) + (s3.toInt64 * (1 : Int64))) + (s2.toInt64 * (1 : Int64))))) + (s0.toInt64 * ((((0 : Int64) + (s3.toInt64 * (1 : Int64))) + (s2.toInt64 * (1 : Int64))) + (s1.toInt64 * (1 : Int64)))))), (.long ((((0 : Int64) + (s3.toInt64 * (0 : Int64))) + (s2.toInt64 * ((0 : Int64) + (s3.toInt64 * (1 : Int64))))) + (s1.toInt64 * (((0 : Int64) + (s3.toInt64 * (1 : Int64))) + (s2.toInt64 * (1 : Int64)))))), (.long (((0 : Int64) + (s3.toInt64 * (0 : Int64))) + (s2.toInt64 * ((0 : Int64) + (s3.toInt64 * (1 : Int64)))))), (.long ((0 : Int64) + (s3.toInt64 * (0 : Int64)))), (.long (0 : Int64))]) := by
  refine con_of hw (plainFor_of_name pn_com_example_covertide_covertide_engine_ParameterSets) hn0 ?_
  intro p e s m below meth c T0 C X0
  refine Go.cast (congrArg T0.setTop (ef_own_suf_2 m a)) ?_
  refine go_aloadN C X0 1 rfl d5_0 rfl rfl ?_
  refine go_getF C X0 (C.w 27 rfl) Via.refl F2 (pc' := 4) rfl d5_1 (fun T1 X2 => ?_)
  refine go_alen C X2 A2 (z := (4 : Int32)) rfl (pc' := 5) rfl d5_4 ?_
  refine go_istoreN C X2 6 rfl d5_5 #[rv a, iv (4 : Int32), un, un, un] rfl ?_
  refine go_aloadN C X2 7 rfl d5_6 rfl rfl ?_
  refine go_getF C X2 (C.w 35 rfl) Via.refl F3 (pc' := 10) rfl d5_7 (fun T3 X4 => ?_)
  refine go_iconst C X4 11 rfl d5_10 (z := 1) rfl ?_
  refine go_iaddL C X4 12 rfl d5_11 (z := (3)) rfl ?_
  refine go_iloadN C X4 13 rfl d5_12 rfl ?_
  refine go_iconst C X4 14 rfl d5_13 (z := 1) rfl ?_
  refine go_iaddL C X4 15 rfl d5_14 (z := (5)) rfl ?_
  refine go_multi2 C X4 (ty := .long) (by decide) (C.w 43 rfl) (C.w 44 rfl) (C.w 45 rfl) (by decide) (by decide) (by decide) (by decide) (by decide) rfl rfl (by decide) (by decide) (pc' := 19) rfl d5_15 (fun T5 h7 ob ha_ob ga_ob E8 A9 AR10 X6 => ?_)
  have ne_a_ob : a ≠ ob := Nat.ne_of_lt (Nat.lt_of_lt_of_le E0.lt (Nat.le_of_eq ha_ob.symm))
  have ne_sb_ob : sb ≠ ob := Nat.ne_of_lt (Nat.lt_of_lt_of_le A1.lt (Nat.le_of_eq ha_ob.symm))
  have ne_mb_ob : mb ≠ ob := Nat.ne_of_lt (Nat.lt_of_lt_of_le A2.lt (Nat.le_of_eq ha_ob.symm))
  have sz_ob : h.size ≤ ob := Nat.le_trans (Keep.refl h []).1 (Nat.le_of_eq ha_ob.symm)
  obtain ⟨r0, er_r0⟩ : ∃ z, z = ob + 1 + 0 := ⟨_, rfl⟩
  have ne_a_r0 : a ≠ r0 := Nat.ne_of_lt (Nat.lt_of_lt_of_le E0.lt (by rw [er_r0, ha_ob]; exact Nat.le_trans (Nat.le_add_right _ 1) (Nat.le_add_right _ _)))
  have ne_sb_r0 : sb ≠ r0 := Nat.ne_of_lt (Nat.lt_of_lt_of_le A1.lt (by rw [er_r0, ha_ob]; exact Nat.le_trans (Nat.le_add_right _ 1) (Nat.le_add_right _ _)))
  have ne_mb_r0 : mb ≠ r0 := Nat.ne_of_lt (Nat.lt_of_lt_of_le A2.lt (by rw [er_r0, ha_ob]; exact Nat.le_trans (Nat.le_add_right _ 1) (Nat.le_add_right _ _)))
  have ne_ob_r0 : ob ≠ r0 := by rw [er_r0]; intro q; replace q : (_ : Nat) = _ := q; omega
  have ga_r0 : n0 ≤ r0 := by rw [er_r0]; exact Nat.le_trans ga_ob (Nat.le_trans (Nat.le_add_right _ 1) (Nat.le_add_right _ _))
  have sz_r0 : h.size ≤ r0 := by rw [er_r0]; exact Nat.le_trans sz_ob (Nat.le_trans (Nat.le_add_right _ 1) (Nat.le_add_right _ _))
  have AR_r0 : La Z h7 r0 .long [.long 0, .long 0, .long 0, .long 0, .long 0] := er_r0 ▸ AR10 0 (by decide)
  obtain ⟨r1, er_r1⟩ : ∃ z, z = ob + 1 + 1 := ⟨_, rfl⟩
  have ne_a_r1 : a ≠ r1 := Nat.ne_of_lt (Nat.lt_of_lt_of_le E0.lt (by rw [er_r1, ha_ob]; exact Nat.le_trans (Nat.le_add_right _ 1) (Nat.le_add_right _ _)))
  have ne_sb_r1 : sb ≠ r1 := Nat.ne_of_lt (Nat.lt_of_lt_of_le A1.lt (by rw [er_r1, ha_ob]; exact Nat.le_trans (Nat.le_add_right _ 1) (Nat.le_add_right _ _)))
  have ne_mb_r1 : mb ≠ r1 := Nat.ne_of_lt (Nat.lt_of_lt_of_le A2.lt (by rw [er_r1, ha_ob]; exact Nat.le_trans (Nat.le_add_right _ 1) (Nat.le_add_right _ _)))
  have ne_ob_r1 : ob ≠ r1 := by rw [er_r1]; intro q; replace q : (_ : Nat) = _ := q; omega
  have ne_r0_r1 : r0 ≠ r1 := by rw [er_r0]; rw [er_r1]; intro q; replace q : (_ : Nat) = _ := q; omega
  have ga_r1 : n0 ≤ r1 := by rw [er_r1]; exact Nat.le_trans ga_ob (Nat.le_trans (Nat.le_add_right _ 1) (Nat.le_add_right _ _))
  have sz_r1 : h.size ≤ r1 := by rw [er_r1]; exact Nat.le_trans sz_ob (Nat.le_trans (Nat.le_add_right _ 1) (Nat.le_add_right _ _))
  have AR_r1 : La Z h7 r1 .long [.long 0, .long 0, .long 0, .long 0, .long 0] := er_r1 ▸ AR10 1 (by decide)
  obtain ⟨r2, er_r2⟩ : ∃ z, z = ob + 1 + 2 := ⟨_, rfl⟩
  have ne_a_r2 : a ≠ r2 := Nat.ne_of_lt (Nat.lt_of_lt_of_le E0.lt (by rw [er_r2, ha_ob]; exact Nat.le_trans (Nat.le_add_right _ 1) (Nat.le_add_right _ _)))
  have ne_sb_r2 : sb ≠ r2 := Nat.ne_of_lt (Nat.lt_of_lt_of_le A1.lt (by rw [er_r2, ha_ob]; exact Nat.le_trans (Nat.le_add_right _ 1) (Nat.le_add_right _ _)))
  have ne_mb_r2 : mb ≠ r2 := Nat.ne_of_lt (Nat.lt_of_lt_of_le A2.lt (by rw [er_r2, ha_ob]; exact Nat.le_trans (Nat.le_add_right _ 1) (Nat.le_add_right _ _)))
  have ne_ob_r2 : ob ≠ r2 := by rw [er_r2]; intro q; replace q : (_ : Nat) = _ := q; omega
  have ne_r0_r2 : r0 ≠ r2 := by rw [er_r0]; rw [er_r2]; intro q; replace q : (_ : Nat) = _ := q; omega
  have ne_r1_r2 : r1 ≠ r2 := by rw [er_r1]; rw [er_r2]; intro q; replace q : (_ : Nat) = _ := q; omega
  have ga_r2 : n0 ≤ r2 := by rw [er_r2]; exact Nat.le_trans ga_ob (Nat.le_trans (Nat.le_add_right _ 1) (Nat.le_add_right _ _))
  have sz_r2 : h.size ≤ r2 := by rw [er_r2]; exact Nat.le_trans sz_ob (Nat.le_trans (Nat.le_add_right _ 1) (Nat.le_add_right _ _))
  have AR_r2 : La Z h7 r2 .long [.long 0, .long 0, .long 0, .long 0, .long 0] := er_r2 ▸ AR10 2 (by decide)
  replace A9 : La Z h7 ob (.array .long) [.ref r0, .ref r1, .ref r2] := by subst er_r0 er_r1 er_r2; exact A9
  have E11 := E0.ext E8
  have F12 := F1.ext E8
  have F13 := F2.ext E8
  have F14 := F3.ext E8
  have A15 := A1.ext E8
  have A16 := A2.ext E8
  have K17 := (Keep.refl h []).ext E8
  refine go_astoreN C X6 20 rfl d5_19 rfl #[rv a, iv (4 : Int32), rv ob, un, un] rfl ?_
  refine go_aloadN C X6 21 rfl d5_20 rfl rfl ?_
  refine go_iconst C X6 22 rfl d5_21 (z := 0) rfl ?_
  refine go_aaload C X6 A9 rfl (by decide) (v := (.ref r0)) rfl (pc' := 23) rfl d5_22 ?_
  refine go_lconst C X6 24 rfl d5_23 (z := 1) rfl ?_
  refine go_callS C X6 (C.w 46 rfl) (C.w 47 rfl) (C.w 33 rfl) (C.w 48 rfl) (own_fillJ l Z a0 C.ws r0 (1 : Int64) h7 n0 X6.old AR_r0 ga_r0) (argsL := [(.ref r0), (.long (1 : Int64))]) (rest := []) (lenOf pd_0 rfl) rfl (by decide) (by decide) (Nat.le_of_ble_eq_true rfl) (by decide) (by decide) rfl rfl (pc' := 27) rfl d5_24 ?_
  rintro T18 h20 _ ⟨rfl, K8, A8⟩ X19
  show Go p e below _ (T18.setTop (mkF m 27 #[rv a, iv (4 : Int32), rv ob, un, un] []))
  have E21 := E11.keep K8
  have F22 := F12.keep K8 (ninS ne_a_r0 nin0)
  have F23 := F13.keep K8 (ninS ne_a_r0 nin0)
  have F24 := F14.keep K8 (ninS ne_a_r0 nin0)
  have A25 := A15.keep K8 (ninS ne_sb_r0 nin0)
  have A26 := A16.keep K8 (ninS ne_mb_r0 nin0)
  have A27 := A9.keep K8 (ninS ne_ob_r0 nin0)
  have A28 := AR_r1.keep K8 (ninS (Ne.symm ne_r0_r1) nin0)
  have A29 := AR_r2.keep K8 (ninS (Ne.symm ne_r0_r2) nin0)
  have K30 := K17.trans K8 (allS (Or.inr sz_r0) all0)
  refine go_iconst C X19 28 rfl d5_27 (z := 1) rfl ?_
  refine go_istoreN C X19 29 rfl d5_28 #[rv a, iv (4 : Int32), rv ob, iv (1 : Int32), un] rfl ?_
  refine go_iloadN C X19 30 rfl d5_29 rfl ?_
  refine go_aloadN C X19 31 rfl d5_30 rfl rfl ?_
  refine go_getF C X19 (C.w 35 rfl) Via.refl F24 (pc' := 34) rfl d5_31 (fun T31 X32 => ?_)
  refine go_icmp_gt C X32 d5_34 (pc' := 37) (pc2 := 104) rfl (by decide) (by decide) (fun (c34 : 2 < 1) => False.elim (by first | omega | exact absurd c34 (by decide))) (fun (c34 : 1 ≤ 2) => ?_)
  refine go_iloadN C X32 38 rfl d5_37 rfl ?_
  refine go_iconst C X32 39 rfl d5_38 (z := 1) rfl ?_
  refine go_isubL C X32 40 rfl d5_39 (z := (3)) rfl ?_
  refine go_istore C X32 42 rfl d5_40 #[rv a, iv (4 : Int32), rv ob, iv (1 : Int32), iv (3 : Int32)] rfl ?_
  refine go_iload C X32 44 rfl d5_42 rfl ?_
  refine go_aloadN C X32 45 rfl d5_44 rfl rfl ?_
  refine go_getF C X32 (C.w 35 rfl) Via.refl F24 (pc' := 48) rfl d5_45 (fun T33 X34 => ?_)
  refine go_iloadN C X34 49 rfl d5_48 rfl ?_
  refine go_isubL C X34 50 rfl d5_49 (z := (1)) rfl ?_
  refine go_icmp_lt C X34 d5_50 (pc' := 53) (pc2 := 98) rfl (by decide) (by decide) (fun (c50 : 3 < 1) => False.elim (by first | omega | exact absurd c50 (by decide))) (fun (c50 : 1 ≤ 3) => ?_)
  refine go_aloadN C X34 54 rfl d5_53 rfl rfl ?_
  refine go_iloadN C X34 55 rfl d5_54 rfl ?_
  refine go_aaload C X34 A27 rfl (by decide) (v := (.ref r1)) rfl (pc' := 56) rfl d5_55 ?_
  refine go_iload C X34 58 rfl d5_56 rfl ?_
  refine go_aloadN C X34 59 rfl d5_58 rfl rfl ?_
  refine go_iloadN C X34 60 rfl d5_59 rfl ?_
  refine go_aaload C X34 A27 rfl (by decide) (v := (.ref r1)) rfl (pc' := 61) rfl d5_60 ?_
  refine go_iload C X34 63 rfl d5_61 rfl ?_
  refine go_iconst C X34 64 rfl d5_63 (z := 1) rfl ?_
  refine go_iaddL C X34 65 rfl d5_64 (z := (4)) rfl ?_
  refine go_laload C X34 A28 (by decide) (v := (.long (0 : Int64))) rfl (pc' := 66) rfl d5_65 ?_
  refine go_aloadN C X34 67 rfl d5_66 rfl rfl ?_
  refine go_getF C X34 (C.w 16 rfl) Via.refl F22 (pc' := 70) rfl d5_67 (fun T35 X36 => ?_)
  refine go_aloadN C X36 71 rfl d5_70 rfl rfl ?_
  refine go_getF C X36 (C.w 27 rfl) Via.refl F23 (pc' := 74) rfl d5_71 (fun T37 X38 => ?_)
  refine go_iload C X38 76 rfl d5_74 rfl ?_
  refine go_iaload C X38 A26 (by decide) (v := (.int m3)) rfl (pc' := 77) rfl d5_76 ?_
  refine go_iaload C X38 A25 b3.1 (v := (.int (at32 sz m3))) (ia_at b3.1 (by rw [hl]; exact b3.2)) (pc' := 78) rfl d5_77 ?_
  rw [z3]
  refine go_i2l C X38 79 rfl d5_78 ?_
  refine go_aloadN C X38 80 rfl d5_79 rfl rfl ?_
  refine go_iloadN C X38 81 rfl d5_80 rfl ?_
  refine go_iconst C X38 82 rfl d5_81 (z := 1) rfl ?_
  refine go_isubL C X38 83 rfl d5_82 (z := (0)) rfl ?_
  refine go_aaload C X38 A27 rfl (by decide) (v := (.ref r0)) rfl (pc' := 84) rfl d5_83 ?_
  refine go_iload C X38 86 rfl d5_84 rfl ?_
  refine go_iconst C X38 87 rfl d5_86 (z := 1) rfl ?_
  refine go_iaddL C X38 88 rfl d5_87 (z := (4)) rfl ?_
  refine go_laload C X38 A8 (by decide) (v := (.long (1 : Int64))) rfl (pc' := 89) rfl d5_88 ?_
  refine go_lmul C X38 90 rfl d5_89 ?_
  refine go_ladd C X38 91 rfl d5_90 ?_
  generalize et1 : ((0 : Int64) + ((s3.toInt64) * (1 : Int64))) = t1
  refine go_lastore C X38 A28 (by decide) (by show _ < (5 : Int); decide) ga_r1 (pc' := 92) rfl d5_91 (fun T39 h41 W42 A43 X40 => ?_)
  have E44 := E21.wr W42
  have F45 := F22.other W42 (Or.inl ne_a_r1)
  have F46 := F23.other W42 (Or.inl ne_a_r1)
  have F47 := F24.other W42 (Or.inl ne_a_r1)
  have A48 := A25.other W42 ne_sb_r1
  have A49 := A26.other W42 ne_mb_r1
  have A50 := A27.other W42 ne_ob_r1
  have A51 := A29.other W42 (Ne.symm ne_r1_r2)
  have A52 := A8.other W42 ne_r0_r1
  have K53 := K30.wr W42 (Or.inr sz_r1)
  replace A43 : La Z h41 r1 .long ([(.long (0 : Int64)), (.long (0 : Int64)), (.long (0 : Int64)), (.long t1), (.long (0 : Int64))]) := A43
  refine go_iinc C X40 95 rfl d5_92 rfl (z := (-1)) rfl #[rv a, iv (4 : Int32), rv ob, iv (1 : Int32), iv (2 : Int32)] rfl ?_
  refine go_goto C X40 d5_95 (pc' := 42) (by decide) (by decide) ?_
  refine go_iload C X40 44 rfl d5_42 rfl ?_
  refine go_aloadN C X40 45 rfl d5_44 rfl rfl ?_
  refine go_getF C X40 (C.w 35 rfl) Via.refl F47 (pc' := 48) rfl d5_45 (fun T54 X55 => ?_)
  refine go_iloadN C X55 49 rfl d5_48 rfl ?_
  refine go_isubL C X55 50 rfl d5_49 (z := (1)) rfl ?_
  refine go_icmp_lt C X55 d5_50 (pc' := 53) (pc2 := 98) rfl (by decide) (by decide) (fun (c50 : 2 < 1) => False.elim (by first | omega | exact absurd c50 (by decide))) (fun (c50 : 1 ≤ 2) => ?_)
  refine go_aloadN C X55 54 rfl d5_53 rfl rfl ?_
  refine go_iloadN C X55 55 rfl d5_54 rfl ?_
  refine go_aaload C X55 A50 rfl (by decide) (v := (.ref r1)) rfl (pc' := 56) rfl d5_55 ?_
  refine go_iload C X55 58 rfl d5_56 rfl ?_
  refine go_aloadN C X55 59 rfl d5_58 rfl rfl ?_
  refine go_iloadN C X55 60 rfl d5_59 rfl ?_
  refine go_aaload C X55 A50 rfl (by decide) (v := (.ref r1)) rfl (pc' := 61) rfl d5_60 ?_
  refine go_iload C X55 63 rfl d5_61 rfl ?_
  refine go_iconst C X55 64 rfl d5_63 (z := 1) rfl ?_
  refine go_iaddL C X55 65 rfl d5_64 (z := (3)) rfl ?_
  refine go_laload C X55 A43 (by decide) (v := (.long t1)) rfl (pc' := 66) rfl d5_65 ?_
  refine go_aloadN C X55 67 rfl d5_66 rfl rfl ?_
  refine go_getF C X55 (C.w 16 rfl) Via.refl F45 (pc' := 70) rfl d5_67 (fun T56 X57 => ?_)
  refine go_aloadN C X57 71 rfl d5_70 rfl rfl ?_
  refine go_getF C X57 (C.w 27 rfl) Via.refl F46 (pc' := 74) rfl d5_71 (fun T58 X59 => ?_)
  refine go_iload C X59 76 rfl d5_74 rfl ?_
  refine go_iaload C X59 A49 (by decide) (v := (.int m2)) rfl (pc' := 77) rfl d5_76 ?_
  refine go_iaload C X59 A48 b2.1 (v := (.int (at32 sz m2))) (ia_at b2.1 (by rw [hl]; exact b2.2)) (pc' := 78) rfl d5_77 ?_
  rw [z2]
  refine go_i2l C X59 79 rfl d5_78 ?_
  refine go_aloadN C X59 80 rfl d5_79 rfl rfl ?_
  refine go_iloadN C X59 81 rfl d5_80 rfl ?_
  refine go_iconst C X59 82 rfl d5_81 (z := 1) rfl ?_
  refine go_isubL C X59 83 rfl d5_82 (z := (0)) rfl ?_
  refine go_aaload C X59 A50 rfl (by decide) (v := (.ref r0)) rfl (pc' := 84) rfl d5_83 ?_
  refine go_iload C X59 86 rfl d5_84 rfl ?_
  refine go_iconst C X59 87 rfl d5_86 (z := 1) rfl ?_
  refine go_iaddL C X59 88 rfl d5_87 (z := (3)) rfl ?_
  refine go_laload C X59 A52 (by decide) (v := (.long (1 : Int64))) rfl (pc' := 89) rfl d5_88 ?_
  refine go_lmul C X59 90 rfl d5_89 ?_
  refine go_ladd C X59 91 rfl d5_90 ?_
  generalize et2 : (t1 + ((s2.toInt64) * (1 : Int64))) = t2
  refine go_lastore C X59 A43 (by decide) (by show _ < (5 : Int); decide) ga_r1 (pc' := 92) rfl d5_91 (fun T60 h62 W63 A64 X61 => ?_)
  have E65 := E44.wr W63
  have F66 := F45.other W63 (Or.inl ne_a_r1)
  have F67 := F46.other W63 (Or.inl ne_a_r1)
  have F68 := F47.other W63 (Or.inl ne_a_r1)
  have A69 := A48.other W63 ne_sb_r1
  have A70 := A49.other W63 ne_mb_r1
  have A71 := A50.other W63 ne_ob_r1
  have A72 := A51.other W63 (Ne.symm ne_r1_r2)
  have A73 := A52.other W63 ne_r0_r1
  have K74 := K53.wr W63 (Or.inr sz_r1)
  replace A64 : La Z h62 r1 .long ([(.long (0 : Int64)), (.long (0 : Int64)), (.long t2), (.long t1), (.long (0 : Int64))]) := A64
  refine go_iinc C X61 95 rfl d5_92 rfl (z := (-1)) rfl #[rv a, iv (4 : Int32), rv ob, iv (1 : Int32), iv (1 : Int32)] rfl ?_
  refine go_goto C X61 d5_95 (pc' := 42) (by decide) (by decide) ?_
  refine go_iload C X61 44 rfl d5_42 rfl ?_
  refine go_aloadN C X61 45 rfl d5_44 rfl rfl ?_
  refine go_getF C X61 (C.w 35 rfl) Via.refl F68 (pc' := 48) rfl d5_45 (fun T75 X76 => ?_)
  refine go_iloadN C X76 49 rfl d5_48 rfl ?_
  refine go_isubL C X76 50 rfl d5_49 (z := (1)) rfl ?_
  refine go_icmp_lt C X76 d5_50 (pc' := 53) (pc2 := 98) rfl (by decide) (by decide) (fun (c50 : 1 < 1) => False.elim (by first | omega | exact absurd c50 (by decide))) (fun (c50 : 1 ≤ 1) => ?_)
  refine go_aloadN C X76 54 rfl d5_53 rfl rfl ?_
  refine go_iloadN C X76 55 rfl d5_54 rfl ?_
  refine go_aaload C X76 A71 rfl (by decide) (v := (.ref r1)) rfl (pc' := 56) rfl d5_55 ?_
  refine go_iload C X76 58 rfl d5_56 rfl ?_
  refine go_aloadN C X76 59 rfl d5_58 rfl rfl ?_
  refine go_iloadN C X76 60 rfl d5_59 rfl ?_
  refine go_aaload C X76 A71 rfl (by decide) (v := (.ref r1)) rfl (pc' := 61) rfl d5_60 ?_
  refine go_iload C X76 63 rfl d5_61 rfl ?_
  refine go_iconst C X76 64 rfl d5_63 (z := 1) rfl ?_
  refine go_iaddL C X76 65 rfl d5_64 (z := (2)) rfl ?_
  refine go_laload C X76 A64 (by decide) (v := (.long t2)) rfl (pc' := 66) rfl d5_65 ?_
  refine go_aloadN C X76 67 rfl d5_66 rfl rfl ?_
  refine go_getF C X76 (C.w 16 rfl) Via.refl F66 (pc' := 70) rfl d5_67 (fun T77 X78 => ?_)
  refine go_aloadN C X78 71 rfl d5_70 rfl rfl ?_
  refine go_getF C X78 (C.w 27 rfl) Via.refl F67 (pc' := 74) rfl d5_71 (fun T79 X80 => ?_)
  refine go_iload C X80 76 rfl d5_74 rfl ?_
  refine go_iaload C X80 A70 (by decide) (v := (.int m1)) rfl (pc' := 77) rfl d5_76 ?_
  refine go_iaload C X80 A69 b1.1 (v := (.int (at32 sz m1))) (ia_at b1.1 (by rw [hl]; exact b1.2)) (pc' := 78) rfl d5_77 ?_
  rw [z1]
  refine go_i2l C X80 79 rfl d5_78 ?_
  refine go_aloadN C X80 80 rfl d5_79 rfl rfl ?_
  refine go_iloadN C X80 81 rfl d5_80 rfl ?_
  refine go_iconst C X80 82 rfl d5_81 (z := 1) rfl ?_
  refine go_isubL C X80 83 rfl d5_82 (z := (0)) rfl ?_
  refine go_aaload C X80 A71 rfl (by decide) (v := (.ref r0)) rfl (pc' := 84) rfl d5_83 ?_
  refine go_iload C X80 86 rfl d5_84 rfl ?_
  refine go_iconst C X80 87 rfl d5_86 (z := 1) rfl ?_
  refine go_iaddL C X80 88 rfl d5_87 (z := (2)) rfl ?_
  refine go_laload C X80 A73 (by decide) (v := (.long (1 : Int64))) rfl (pc' := 89) rfl d5_88 ?_
  refine go_lmul C X80 90 rfl d5_89 ?_
  refine go_ladd C X80 91 rfl d5_90 ?_
  generalize et3 : (t2 + ((s1.toInt64) * (1 : Int64))) = t3
  refine go_lastore C X80 A64 (by decide) (by show _ < (5 : Int); decide) ga_r1 (pc' := 92) rfl d5_91 (fun T81 h83 W84 A85 X82 => ?_)
  have E86 := E65.wr W84
  have F87 := F66.other W84 (Or.inl ne_a_r1)
  have F88 := F67.other W84 (Or.inl ne_a_r1)
  have F89 := F68.other W84 (Or.inl ne_a_r1)
  have A90 := A69.other W84 ne_sb_r1
  have A91 := A70.other W84 ne_mb_r1
  have A92 := A71.other W84 ne_ob_r1
  have A93 := A72.other W84 (Ne.symm ne_r1_r2)
  have A94 := A73.other W84 ne_r0_r1
  have K95 := K74.wr W84 (Or.inr sz_r1)
  replace A85 : La Z h83 r1 .long ([(.long (0 : Int64)), (.long t3), (.long t2), (.long t1), (.long (0 : Int64))]) := A85
  refine go_iinc C X82 95 rfl d5_92 rfl (z := (-1)) rfl #[rv a, iv (4 : Int32), rv ob, iv (1 : Int32), iv (0 : Int32)] rfl ?_
  refine go_goto C X82 d5_95 (pc' := 42) (by decide) (by decide) ?_
  refine go_iload C X82 44 rfl d5_42 rfl ?_
  refine go_aloadN C X82 45 rfl d5_44 rfl rfl ?_
  refine go_getF C X82 (C.w 35 rfl) Via.refl F89 (pc' := 48) rfl d5_45 (fun T96 X97 => ?_)
  refine go_iloadN C X97 49 rfl d5_48 rfl ?_
  refine go_isubL C X97 50 rfl d5_49 (z := (1)) rfl ?_
  refine go_icmp_lt C X97 d5_50 (pc' := 53) (pc2 := 98) rfl (by decide) (by decide) (fun (c50 : 0 < 1) => ?_) (fun (c50 : 1 ≤ 0) => False.elim (by first | omega | exact absurd c50 (by decide)))
  refine go_iinc C X97 101 rfl d5_98 rfl (z := 1) rfl #[rv a, iv (4 : Int32), rv ob, iv (2 : Int32), iv (0 : Int32)] rfl ?_
  refine go_goto C X97 d5_101 (pc' := 29) (by decide) (by decide) ?_
  refine go_iloadN C X97 30 rfl d5_29 rfl ?_
  refine go_aloadN C X97 31 rfl d5_30 rfl rfl ?_
  refine go_getF C X97 (C.w 35 rfl) Via.refl F89 (pc' := 34) rfl d5_31 (fun T98 X99 => ?_)
  refine go_icmp_gt C X99 d5_34 (pc' := 37) (pc2 := 104) rfl (by decide) (by decide) (fun (c34 : 2 < 2) => False.elim (by first | omega | exact absurd c34 (by decide))) (fun (c34 : 2 ≤ 2) => ?_)
  refine go_iloadN C X99 38 rfl d5_37 rfl ?_
  refine go_iconst C X99 39 rfl d5_38 (z := 1) rfl ?_
  refine go_isubL C X99 40 rfl d5_39 (z := (3)) rfl ?_
  refine go_istore C X99 42 rfl d5_40 #[rv a, iv (4 : Int32), rv ob, iv (2 : Int32), iv (3 : Int32)] rfl ?_
  refine go_iload C X99 44 rfl d5_42 rfl ?_
  refine go_aloadN C X99 45 rfl d5_44 rfl rfl ?_
  refine go_getF C X99 (C.w 35 rfl) Via.refl F89 (pc' := 48) rfl d5_45 (fun T100 X101 => ?_)
  refine go_iloadN C X101 49 rfl d5_48 rfl ?_
  refine go_isubL C X101 50 rfl d5_49 (z := (0)) rfl ?_
  refine go_icmp_lt C X101 d5_50 (pc' := 53) (pc2 := 98) rfl (by decide) (by decide) (fun (c50 : 3 < 0) => False.elim (by first | omega | exact absurd c50 (by decide))) (fun (c50 : 0 ≤ 3) => ?_)
  refine go_aloadN C X101 54 rfl d5_53 rfl rfl ?_
  refine go_iloadN C X101 55 rfl d5_54 rfl ?_
  refine go_aaload C X101 A92 rfl (by decide) (v := (.ref r2)) rfl (pc' := 56) rfl d5_55 ?_
  refine go_iload C X101 58 rfl d5_56 rfl ?_
  refine go_aloadN C X101 59 rfl d5_58 rfl rfl ?_
  refine go_iloadN C X101 60 rfl d5_59 rfl ?_
  refine go_aaload C X101 A92 rfl (by decide) (v := (.ref r2)) rfl (pc' := 61) rfl d5_60 ?_
  refine go_iload C X101 63 rfl d5_61 rfl ?_
  refine go_iconst C X101 64 rfl d5_63 (z := 1) rfl ?_
  refine go_iaddL C X101 65 rfl d5_64 (z := (4)) rfl ?_
  refine go_laload C X101 A93 (by decide) (v := (.long (0 : Int64))) rfl (pc' := 66) rfl d5_65 ?_
  refine go_aloadN C X101 67 rfl d5_66 rfl rfl ?_
  refine go_getF C X101 (C.w 16 rfl) Via.refl F87 (pc' := 70) rfl d5_67 (fun T102 X103 => ?_)
  refine go_aloadN C X103 71 rfl d5_70 rfl rfl ?_
  refine go_getF C X103 (C.w 27 rfl) Via.refl F88 (pc' := 74) rfl d5_71 (fun T104 X105 => ?_)
  refine go_iload C X105 76 rfl d5_74 rfl ?_
  refine go_iaload C X105 A91 (by decide) (v := (.int m3)) rfl (pc' := 77) rfl d5_76 ?_
  refine go_iaload C X105 A90 b3.1 (v := (.int (at32 sz m3))) (ia_at b3.1 (by rw [hl]; exact b3.2)) (pc' := 78) rfl d5_77 ?_
  rw [z3]
  refine go_i2l C X105 79 rfl d5_78 ?_
  refine go_aloadN C X105 80 rfl d5_79 rfl rfl ?_
  refine go_iloadN C X105 81 rfl d5_80 rfl ?_
  refine go_iconst C X105 82 rfl d5_81 (z := 1) rfl ?_
  refine go_isubL C X105 83 rfl d5_82 (z := (1)) rfl ?_
  refine go_aaload C X105 A92 rfl (by decide) (v := (.ref r1)) rfl (pc' := 84) rfl d5_83 ?_
  refine go_iload C X105 86 rfl d5_84 rfl ?_
  refine go_iconst C X105 87 rfl d5_86 (z := 1) rfl ?_
  refine go_iaddL C X105 88 rfl d5_87 (z := (4)) rfl ?_
  refine go_laload C X105 A85 (by decide) (v := (.long (0 : Int64))) rfl (pc' := 89) rfl d5_88 ?_
  refine go_lmul C X105 90 rfl d5_89 ?_
  refine go_ladd C X105 91 rfl d5_90 ?_
  generalize et4 : ((0 : Int64) + ((s3.toInt64) * (0 : Int64))) = t4
  refine go_lastore C X105 A93 (by decide) (by show _ < (5 : Int); decide) ga_r2 (pc' := 92) rfl d5_91 (fun T106 h108 W109 A110 X107 => ?_)
  have E111 := E86.wr W109
  have F112 := F87.other W109 (Or.inl ne_a_r2)
  have F113 := F88.other W109 (Or.inl ne_a_r2)
  have F114 := F89.other W109 (Or.inl ne_a_r2)
  have A115 := A90.other W109 ne_sb_r2
  have A116 := A91.other W109 ne_mb_r2
  have A117 := A92.other W109 ne_ob_r2
  have A118 := A85.other W109 ne_r1_r2
  have A119 := A94.other W109 ne_r0_r2
  have K120 := K95.wr W109 (Or.inr sz_r2)
  replace A110 : La Z h108 r2 .long ([(.long (0 : Int64)), (.long (0 : Int64)), (.long (0 : Int64)), (.long t4), (.long (0 : Int64))]) := A110
  refine go_iinc C X107 95 rfl d5_92 rfl (z := (-1)) rfl #[rv a, iv (4 : Int32), rv ob, iv (2 : Int32), iv (2 : Int32)] rfl ?_
  refine go_goto C X107 d5_95 (pc' := 42) (by decide) (by decide) ?_
  refine go_iload C X107 44 rfl d5_42 rfl ?_
  refine go_aloadN C X107 45 rfl d5_44 rfl rfl ?_
  refine go_getF C X107 (C.w 35 rfl) Via.refl F114 (pc' := 48) rfl d5_45 (fun T121 X122 => ?_)
  refine go_iloadN C X122 49 rfl d5_48 rfl ?_
  refine go_isubL C X122 50 rfl d5_49 (z := (0)) rfl ?_
  refine go_icmp_lt C X122 d5_50 (pc' := 53) (pc2 := 98) rfl (by decide) (by decide) (fun (c50 : 2 < 0) => False.elim (by first | omega | exact absurd c50 (by decide))) (fun (c50 : 0 ≤ 2) => ?_)
  refine go_aloadN C X122 54 rfl d5_53 rfl rfl ?_
  refine go_iloadN C X122 55 rfl d5_54 rfl ?_
  refine go_aaload C X122 A117 rfl (by decide) (v := (.ref r2)) rfl (pc' := 56) rfl d5_55 ?_
  refine go_iload C X122 58 rfl d5_56 rfl ?_
  refine go_aloadN C X122 59 rfl d5_58 rfl rfl ?_
  refine go_iloadN C X122 60 rfl d5_59 rfl ?_
  refine go_aaload C X122 A117 rfl (by decide) (v := (.ref r2)) rfl (pc' := 61) rfl d5_60 ?_
  refine go_iload C X122 63 rfl d5_61 rfl ?_
  refine go_iconst C X122 64 rfl d5_63 (z := 1) rfl ?_
  refine go_iaddL C X122 65 rfl d5_64 (z := (3)) rfl ?_
  refine go_laload C X122 A110 (by decide) (v := (.long t4)) rfl (pc' := 66) rfl d5_65 ?_
  refine go_aloadN C X122 67 rfl d5_66 rfl rfl ?_
  refine go_getF C X122 (C.w 16 rfl) Via.refl F112 (pc' := 70) rfl d5_67 (fun T123 X124 => ?_)
  refine go_aloadN C X124 71 rfl d5_70 rfl rfl ?_
  refine go_getF C X124 (C.w 27 rfl) Via.refl F113 (pc' := 74) rfl d5_71 (fun T125 X126 => ?_)
  refine go_iload C X126 76 rfl d5_74 rfl ?_
  refine go_iaload C X126 A116 (by decide) (v := (.int m2)) rfl (pc' := 77) rfl d5_76 ?_
  refine go_iaload C X126 A115 b2.1 (v := (.int (at32 sz m2))) (ia_at b2.1 (by rw [hl]; exact b2.2)) (pc' := 78) rfl d5_77 ?_
  rw [z2]
  refine go_i2l C X126 79 rfl d5_78 ?_
  refine go_aloadN C X126 80 rfl d5_79 rfl rfl ?_
  refine go_iloadN C X126 81 rfl d5_80 rfl ?_
  refine go_iconst C X126 82 rfl d5_81 (z := 1) rfl ?_
  refine go_isubL C X126 83 rfl d5_82 (z := (1)) rfl ?_
  refine go_aaload C X126 A117 rfl (by decide) (v := (.ref r1)) rfl (pc' := 84) rfl d5_83 ?_
  refine go_iload C X126 86 rfl d5_84 rfl ?_
  refine go_iconst C X126 87 rfl d5_86 (z := 1) rfl ?_
  refine go_iaddL C X126 88 rfl d5_87 (z := (3)) rfl ?_
  refine go_laload C X126 A118 (by decide) (v := (.long t1)) rfl (pc' := 89) rfl d5_88 ?_
  refine go_lmul C X126 90 rfl d5_89 ?_
  refine go_ladd C X126 91 rfl d5_90 ?_
  generalize et5 : (t4 + ((s2.toInt64) * t1)) = t5
  refine go_lastore C X126 A110 (by decide) (by show _ < (5 : Int); decide) ga_r2 (pc' := 92) rfl d5_91 (fun T127 h129 W130 A131 X128 => ?_)
  have E132 := E111.wr W130
  have F133 := F112.other W130 (Or.inl ne_a_r2)
  have F134 := F113.other W130 (Or.inl ne_a_r2)
  have F135 := F114.other W130 (Or.inl ne_a_r2)
  have A136 := A115.other W130 ne_sb_r2
  have A137 := A116.other W130 ne_mb_r2
  have A138 := A117.other W130 ne_ob_r2
  have A139 := A118.other W130 ne_r1_r2
  have A140 := A119.other W130 ne_r0_r2
  have K141 := K120.wr W130 (Or.inr sz_r2)
  replace A131 : La Z h129 r2 .long ([(.long (0 : Int64)), (.long (0 : Int64)), (.long t5), (.long t4), (.long (0 : Int64))]) := A131
  refine go_iinc C X128 95 rfl d5_92 rfl (z := (-1)) rfl #[rv a, iv (4 : Int32), rv ob, iv (2 : Int32), iv (1 : Int32)] rfl ?_
  refine go_goto C X128 d5_95 (pc' := 42) (by decide) (by decide) ?_
  refine go_iload C X128 44 rfl d5_42 rfl ?_
  refine go_aloadN C X128 45 rfl d5_44 rfl rfl ?_
  refine go_getF C X128 (C.w 35 rfl) Via.refl F135 (pc' := 48) rfl d5_45 (fun T142 X143 => ?_)
  refine go_iloadN C X143 49 rfl d5_48 rfl ?_
  refine go_isubL C X143 50 rfl d5_49 (z := (0)) rfl ?_
  refine go_icmp_lt C X143 d5_50 (pc' := 53) (pc2 := 98) rfl (by decide) (by decide) (fun (c50 : 1 < 0) => False.elim (by first | omega | exact absurd c50 (by decide))) (fun (c50 : 0 ≤ 1) => ?_)
  refine go_aloadN C X143 54 rfl d5_53 rfl rfl ?_
  refine go_iloadN C X143 55 rfl d5_54 rfl ?_
  refine go_aaload C X143 A138 rfl (by decide) (v := (.ref r2)) rfl (pc' := 56) rfl d5_55 ?_
  refine go_iload C X143 58 rfl d5_56 rfl ?_
  refine go_aloadN C X143 59 rfl d5_58 rfl rfl ?_
  refine go_iloadN C X143 60 rfl d5_59 rfl ?_
  refine go_aaload C X143 A138 rfl (by decide) (v := (.ref r2)) rfl (pc' := 61) rfl d5_60 ?_
  refine go_iload C X143 63 rfl d5_61 rfl ?_
  refine go_iconst C X143 64 rfl d5_63 (z := 1) rfl ?_
  refine go_iaddL C X143 65 rfl d5_64 (z := (2)) rfl ?_
  refine go_laload C X143 A131 (by decide) (v := (.long t5)) rfl (pc' := 66) rfl d5_65 ?_
  refine go_aloadN C X143 67 rfl d5_66 rfl rfl ?_
  refine go_getF C X143 (C.w 16 rfl) Via.refl F133 (pc' := 70) rfl d5_67 (fun T144 X145 => ?_)
  refine go_aloadN C X145 71 rfl d5_70 rfl rfl ?_
  refine go_getF C X145 (C.w 27 rfl) Via.refl F134 (pc' := 74) rfl d5_71 (fun T146 X147 => ?_)
  refine go_iload C X147 76 rfl d5_74 rfl ?_
  refine go_iaload C X147 A137 (by decide) (v := (.int m1)) rfl (pc' := 77) rfl d5_76 ?_
  refine go_iaload C X147 A136 b1.1 (v := (.int (at32 sz m1))) (ia_at b1.1 (by rw [hl]; exact b1.2)) (pc' := 78) rfl d5_77 ?_
  rw [z1]
  refine go_i2l C X147 79 rfl d5_78 ?_
  refine go_aloadN C X147 80 rfl d5_79 rfl rfl ?_
  refine go_iloadN C X147 81 rfl d5_80 rfl ?_
  refine go_iconst C X147 82 rfl d5_81 (z := 1) rfl ?_
  refine go_isubL C X147 83 rfl d5_82 (z := (1)) rfl ?_
  refine go_aaload C X147 A138 rfl (by decide) (v := (.ref r1)) rfl (pc' := 84) rfl d5_83 ?_
  refine go_iload C X147 86 rfl d5_84 rfl ?_
  refine go_iconst C X147 87 rfl d5_86 (z := 1) rfl ?_
  refine go_iaddL C X147 88 rfl d5_87 (z := (2)) rfl ?_
  refine go_laload C X147 A139 (by decide) (v := (.long t2)) rfl (pc' := 89) rfl d5_88 ?_
  refine go_lmul C X147 90 rfl d5_89 ?_
  refine go_ladd C X147 91 rfl d5_90 ?_
  generalize et6 : (t5 + ((s1.toInt64) * t2)) = t6
  refine go_lastore C X147 A131 (by decide) (by show _ < (5 : Int); decide) ga_r2 (pc' := 92) rfl d5_91 (fun T148 h150 W151 A152 X149 => ?_)
  have E153 := E132.wr W151
  have F154 := F133.other W151 (Or.inl ne_a_r2)
  have F155 := F134.other W151 (Or.inl ne_a_r2)
  have F156 := F135.other W151 (Or.inl ne_a_r2)
  have A157 := A136.other W151 ne_sb_r2
  have A158 := A137.other W151 ne_mb_r2
  have A159 := A138.other W151 ne_ob_r2
  have A160 := A139.other W151 ne_r1_r2
  have A161 := A140.other W151 ne_r0_r2
  have K162 := K141.wr W151 (Or.inr sz_r2)
  replace A152 : La Z h150 r2 .long ([(.long (0 : Int64)), (.long t6), (.long t5), (.long t4), (.long (0 : Int64))]) := A152
  refine go_iinc C X149 95 rfl d5_92 rfl (z := (-1)) rfl #[rv a, iv (4 : Int32), rv ob, iv (2 : Int32), iv (0 : Int32)] rfl ?_
  refine go_goto C X149 d5_95 (pc' := 42) (by decide) (by decide) ?_
  refine go_iload C X149 44 rfl d5_42 rfl ?_
  refine go_aloadN C X149 45 rfl d5_44 rfl rfl ?_
  refine go_getF C X149 (C.w 35 rfl) Via.refl F156 (pc' := 48) rfl d5_45 (fun T163 X164 => ?_)
  refine go_iloadN C X164 49 rfl d5_48 rfl ?_
  refine go_isubL C X164 50 rfl d5_49 (z := (0)) rfl ?_
  refine go_icmp_lt C X164 d5_50 (pc' := 53) (pc2 := 98) rfl (by decide) (by decide) (fun (c50 : 0 < 0) => False.elim (by first | omega | exact absurd c50 (by decide))) (fun (c50 : 0 ≤ 0) => ?_)
  refine go_aloadN C X164 54 rfl d5_53 rfl rfl ?_
  refine go_iloadN C X164 55 rfl d5_54 rfl ?_
  refine go_aaload C X164 A159 rfl (by decide) (v := (.ref r2)) rfl (pc' := 56) rfl d5_55 ?_
  refine go_iload C X164 58 rfl d5_56 rfl ?_
  refine go_aloadN C X164 59 rfl d5_58 rfl rfl ?_
  refine go_iloadN C X164 60 rfl d5_59 rfl ?_
  refine go_aaload C X164 A159 rfl (by decide) (v := (.ref r2)) rfl (pc' := 61) rfl d5_60 ?_
  refine go_iload C X164 63 rfl d5_61 rfl ?_
  refine go_iconst C X164 64 rfl d5_63 (z := 1) rfl ?_
  refine go_iaddL C X164 65 rfl d5_64 (z := (1)) rfl ?_
  refine go_laload C X164 A152 (by decide) (v := (.long t6)) rfl (pc' := 66) rfl d5_65 ?_
  refine go_aloadN C X164 67 rfl d5_66 rfl rfl ?_
  refine go_getF C X164 (C.w 16 rfl) Via.refl F154 (pc' := 70) rfl d5_67 (fun T165 X166 => ?_)
  refine go_aloadN C X166 71 rfl d5_70 rfl rfl ?_
  refine go_getF C X166 (C.w 27 rfl) Via.refl F155 (pc' := 74) rfl d5_71 (fun T167 X168 => ?_)
  refine go_iload C X168 76 rfl d5_74 rfl ?_
  refine go_iaload C X168 A158 (by decide) (v := (.int m0)) rfl (pc' := 77) rfl d5_76 ?_
  refine go_iaload C X168 A157 b0.1 (v := (.int (at32 sz m0))) (ia_at b0.1 (by rw [hl]; exact b0.2)) (pc' := 78) rfl d5_77 ?_
  rw [z0]
  refine go_i2l C X168 79 rfl d5_78 ?_
  refine go_aloadN C X168 80 rfl d5_79 rfl rfl ?_
  refine go_iloadN C X168 81 rfl d5_80 rfl ?_
  refine go_iconst C X168 82 rfl d5_81 (z := 1) rfl ?_
  refine go_isubL C X168 83 rfl d5_82 (z := (1)) rfl ?_
  refine go_aaload C X168 A159 rfl (by decide) (v := (.ref r1)) rfl (pc' := 84) rfl d5_83 ?_
  refine go_iload C X168 86 rfl d5_84 rfl ?_
  refine go_iconst C X168 87 rfl d5_86 (z := 1) rfl ?_
  refine go_iaddL C X168 88 rfl d5_87 (z := (1)) rfl ?_
  refine go_laload C X168 A160 (by decide) (v := (.long t3)) rfl (pc' := 89) rfl d5_88 ?_
  refine go_lmul C X168 90 rfl d5_89 ?_
  refine go_ladd C X168 91 rfl d5_90 ?_
  generalize et7 : (t6 + ((s0.toInt64) * t3)) = t7
  refine go_lastore C X168 A152 (by decide) (by show _ < (5 : Int); decide) ga_r2 (pc' := 92) rfl d5_91 (fun T169 h171 W172 A173 X170 => ?_)
  have E174 := E153.wr W172
  have F175 := F154.other W172 (Or.inl ne_a_r2)
  have F176 := F155.other W172 (Or.inl ne_a_r2)
  have F177 := F156.other W172 (Or.inl ne_a_r2)
  have A178 := A157.other W172 ne_sb_r2
  have A179 := A158.other W172 ne_mb_r2
  have A180 := A159.other W172 ne_ob_r2
  have A181 := A160.other W172 ne_r1_r2
  have A182 := A161.other W172 ne_r0_r2
  have K183 := K162.wr W172 (Or.inr sz_r2)
  replace A173 : La Z h171 r2 .long ([(.long t7), (.long t6), (.long t5), (.long t4), (.long (0 : Int64))]) := A173
  refine go_iinc C X170 95 rfl d5_92 rfl (z := (-1)) rfl #[rv a, iv (4 : Int32), rv ob, iv (2 : Int32), iv (-1 : Int32)] rfl ?_
  refine go_goto C X170 d5_95 (pc' := 42) (by decide) (by decide) ?_
  refine go_iload C X170 44 rfl d5_42 rfl ?_
  refine go_aloadN C X170 45 rfl d5_44 rfl rfl ?_
  refine go_getF C X170 (C.w 35 rfl) Via.refl F177 (pc' := 48) rfl d5_45 (fun T184 X185 => ?_)
  refine go_iloadN C X185 49 rfl d5_48 rfl ?_
  refine go_isubL C X185 50 rfl d5_49 (z := (0)) rfl ?_
  refine go_icmp_lt C X185 d5_50 (pc' := 53) (pc2 := 98) rfl (by decide) (by decide) (fun (c50 : (-1) < 0) => ?_) (fun (c50 : 0 ≤ (-1)) => False.elim (by first | omega | exact absurd c50 (by decide)))
  refine go_iinc C X185 101 rfl d5_98 rfl (z := 1) rfl #[rv a, iv (4 : Int32), rv ob, iv (3 : Int32), iv (-1 : Int32)] rfl ?_
  refine go_goto C X185 d5_101 (pc' := 29) (by decide) (by decide) ?_
  refine go_iloadN C X185 30 rfl d5_29 rfl ?_
  refine go_aloadN C X185 31 rfl d5_30 rfl rfl ?_
  refine go_getF C X185 (C.w 35 rfl) Via.refl F177 (pc' := 34) rfl d5_31 (fun T186 X187 => ?_)
  refine go_icmp_gt C X187 d5_34 (pc' := 37) (pc2 := 104) rfl (by decide) (by decide) (fun (c34 : 2 < 3) => ?_) (fun (c34 : 3 ≤ 2) => False.elim (by first | omega | exact absurd c34 (by decide)))
  refine go_aloadN C X187 105 rfl d5_104 rfl rfl ?_
  exact go_retA C X187 d5_105 rfl rfl (by subst et7; subst et6; subst et5; subst et4; subst et3; subst et2; subst et1; exact ⟨ob, r0, r1, r2, rfl, K183, sz_ob, sz_r0, sz_r1, sz_r2, A180, A182, A181, A173⟩) (by decide) (by decide)
theorem ef_own_suf_3 (m : MethodId) (a : Addr)  : entryFrame m #[(.ref a)] 5 = mkF m 0 #[rv a, un, un, un, un] [] := by
  first | (simp [entryFrame, mkF, argsToLocals, Value.category]; done) | rfl
set_option maxRecDepth 65536 in
set_option maxHeartbeats 40000000 in
theorem own_suf_3 (l : Launch) (Z : State) (a0 : Array Value) (hw : ∀ d ∈ tables_1, d.before a0 Z = true) (a : Addr) (sb mb : Addr) (sz : List Int32) (m0 m1 m2 m3 s0 s1 s2 s3 : Int32) (h : Heap) (n0 : Nat) (hn0 : Old Z n0 h) (E0 : Exa Z h a "com/example/covertide/covertide/engine/ParameterSets") (F1 : Fld Z h a "com/example/covertide/covertide/engine/ParameterSets" "sizes" "[I" (.ref sb)) (F2 : Fld Z h a "com/example/covertide/covertide/engine/ParameterSets" "members" "[I" (.ref mb)) (F3 : Fld Z h a "com/example/covertide/covertide/engine/ParameterSets" "size" "I" (.int 3)) (A1 : La Z h sb .int (ia sz)) (A2 : La Z h mb .int [(.int m0), (.int m1), (.int m2), (.int m3)]) (hl : sz.length = 5) (b0 : 0 ≤ m0.toInt ∧ m0.toInt < (5 : Nat)) (z0 : at32 sz m0 = s0) (b1 : 0 ≤ m1.toInt ∧ m1.toInt < (5 : Nat)) (z1 : at32 sz m1 = s1) (b2 : 0 ≤ m2.toInt ∧ m2.toInt < (5 : Nat)) (z2 : at32 sz m2 = s2) (b3 : 0 ≤ m3.toInt ∧ m3.toInt < (5 : Nat)) (z3 : at32 sz m3 = s3) :
    Con l Z (⟨"com/example/covertide/covertide/engine/ParameterSets", "suffixSums", "()[[J"⟩ : MethodName) prog_10_method_14_code 5 (some (.array (.array .long))) ({ frames := 1, cells := 5, slots := 24, locals := 16 } : Room) #[(.ref a)] h n0 (fun v h' => ∃ ob r0 r1 r2 r3 : Addr, v = some (.ref ob) ∧ Keep h h' [] ∧ h.size ≤ ob ∧ h.size ≤ r0 ∧ h.size ≤ r1 ∧ h.size ≤ r2 ∧ h.size ≤ r3 ∧ La Z h' ob (.array .long) [(.ref r0), (.ref r1), (.ref r2), (.ref r3)] ∧ La Z h' r0 .long [(.long (1 : Int64)), (.long (1 : Int64)), (.long (1 : Int64)), (.long (1 : Int64)), (.long (1 : Int64))] ∧ La Z h' r1 .long [(.long (0 : Int64)), (.long (0 : Int64)), (.long (((0 : Int64) + (s3.toInt64 * (1 : Int64))) + (s2.toInt64 * (1 : Int64)))), (.long ((0 : Int64) + (s3.toInt64 * (1 : Int64)))), (.long (0 : Int64))] ∧ La Z h' r2 .long [(.long (0 : Int64)), (.long ((((0 : Int64) + (s3.toInt64 * (0 : Int64))) + (s2.toInt64 * ((0 : Int64) + (s3.toInt64 * (1 : Int64))))) + (s1.toInt64 * (((0 : Int64) + (s3.toInt64 * (1 : Int64))) + (s2.toInt64 * (1 : Int64)))))), (.long (((0 : Int64) + (s3.toInt64 * (0 : Int64))) + (s2.toInt64 * ((0 : Int64) + (s3.toInt64 * (1 : Int64)))))), (.long ((0 : Int64) + (s3.toInt64 * (0 : Int64)))), (.long (0 : Int64))] ∧ La Z h' r3 .long [(.long (((((0 : Int64) + (s3.toInt64 * (0 : Int64))) + (s2.toInt64 * ((0 : Int64) + (s3.toInt64 * (0 : Int64))))) + (s1.toInt64 * (((0 : Int64) + (s3.toInt64 * (0 : Int64))) + (s2.toInt64 * ((0 : Int64) + (s3.toInt64 * (1 : Int64))))))) + (s0.toInt64 * ((((0 : Int64) + (s3.toInt64 * (0 : Int64))) + (s2.toInt64 * ((0 : Int64) + (s3.toInt64 * (1 : Int64))))) + (s1.toInt64 * (((0 : Int64) + (s3.toInt64 * (1 : Int64))) + (s2.toInt64 * (1 : Int64)))))))), (.long ((((0 : Int64) + (s3.toInt64 * (0 : Int64))) + (s2.toInt64 * ((0 : Int64) + (s3.toInt64 * (0 : Int64))))) + (s1.toInt64 * (((0 : Int64) + (s3.toInt64 * (0 : Int64))) + (s2.toInt64 * ((0 : Int64) + (s3.toInt64 * (1 : Int64)))))))), (.long (((0 : Int64) + (s3.toInt64 * (0 : Int64))) + (s2.toInt64 * ((0 : Int64) + (s3.toInt64 * (0 : Int64)))))), (.long ((0 : Int64) + (s3.toInt64 * (0 : Int64)))), (.long (0 : Int64))]) := by
  refine con_of hw (plainFor_of_name pn_com_example_covertide_covertide_engine_ParameterSets) hn0 ?_
  intro p e s m below meth c T0 C X0
  refine Go.cast (congrArg T0.setTop (ef_own_suf_3 m a)) ?_
  refine go_aloadN C X0 1 rfl d5_0 rfl rfl ?_
  refine go_getF C X0 (C.w 27 rfl) Via.refl F2 (pc' := 4) rfl d5_1 (fun T1 X2 => ?_)
  refine go_alen C X2 A2 (z := (4 : Int32)) rfl (pc' := 5) rfl d5_4 ?_
  refine go_istoreN C X2 6 rfl d5_5 #[rv a, iv (4 : Int32), un, un, un] rfl ?_
  refine go_aloadN C X2 7 rfl d5_6 rfl rfl ?_
  refine go_getF C X2 (C.w 35 rfl) Via.refl F3 (pc' := 10) rfl d5_7 (fun T3 X4 => ?_)
  refine go_iconst C X4 11 rfl d5_10 (z := 1) rfl ?_
  refine go_iaddL C X4 12 rfl d5_11 (z := (4)) rfl ?_
  refine go_iloadN C X4 13 rfl d5_12 rfl ?_
  refine go_iconst C X4 14 rfl d5_13 (z := 1) rfl ?_
  refine go_iaddL C X4 15 rfl d5_14 (z := (5)) rfl ?_
  refine go_multi2 C X4 (ty := .long) (by decide) (C.w 43 rfl) (C.w 44 rfl) (C.w 45 rfl) (by decide) (by decide) (by decide) (by decide) (by decide) rfl rfl (by decide) (by decide) (pc' := 19) rfl d5_15 (fun T5 h7 ob ha_ob ga_ob E8 A9 AR10 X6 => ?_)
  have ne_a_ob : a ≠ ob := Nat.ne_of_lt (Nat.lt_of_lt_of_le E0.lt (Nat.le_of_eq ha_ob.symm))
  have ne_sb_ob : sb ≠ ob := Nat.ne_of_lt (Nat.lt_of_lt_of_le A1.lt (Nat.le_of_eq ha_ob.symm))
  have ne_mb_ob : mb ≠ ob := Nat.ne_of_lt (Nat.lt_of_lt_of_le A2.lt (Nat.le_of_eq ha_ob.symm))
  have sz_ob : h.size ≤ ob := Nat.le_trans (Keep.refl h []).1 (Nat.le_of_eq ha_ob.symm)
  obtain ⟨r0, er_r0⟩ : ∃ z, z = ob + 1 + 0 := ⟨_, rfl⟩
  have ne_a_r0 : a ≠ r0 := Nat.ne_of_lt (Nat.lt_of_lt_of_le E0.lt (by rw [er_r0, ha_ob]; exact Nat.le_trans (Nat.le_add_right _ 1) (Nat.le_add_right _ _)))
  have ne_sb_r0 : sb ≠ r0 := Nat.ne_of_lt (Nat.lt_of_lt_of_le A1.lt (by rw [er_r0, ha_ob]; exact Nat.le_trans (Nat.le_add_right _ 1) (Nat.le_add_right _ _)))
  have ne_mb_r0 : mb ≠ r0 := Nat.ne_of_lt (Nat.lt_of_lt_of_le A2.lt (by rw [er_r0, ha_ob]; exact Nat.le_trans (Nat.le_add_right _ 1) (Nat.le_add_right _ _)))
  have ne_ob_r0 : ob ≠ r0 := by rw [er_r0]; intro q; replace q : (_ : Nat) = _ := q; omega
  have ga_r0 : n0 ≤ r0 := by rw [er_r0]; exact Nat.le_trans ga_ob (Nat.le_trans (Nat.le_add_right _ 1) (Nat.le_add_right _ _))
  have sz_r0 : h.size ≤ r0 := by rw [er_r0]; exact Nat.le_trans sz_ob (Nat.le_trans (Nat.le_add_right _ 1) (Nat.le_add_right _ _))
  have AR_r0 : La Z h7 r0 .long [.long 0, .long 0, .long 0, .long 0, .long 0] := er_r0 ▸ AR10 0 (by decide)
  obtain ⟨r1, er_r1⟩ : ∃ z, z = ob + 1 + 1 := ⟨_, rfl⟩
  have ne_a_r1 : a ≠ r1 := Nat.ne_of_lt (Nat.lt_of_lt_of_le E0.lt (by rw [er_r1, ha_ob]; exact Nat.le_trans (Nat.le_add_right _ 1) (Nat.le_add_right _ _)))
  have ne_sb_r1 : sb ≠ r1 := Nat.ne_of_lt (Nat.lt_of_lt_of_le A1.lt (by rw [er_r1, ha_ob]; exact Nat.le_trans (Nat.le_add_right _ 1) (Nat.le_add_right _ _)))
  have ne_mb_r1 : mb ≠ r1 := Nat.ne_of_lt (Nat.lt_of_lt_of_le A2.lt (by rw [er_r1, ha_ob]; exact Nat.le_trans (Nat.le_add_right _ 1) (Nat.le_add_right _ _)))
  have ne_ob_r1 : ob ≠ r1 := by rw [er_r1]; intro q; replace q : (_ : Nat) = _ := q; omega
  have ne_r0_r1 : r0 ≠ r1 := by rw [er_r0]; rw [er_r1]; intro q; replace q : (_ : Nat) = _ := q; omega
  have ga_r1 : n0 ≤ r1 := by rw [er_r1]; exact Nat.le_trans ga_ob (Nat.le_trans (Nat.le_add_right _ 1) (Nat.le_add_right _ _))
  have sz_r1 : h.size ≤ r1 := by rw [er_r1]; exact Nat.le_trans sz_ob (Nat.le_trans (Nat.le_add_right _ 1) (Nat.le_add_right _ _))
  have AR_r1 : La Z h7 r1 .long [.long 0, .long 0, .long 0, .long 0, .long 0] := er_r1 ▸ AR10 1 (by decide)
  obtain ⟨r2, er_r2⟩ : ∃ z, z = ob + 1 + 2 := ⟨_, rfl⟩
  have ne_a_r2 : a ≠ r2 := Nat.ne_of_lt (Nat.lt_of_lt_of_le E0.lt (by rw [er_r2, ha_ob]; exact Nat.le_trans (Nat.le_add_right _ 1) (Nat.le_add_right _ _)))
  have ne_sb_r2 : sb ≠ r2 := Nat.ne_of_lt (Nat.lt_of_lt_of_le A1.lt (by rw [er_r2, ha_ob]; exact Nat.le_trans (Nat.le_add_right _ 1) (Nat.le_add_right _ _)))
  have ne_mb_r2 : mb ≠ r2 := Nat.ne_of_lt (Nat.lt_of_lt_of_le A2.lt (by rw [er_r2, ha_ob]; exact Nat.le_trans (Nat.le_add_right _ 1) (Nat.le_add_right _ _)))
  have ne_ob_r2 : ob ≠ r2 := by rw [er_r2]; intro q; replace q : (_ : Nat) = _ := q; omega
  have ne_r0_r2 : r0 ≠ r2 := by rw [er_r0]; rw [er_r2]; intro q; replace q : (_ : Nat) = _ := q; omega
  have ne_r1_r2 : r1 ≠ r2 := by rw [er_r1]; rw [er_r2]; intro q; replace q : (_ : Nat) = _ := q; omega
  have ga_r2 : n0 ≤ r2 := by rw [er_r2]; exact Nat.le_trans ga_ob (Nat.le_trans (Nat.le_add_right _ 1) (Nat.le_add_right _ _))
  have sz_r2 : h.size ≤ r2 := by rw [er_r2]; exact Nat.le_trans sz_ob (Nat.le_trans (Nat.le_add_right _ 1) (Nat.le_add_right _ _))
  have AR_r2 : La Z h7 r2 .long [.long 0, .long 0, .long 0, .long 0, .long 0] := er_r2 ▸ AR10 2 (by decide)
  obtain ⟨r3, er_r3⟩ : ∃ z, z = ob + 1 + 3 := ⟨_, rfl⟩
  have ne_a_r3 : a ≠ r3 := Nat.ne_of_lt (Nat.lt_of_lt_of_le E0.lt (by rw [er_r3, ha_ob]; exact Nat.le_trans (Nat.le_add_right _ 1) (Nat.le_add_right _ _)))
  have ne_sb_r3 : sb ≠ r3 := Nat.ne_of_lt (Nat.lt_of_lt_of_le A1.lt (by rw [er_r3, ha_ob]; exact Nat.le_trans (Nat.le_add_right _ 1) (Nat.le_add_right _ _)))
  have ne_mb_r3 : mb ≠ r3 := Nat.ne_of_lt (Nat.lt_of_lt_of_le A2.lt (by rw [er_r3, ha_ob]; exact Nat.le_trans (Nat.le_add_right _ 1) (Nat.le_add_right _ _)))
  have ne_ob_r3 : ob ≠ r3 := by rw [er_r3]; intro q; replace q : (_ : Nat) = _ := q; omega
  have ne_r0_r3 : r0 ≠ r3 := by rw [er_r0]; rw [er_r3]; intro q; replace q : (_ : Nat) = _ := q; omega
  have ne_r1_r3 : r1 ≠ r3 := by rw [er_r1]; rw [er_r3]; intro q; replace q : (_ : Nat) = _ := q; omega
  have ne_r2_r3 : r2 ≠ r3 := by rw [er_r2]; rw [er_r3]; intro q; replace q : (_ : Nat) = _ := q; omega
  have ga_r3 : n0 ≤ r3 := by rw [er_r3]; exact Nat.le_trans ga_ob (Nat.le_trans (Nat.le_add_right _ 1) (Nat.le_add_right _ _))
  have sz_r3 : h.size ≤ r3 := by rw [er_r3]; exact Nat.le_trans sz_ob (Nat.le_trans (Nat.le_add_right _ 1) (Nat.le_add_right _ _))
  have AR_r3 : La Z h7 r3 .long [.long 0, .long 0, .long 0, .long 0, .long 0] := er_r3 ▸ AR10 3 (by decide)
  replace A9 : La Z h7 ob (.array .long) [.ref r0, .ref r1, .ref r2, .ref r3] := by subst er_r0 er_r1 er_r2 er_r3; exact A9
  have E11 := E0.ext E8
  have F12 := F1.ext E8
  have F13 := F2.ext E8
  have F14 := F3.ext E8
  have A15 := A1.ext E8
  have A16 := A2.ext E8
  have K17 := (Keep.refl h []).ext E8
  refine go_astoreN C X6 20 rfl d5_19 rfl #[rv a, iv (4 : Int32), rv ob, un, un] rfl ?_
  refine go_aloadN C X6 21 rfl d5_20 rfl rfl ?_
  refine go_iconst C X6 22 rfl d5_21 (z := 0) rfl ?_
  refine go_aaload C X6 A9 rfl (by decide) (v := (.ref r0)) rfl (pc' := 23) rfl d5_22 ?_
  refine go_lconst C X6 24 rfl d5_23 (z := 1) rfl ?_
  refine go_callS C X6 (C.w 46 rfl) (C.w 47 rfl) (C.w 33 rfl) (C.w 48 rfl) (own_fillJ l Z a0 C.ws r0 (1 : Int64) h7 n0 X6.old AR_r0 ga_r0) (argsL := [(.ref r0), (.long (1 : Int64))]) (rest := []) (lenOf pd_0 rfl) rfl (by decide) (by decide) (Nat.le_of_ble_eq_true rfl) (by decide) (by decide) rfl rfl (pc' := 27) rfl d5_24 ?_
  rintro T18 h20 _ ⟨rfl, K8, A8⟩ X19
  show Go p e below _ (T18.setTop (mkF m 27 #[rv a, iv (4 : Int32), rv ob, un, un] []))
  have E21 := E11.keep K8
  have F22 := F12.keep K8 (ninS ne_a_r0 nin0)
  have F23 := F13.keep K8 (ninS ne_a_r0 nin0)
  have F24 := F14.keep K8 (ninS ne_a_r0 nin0)
  have A25 := A15.keep K8 (ninS ne_sb_r0 nin0)
  have A26 := A16.keep K8 (ninS ne_mb_r0 nin0)
  have A27 := A9.keep K8 (ninS ne_ob_r0 nin0)
  have A28 := AR_r1.keep K8 (ninS (Ne.symm ne_r0_r1) nin0)
  have A29 := AR_r2.keep K8 (ninS (Ne.symm ne_r0_r2) nin0)
  have A30 := AR_r3.keep K8 (ninS (Ne.symm ne_r0_r3) nin0)
  have K31 := K17.trans K8 (allS (Or.inr sz_r0) all0)
  refine go_iconst C X19 28 rfl d5_27 (z := 1) rfl ?_
  refine go_istoreN C X19 29 rfl d5_28 #[rv a, iv (4 : Int32), rv ob, iv (1 : Int32), un] rfl ?_
  refine go_iloadN C X19 30 rfl d5_29 rfl ?_
  refine go_aloadN C X19 31 rfl d5_30 rfl rfl ?_
  refine go_getF C X19 (C.w 35 rfl) Via.refl F24 (pc' := 34) rfl d5_31 (fun T32 X33 => ?_)
  refine go_icmp_gt C X33 d5_34 (pc' := 37) (pc2 := 104) rfl (by decide) (by decide) (fun (c34 : 3 < 1) => False.elim (by first | omega | exact absurd c34 (by decide))) (fun (c34 : 1 ≤ 3) => ?_)
  refine go_iloadN C X33 38 rfl d5_37 rfl ?_
  refine go_iconst C X33 39 rfl d5_38 (z := 1) rfl ?_
  refine go_isubL C X33 40 rfl d5_39 (z := (3)) rfl ?_
  refine go_istore C X33 42 rfl d5_40 #[rv a, iv (4 : Int32), rv ob, iv (1 : Int32), iv (3 : Int32)] rfl ?_
  refine go_iload C X33 44 rfl d5_42 rfl ?_
  refine go_aloadN C X33 45 rfl d5_44 rfl rfl ?_
  refine go_getF C X33 (C.w 35 rfl) Via.refl F24 (pc' := 48) rfl d5_45 (fun T34 X35 => ?_)
  refine go_iloadN C X35 49 rfl d5_48 rfl ?_
  refine go_isubL C X35 50 rfl d5_49 (z := (2)) rfl ?_
  refine go_icmp_lt C X35 d5_50 (pc' := 53) (pc2 := 98) rfl (by decide) (by decide) (fun (c50 : 3 < 2) => False.elim (by first | omega | exact absurd c50 (by decide))) (fun (c50 : 2 ≤ 3) => ?_)
  refine go_aloadN C X35 54 rfl d5_53 rfl rfl ?_
  refine go_iloadN C X35 55 rfl d5_54 rfl ?_
  refine go_aaload C X35 A27 rfl (by decide) (v := (.ref r1)) rfl (pc' := 56) rfl d5_55 ?_
  refine go_iload C X35 58 rfl d5_56 rfl ?_
  refine go_aloadN C X35 59 rfl d5_58 rfl rfl ?_
  refine go_iloadN C X35 60 rfl d5_59 rfl ?_
  refine go_aaload C X35 A27 rfl (by decide) (v := (.ref r1)) rfl (pc' := 61) rfl d5_60 ?_
  refine go_iload C X35 63 rfl d5_61 rfl ?_
  refine go_iconst C X35 64 rfl d5_63 (z := 1) rfl ?_
  refine go_iaddL C X35 65 rfl d5_64 (z := (4)) rfl ?_
  refine go_laload C X35 A28 (by decide) (v := (.long (0 : Int64))) rfl (pc' := 66) rfl d5_65 ?_
  refine go_aloadN C X35 67 rfl d5_66 rfl rfl ?_
  refine go_getF C X35 (C.w 16 rfl) Via.refl F22 (pc' := 70) rfl d5_67 (fun T36 X37 => ?_)
  refine go_aloadN C X37 71 rfl d5_70 rfl rfl ?_
  refine go_getF C X37 (C.w 27 rfl) Via.refl F23 (pc' := 74) rfl d5_71 (fun T38 X39 => ?_)
  refine go_iload C X39 76 rfl d5_74 rfl ?_
  refine go_iaload C X39 A26 (by decide) (v := (.int m3)) rfl (pc' := 77) rfl d5_76 ?_
  refine go_iaload C X39 A25 b3.1 (v := (.int (at32 sz m3))) (ia_at b3.1 (by rw [hl]; exact b3.2)) (pc' := 78) rfl d5_77 ?_
  rw [z3]
  refine go_i2l C X39 79 rfl d5_78 ?_
  refine go_aloadN C X39 80 rfl d5_79 rfl rfl ?_
  refine go_iloadN C X39 81 rfl d5_80 rfl ?_
  refine go_iconst C X39 82 rfl d5_81 (z := 1) rfl ?_
  refine go_isubL C X39 83 rfl d5_82 (z := (0)) rfl ?_
  refine go_aaload C X39 A27 rfl (by decide) (v := (.ref r0)) rfl (pc' := 84) rfl d5_83 ?_
  refine go_iload C X39 86 rfl d5_84 rfl ?_
  refine go_iconst C X39 87 rfl d5_86 (z := 1) rfl ?_
  refine go_iaddL C X39 88 rfl d5_87 (z := (4)) rfl ?_
  refine go_laload C X39 A8 (by decide) (v := (.long (1 : Int64))) rfl (pc' := 89) rfl d5_88 ?_
  refine go_lmul C X39 90 rfl d5_89 ?_
  refine go_ladd C X39 91 rfl d5_90 ?_
  generalize et1 : ((0 : Int64) + ((s3.toInt64) * (1 : Int64))) = t1
  refine go_lastore C X39 A28 (by decide) (by show _ < (5 : Int); decide) ga_r1 (pc' := 92) rfl d5_91 (fun T40 h42 W43 A44 X41 => ?_)
  have E45 := E21.wr W43
  have F46 := F22.other W43 (Or.inl ne_a_r1)
  have F47 := F23.other W43 (Or.inl ne_a_r1)
  have F48 := F24.other W43 (Or.inl ne_a_r1)
  have A49 := A25.other W43 ne_sb_r1
  have A50 := A26.other W43 ne_mb_r1
  have A51 := A27.other W43 ne_ob_r1
  have A52 := A29.other W43 (Ne.symm ne_r1_r2)
  have A53 := A30.other W43 (Ne.symm ne_r1_r3)
  have A54 := A8.other W43 ne_r0_r1
  have K55 := K31.wr W43 (Or.inr sz_r1)
  replace A44 : La Z h42 r1 .long ([(.long (0 : Int64)), (.long (0 : Int64)), (.long (0 : Int64)), (.long t1), (.long (0 : Int64))]) := A44
  refine go_iinc C X41 95 rfl d5_92 rfl (z := (-1)) rfl #[rv a, iv (4 : Int32), rv ob, iv (1 : Int32), iv (2 : Int32)] rfl ?_
  refine go_goto C X41 d5_95 (pc' := 42) (by decide) (by decide) ?_
  refine go_iload C X41 44 rfl d5_42 rfl ?_
  refine go_aloadN C X41 45 rfl d5_44 rfl rfl ?_
  refine go_getF C X41 (C.w 35 rfl) Via.refl F48 (pc' := 48) rfl d5_45 (fun T56 X57 => ?_)
  refine go_iloadN C X57 49 rfl d5_48 rfl ?_
  refine go_isubL C X57 50 rfl d5_49 (z := (2)) rfl ?_
  refine go_icmp_lt C X57 d5_50 (pc' := 53) (pc2 := 98) rfl (by decide) (by decide) (fun (c50 : 2 < 2) => False.elim (by first | omega | exact absurd c50 (by decide))) (fun (c50 : 2 ≤ 2) => ?_)
  refine go_aloadN C X57 54 rfl d5_53 rfl rfl ?_
  refine go_iloadN C X57 55 rfl d5_54 rfl ?_
  refine go_aaload C X57 A51 rfl (by decide) (v := (.ref r1)) rfl (pc' := 56) rfl d5_55 ?_
  refine go_iload C X57 58 rfl d5_56 rfl ?_
  refine go_aloadN C X57 59 rfl d5_58 rfl rfl ?_
  refine go_iloadN C X57 60 rfl d5_59 rfl ?_
  refine go_aaload C X57 A51 rfl (by decide) (v := (.ref r1)) rfl (pc' := 61) rfl d5_60 ?_
  refine go_iload C X57 63 rfl d5_61 rfl ?_
  refine go_iconst C X57 64 rfl d5_63 (z := 1) rfl ?_
  refine go_iaddL C X57 65 rfl d5_64 (z := (3)) rfl ?_
  refine go_laload C X57 A44 (by decide) (v := (.long t1)) rfl (pc' := 66) rfl d5_65 ?_
  refine go_aloadN C X57 67 rfl d5_66 rfl rfl ?_
  refine go_getF C X57 (C.w 16 rfl) Via.refl F46 (pc' := 70) rfl d5_67 (fun T58 X59 => ?_)
  refine go_aloadN C X59 71 rfl d5_70 rfl rfl ?_
  refine go_getF C X59 (C.w 27 rfl) Via.refl F47 (pc' := 74) rfl d5_71 (fun T60 X61 => ?_)
  refine go_iload C X61 76 rfl d5_74 rfl ?_
  refine go_iaload C X61 A50 (by decide) (v := (.int m2)) rfl (pc' := 77) rfl d5_76 ?_
  refine go_iaload C X61 A49 b2.1 (v := (.int (at32 sz m2))) (ia_at b2.1 (by rw [hl]; exact b2.2)) (pc' := 78) rfl d5_77 ?_
  rw [z2]
  refine go_i2l C X61 79 rfl d5_78 ?_
  refine go_aloadN C X61 80 rfl d5_79 rfl rfl ?_
  refine go_iloadN C X61 81 rfl d5_80 rfl ?_
  refine go_iconst C X61 82 rfl d5_81 (z := 1) rfl ?_
  refine go_isubL C X61 83 rfl d5_82 (z := (0)) rfl ?_
  refine go_aaload C X61 A51 rfl (by decide) (v := (.ref r0)) rfl (pc' := 84) rfl d5_83 ?_
  refine go_iload C X61 86 rfl d5_84 rfl ?_
  refine go_iconst C X61 87 rfl d5_86 (z := 1) rfl ?_
  refine go_iaddL C X61 88 rfl d5_87 (z := (3)) rfl ?_
  refine go_laload C X61 A54 (by decide) (v := (.long (1 : Int64))) rfl (pc' := 89) rfl d5_88 ?_
  refine go_lmul C X61 90 rfl d5_89 ?_
  refine go_ladd C X61 91 rfl d5_90 ?_
  generalize et2 : (t1 + ((s2.toInt64) * (1 : Int64))) = t2
  refine go_lastore C X61 A44 (by decide) (by show _ < (5 : Int); decide) ga_r1 (pc' := 92) rfl d5_91 (fun T62 h64 W65 A66 X63 => ?_)
  have E67 := E45.wr W65
  have F68 := F46.other W65 (Or.inl ne_a_r1)
  have F69 := F47.other W65 (Or.inl ne_a_r1)
  have F70 := F48.other W65 (Or.inl ne_a_r1)
  have A71 := A49.other W65 ne_sb_r1
  have A72 := A50.other W65 ne_mb_r1
  have A73 := A51.other W65 ne_ob_r1
  have A74 := A52.other W65 (Ne.symm ne_r1_r2)
  have A75 := A53.other W65 (Ne.symm ne_r1_r3)
  have A76 := A54.other W65 ne_r0_r1
  have K77 := K55.wr W65 (Or.inr sz_r1)
  replace A66 : La Z h64 r1 .long ([(.long (0 : Int64)), (.long (0 : Int64)), (.long t2), (.long t1), (.long (0 : Int64))]) := A66
  refine go_iinc C X63 95 rfl d5_92 rfl (z := (-1)) rfl #[rv a, iv (4 : Int32), rv ob, iv (1 : Int32), iv (1 : Int32)] rfl ?_
  refine go_goto C X63 d5_95 (pc' := 42) (by decide) (by decide) ?_
  refine go_iload C X63 44 rfl d5_42 rfl ?_
  refine go_aloadN C X63 45 rfl d5_44 rfl rfl ?_
  refine go_getF C X63 (C.w 35 rfl) Via.refl F70 (pc' := 48) rfl d5_45 (fun T78 X79 => ?_)
  refine go_iloadN C X79 49 rfl d5_48 rfl ?_
  refine go_isubL C X79 50 rfl d5_49 (z := (2)) rfl ?_
  refine go_icmp_lt C X79 d5_50 (pc' := 53) (pc2 := 98) rfl (by decide) (by decide) (fun (c50 : 1 < 2) => ?_) (fun (c50 : 2 ≤ 1) => False.elim (by first | omega | exact absurd c50 (by decide)))
  refine go_iinc C X79 101 rfl d5_98 rfl (z := 1) rfl #[rv a, iv (4 : Int32), rv ob, iv (2 : Int32), iv (1 : Int32)] rfl ?_
  refine go_goto C X79 d5_101 (pc' := 29) (by decide) (by decide) ?_
  refine go_iloadN C X79 30 rfl d5_29 rfl ?_
  refine go_aloadN C X79 31 rfl d5_30 rfl rfl ?_
  refine go_getF C X79 (C.w 35 rfl) Via.refl F70 (pc' := 34) rfl d5_31 (fun T80 X81 => ?_)
  refine go_icmp_gt C X81 d5_34 (pc' := 37) (pc2 := 104) rfl (by decide) (by decide) (fun (c34 : 3 < 2) => False.elim (by first | omega | exact absurd c34 (by decide))) (fun (c34 : 2 ≤ 3) => ?_)
  refine go_iloadN C X81 38 rfl d5_37 rfl ?_
  refine go_iconst C X81 39 rfl d5_38 (z := 1) rfl ?_
  refine go_isubL C X81 40 rfl d5_39 (z := (3)) rfl ?_
  refine go_istore C X81 42 rfl d5_40 #[rv a, iv (4 : Int32), rv ob, iv (2 : Int32), iv (3 : Int32)] rfl ?_
  refine go_iload C X81 44 rfl d5_42 rfl ?_
  refine go_aloadN C X81 45 rfl d5_44 rfl rfl ?_
  refine go_getF C X81 (C.w 35 rfl) Via.refl F70 (pc' := 48) rfl d5_45 (fun T82 X83 => ?_)
  refine go_iloadN C X83 49 rfl d5_48 rfl ?_
  refine go_isubL C X83 50 rfl d5_49 (z := (1)) rfl ?_
  refine go_icmp_lt C X83 d5_50 (pc' := 53) (pc2 := 98) rfl (by decide) (by decide) (fun (c50 : 3 < 1) => False.elim (by first | omega | exact absurd c50 (by decide))) (fun (c50 : 1 ≤ 3) => ?_)
  refine go_aloadN C X83 54 rfl d5_53 rfl rfl ?_
  refine go_iloadN C X83 55 rfl d5_54 rfl ?_
  refine go_aaload C X83 A73 rfl (by decide) (v := (.ref r2)) rfl (pc' := 56) rfl d5_55 ?_
  refine go_iload C X83 58 rfl d5_56 rfl ?_
  refine go_aloadN C X83 59 rfl d5_58 rfl rfl ?_
  refine go_iloadN C X83 60 rfl d5_59 rfl ?_
  refine go_aaload C X83 A73 rfl (by decide) (v := (.ref r2)) rfl (pc' := 61) rfl d5_60 ?_
  refine go_iload C X83 63 rfl d5_61 rfl ?_
  refine go_iconst C X83 64 rfl d5_63 (z := 1) rfl ?_
  refine go_iaddL C X83 65 rfl d5_64 (z := (4)) rfl ?_
  refine go_laload C X83 A74 (by decide) (v := (.long (0 : Int64))) rfl (pc' := 66) rfl d5_65 ?_
  refine go_aloadN C X83 67 rfl d5_66 rfl rfl ?_
  refine go_getF C X83 (C.w 16 rfl) Via.refl F68 (pc' := 70) rfl d5_67 (fun T84 X85 => ?_)
  refine go_aloadN C X85 71 rfl d5_70 rfl rfl ?_
  refine go_getF C X85 (C.w 27 rfl) Via.refl F69 (pc' := 74) rfl d5_71 (fun T86 X87 => ?_)
  refine go_iload C X87 76 rfl d5_74 rfl ?_
  refine go_iaload C X87 A72 (by decide) (v := (.int m3)) rfl (pc' := 77) rfl d5_76 ?_
  refine go_iaload C X87 A71 b3.1 (v := (.int (at32 sz m3))) (ia_at b3.1 (by rw [hl]; exact b3.2)) (pc' := 78) rfl d5_77 ?_
  rw [z3]
  refine go_i2l C X87 79 rfl d5_78 ?_
  refine go_aloadN C X87 80 rfl d5_79 rfl rfl ?_
  refine go_iloadN C X87 81 rfl d5_80 rfl ?_
  refine go_iconst C X87 82 rfl d5_81 (z := 1) rfl ?_
  refine go_isubL C X87 83 rfl d5_82 (z := (1)) rfl ?_
  refine go_aaload C X87 A73 rfl (by decide) (v := (.ref r1)) rfl (pc' := 84) rfl d5_83 ?_
  refine go_iload C X87 86 rfl d5_84 rfl ?_
  refine go_iconst C X87 87 rfl d5_86 (z := 1) rfl ?_
  refine go_iaddL C X87 88 rfl d5_87 (z := (4)) rfl ?_
  refine go_laload C X87 A66 (by decide) (v := (.long (0 : Int64))) rfl (pc' := 89) rfl d5_88 ?_
  refine go_lmul C X87 90 rfl d5_89 ?_
  refine go_ladd C X87 91 rfl d5_90 ?_
  generalize et3 : ((0 : Int64) + ((s3.toInt64) * (0 : Int64))) = t3
  refine go_lastore C X87 A74 (by decide) (by show _ < (5 : Int); decide) ga_r2 (pc' := 92) rfl d5_91 (fun T88 h90 W91 A92 X89 => ?_)
  have E93 := E67.wr W91
  have F94 := F68.other W91 (Or.inl ne_a_r2)
  have F95 := F69.other W91 (Or.inl ne_a_r2)
  have F96 := F70.other W91 (Or.inl ne_a_r2)
  have A97 := A71.other W91 ne_sb_r2
  have A98 := A72.other W91 ne_mb_r2
  have A99 := A73.other W91 ne_ob_r2
  have A100 := A66.other W91 ne_r1_r2
  have A101 := A75.other W91 (Ne.symm ne_r2_r3)
  have A102 := A76.other W91 ne_r0_r2
  have K103 := K77.wr W91 (Or.inr sz_r2)
  replace A92 : La Z h90 r2 .long ([(.long (0 : Int64)), (.long (0 : Int64)), (.long (0 : Int64)), (.long t3), (.long (0 : Int64))]) := A92
  refine go_iinc C X89 95 rfl d5_92 rfl (z := (-1)) rfl #[rv a, iv (4 : Int32), rv ob, iv (2 : Int32), iv (2 : Int32)] rfl ?_
  refine go_goto C X89 d5_95 (pc' := 42) (by decide) (by decide) ?_
  refine go_iload C X89 44 rfl d5_42 rfl ?_
  refine go_aloadN C X89 45 rfl d5_44 rfl rfl ?_
  refine go_getF C X89 (C.w 35 rfl) Via.refl F96 (pc' := 48) rfl d5_45 (fun T104 X105 => ?_)
  refine go_iloadN C X105 49 rfl d5_48 rfl ?_
  refine go_isubL C X105 50 rfl d5_49 (z := (1)) rfl ?_
  refine go_icmp_lt C X105 d5_50 (pc' := 53) (pc2 := 98) rfl (by decide) (by decide) (fun (c50 : 2 < 1) => False.elim (by first | omega | exact absurd c50 (by decide))) (fun (c50 : 1 ≤ 2) => ?_)
  refine go_aloadN C X105 54 rfl d5_53 rfl rfl ?_
  refine go_iloadN C X105 55 rfl d5_54 rfl ?_
  refine go_aaload C X105 A99 rfl (by decide) (v := (.ref r2)) rfl (pc' := 56) rfl d5_55 ?_
  refine go_iload C X105 58 rfl d5_56 rfl ?_
  refine go_aloadN C X105 59 rfl d5_58 rfl rfl ?_
  refine go_iloadN C X105 60 rfl d5_59 rfl ?_
  refine go_aaload C X105 A99 rfl (by decide) (v := (.ref r2)) rfl (pc' := 61) rfl d5_60 ?_
  refine go_iload C X105 63 rfl d5_61 rfl ?_
  refine go_iconst C X105 64 rfl d5_63 (z := 1) rfl ?_
  refine go_iaddL C X105 65 rfl d5_64 (z := (3)) rfl ?_
  refine go_laload C X105 A92 (by decide) (v := (.long t3)) rfl (pc' := 66) rfl d5_65 ?_
  refine go_aloadN C X105 67 rfl d5_66 rfl rfl ?_
  refine go_getF C X105 (C.w 16 rfl) Via.refl F94 (pc' := 70) rfl d5_67 (fun T106 X107 => ?_)
  refine go_aloadN C X107 71 rfl d5_70 rfl rfl ?_
  refine go_getF C X107 (C.w 27 rfl) Via.refl F95 (pc' := 74) rfl d5_71 (fun T108 X109 => ?_)
  refine go_iload C X109 76 rfl d5_74 rfl ?_
  refine go_iaload C X109 A98 (by decide) (v := (.int m2)) rfl (pc' := 77) rfl d5_76 ?_
  refine go_iaload C X109 A97 b2.1 (v := (.int (at32 sz m2))) (ia_at b2.1 (by rw [hl]; exact b2.2)) (pc' := 78) rfl d5_77 ?_
  rw [z2]
  refine go_i2l C X109 79 rfl d5_78 ?_
  refine go_aloadN C X109 80 rfl d5_79 rfl rfl ?_
  refine go_iloadN C X109 81 rfl d5_80 rfl ?_
  refine go_iconst C X109 82 rfl d5_81 (z := 1) rfl ?_
  refine go_isubL C X109 83 rfl d5_82 (z := (1)) rfl ?_
  refine go_aaload C X109 A99 rfl (by decide) (v := (.ref r1)) rfl (pc' := 84) rfl d5_83 ?_
  refine go_iload C X109 86 rfl d5_84 rfl ?_
  refine go_iconst C X109 87 rfl d5_86 (z := 1) rfl ?_
  refine go_iaddL C X109 88 rfl d5_87 (z := (3)) rfl ?_
  refine go_laload C X109 A100 (by decide) (v := (.long t1)) rfl (pc' := 89) rfl d5_88 ?_
  refine go_lmul C X109 90 rfl d5_89 ?_
  refine go_ladd C X109 91 rfl d5_90 ?_
  generalize et4 : (t3 + ((s2.toInt64) * t1)) = t4
  refine go_lastore C X109 A92 (by decide) (by show _ < (5 : Int); decide) ga_r2 (pc' := 92) rfl d5_91 (fun T110 h112 W113 A114 X111 => ?_)
  have E115 := E93.wr W113
  have F116 := F94.other W113 (Or.inl ne_a_r2)
  have F117 := F95.other W113 (Or.inl ne_a_r2)
  have F118 := F96.other W113 (Or.inl ne_a_r2)
  have A119 := A97.other W113 ne_sb_r2
  have A120 := A98.other W113 ne_mb_r2
  have A121 := A99.other W113 ne_ob_r2
  have A122 := A100.other W113 ne_r1_r2
  have A123 := A101.other W113 (Ne.symm ne_r2_r3)
  have A124 := A102.other W113 ne_r0_r2
  have K125 := K103.wr W113 (Or.inr sz_r2)
  replace A114 : La Z h112 r2 .long ([(.long (0 : Int64)), (.long (0 : Int64)), (.long t4), (.long t3), (.long (0 : Int64))]) := A114
  refine go_iinc C X111 95 rfl d5_92 rfl (z := (-1)) rfl #[rv a, iv (4 : Int32), rv ob, iv (2 : Int32), iv (1 : Int32)] rfl ?_
  refine go_goto C X111 d5_95 (pc' := 42) (by decide) (by decide) ?_
  refine go_iload C X111 44 rfl d5_42 rfl ?_
  refine go_aloadN C X111 45 rfl d5_44 rfl rfl ?_
  refine go_getF C X111 (C.w 35 rfl) Via.refl F118 (pc' := 48) rfl d5_45 (fun T126 X127 => ?_)
  refine go_iloadN C X127 49 rfl d5_48 rfl ?_
  refine go_isubL C X127 50 rfl d5_49 (z := (1)) rfl ?_
  refine go_icmp_lt C X127 d5_50 (pc' := 53) (pc2 := 98) rfl (by decide) (by decide) (fun (c50 : 1 < 1) => False.elim (by first | omega | exact absurd c50 (by decide))) (fun (c50 : 1 ≤ 1) => ?_)
  refine go_aloadN C X127 54 rfl d5_53 rfl rfl ?_
  refine go_iloadN C X127 55 rfl d5_54 rfl ?_
  refine go_aaload C X127 A121 rfl (by decide) (v := (.ref r2)) rfl (pc' := 56) rfl d5_55 ?_
  refine go_iload C X127 58 rfl d5_56 rfl ?_
  refine go_aloadN C X127 59 rfl d5_58 rfl rfl ?_
  refine go_iloadN C X127 60 rfl d5_59 rfl ?_
  refine go_aaload C X127 A121 rfl (by decide) (v := (.ref r2)) rfl (pc' := 61) rfl d5_60 ?_
  refine go_iload C X127 63 rfl d5_61 rfl ?_
  refine go_iconst C X127 64 rfl d5_63 (z := 1) rfl ?_
  refine go_iaddL C X127 65 rfl d5_64 (z := (2)) rfl ?_
  refine go_laload C X127 A114 (by decide) (v := (.long t4)) rfl (pc' := 66) rfl d5_65 ?_
  refine go_aloadN C X127 67 rfl d5_66 rfl rfl ?_
  refine go_getF C X127 (C.w 16 rfl) Via.refl F116 (pc' := 70) rfl d5_67 (fun T128 X129 => ?_)
  refine go_aloadN C X129 71 rfl d5_70 rfl rfl ?_
  refine go_getF C X129 (C.w 27 rfl) Via.refl F117 (pc' := 74) rfl d5_71 (fun T130 X131 => ?_)
  refine go_iload C X131 76 rfl d5_74 rfl ?_
  refine go_iaload C X131 A120 (by decide) (v := (.int m1)) rfl (pc' := 77) rfl d5_76 ?_
  refine go_iaload C X131 A119 b1.1 (v := (.int (at32 sz m1))) (ia_at b1.1 (by rw [hl]; exact b1.2)) (pc' := 78) rfl d5_77 ?_
  rw [z1]
  refine go_i2l C X131 79 rfl d5_78 ?_
  refine go_aloadN C X131 80 rfl d5_79 rfl rfl ?_
  refine go_iloadN C X131 81 rfl d5_80 rfl ?_
  refine go_iconst C X131 82 rfl d5_81 (z := 1) rfl ?_
  refine go_isubL C X131 83 rfl d5_82 (z := (1)) rfl ?_
  refine go_aaload C X131 A121 rfl (by decide) (v := (.ref r1)) rfl (pc' := 84) rfl d5_83 ?_
  refine go_iload C X131 86 rfl d5_84 rfl ?_
  refine go_iconst C X131 87 rfl d5_86 (z := 1) rfl ?_
  refine go_iaddL C X131 88 rfl d5_87 (z := (2)) rfl ?_
  refine go_laload C X131 A122 (by decide) (v := (.long t2)) rfl (pc' := 89) rfl d5_88 ?_
  refine go_lmul C X131 90 rfl d5_89 ?_
  refine go_ladd C X131 91 rfl d5_90 ?_
  generalize et5 : (t4 + ((s1.toInt64) * t2)) = t5
  refine go_lastore C X131 A114 (by decide) (by show _ < (5 : Int); decide) ga_r2 (pc' := 92) rfl d5_91 (fun T132 h134 W135 A136 X133 => ?_)
  have E137 := E115.wr W135
  have F138 := F116.other W135 (Or.inl ne_a_r2)
  have F139 := F117.other W135 (Or.inl ne_a_r2)
  have F140 := F118.other W135 (Or.inl ne_a_r2)
  have A141 := A119.other W135 ne_sb_r2
  have A142 := A120.other W135 ne_mb_r2
  have A143 := A121.other W135 ne_ob_r2
  have A144 := A122.other W135 ne_r1_r2
  have A145 := A123.other W135 (Ne.symm ne_r2_r3)
  have A146 := A124.other W135 ne_r0_r2
  have K147 := K125.wr W135 (Or.inr sz_r2)
  replace A136 : La Z h134 r2 .long ([(.long (0 : Int64)), (.long t5), (.long t4), (.long t3), (.long (0 : Int64))]) := A136
  refine go_iinc C X133 95 rfl d5_92 rfl (z := (-1)) rfl #[rv a, iv (4 : Int32), rv ob, iv (2 : Int32), iv (0 : Int32)] rfl ?_
  refine go_goto C X133 d5_95 (pc' := 42) (by decide) (by decide) ?_
  refine go_iload C X133 44 rfl d5_42 rfl ?_
  refine go_aloadN C X133 45 rfl d5_44 rfl rfl ?_
  refine go_getF C X133 (C.w 35 rfl) Via.refl F140 (pc' := 48) rfl d5_45 (fun T148 X149 => ?_)
  refine go_iloadN C X149 49 rfl d5_48 rfl ?_
  refine go_isubL C X149 50 rfl d5_49 (z := (1)) rfl ?_
  refine go_icmp_lt C X149 d5_50 (pc' := 53) (pc2 := 98) rfl (by decide) (by decide) (fun (c50 : 0 < 1) => ?_) (fun (c50 : 1 ≤ 0) => False.elim (by first | omega | exact absurd c50 (by decide)))
  refine go_iinc C X149 101 rfl d5_98 rfl (z := 1) rfl #[rv a, iv (4 : Int32), rv ob, iv (3 : Int32), iv (0 : Int32)] rfl ?_
  refine go_goto C X149 d5_101 (pc' := 29) (by decide) (by decide) ?_
  refine go_iloadN C X149 30 rfl d5_29 rfl ?_
  refine go_aloadN C X149 31 rfl d5_30 rfl rfl ?_
  refine go_getF C X149 (C.w 35 rfl) Via.refl F140 (pc' := 34) rfl d5_31 (fun T150 X151 => ?_)
  refine go_icmp_gt C X151 d5_34 (pc' := 37) (pc2 := 104) rfl (by decide) (by decide) (fun (c34 : 3 < 3) => False.elim (by first | omega | exact absurd c34 (by decide))) (fun (c34 : 3 ≤ 3) => ?_)
  refine go_iloadN C X151 38 rfl d5_37 rfl ?_
  refine go_iconst C X151 39 rfl d5_38 (z := 1) rfl ?_
  refine go_isubL C X151 40 rfl d5_39 (z := (3)) rfl ?_
  refine go_istore C X151 42 rfl d5_40 #[rv a, iv (4 : Int32), rv ob, iv (3 : Int32), iv (3 : Int32)] rfl ?_
  refine go_iload C X151 44 rfl d5_42 rfl ?_
  refine go_aloadN C X151 45 rfl d5_44 rfl rfl ?_
  refine go_getF C X151 (C.w 35 rfl) Via.refl F140 (pc' := 48) rfl d5_45 (fun T152 X153 => ?_)
  refine go_iloadN C X153 49 rfl d5_48 rfl ?_
  refine go_isubL C X153 50 rfl d5_49 (z := (0)) rfl ?_
  refine go_icmp_lt C X153 d5_50 (pc' := 53) (pc2 := 98) rfl (by decide) (by decide) (fun (c50 : 3 < 0) => False.elim (by first | omega | exact absurd c50 (by decide))) (fun (c50 : 0 ≤ 3) => ?_)
  refine go_aloadN C X153 54 rfl d5_53 rfl rfl ?_
  refine go_iloadN C X153 55 rfl d5_54 rfl ?_
  refine go_aaload C X153 A143 rfl (by decide) (v := (.ref r3)) rfl (pc' := 56) rfl d5_55 ?_
  refine go_iload C X153 58 rfl d5_56 rfl ?_
  refine go_aloadN C X153 59 rfl d5_58 rfl rfl ?_
  refine go_iloadN C X153 60 rfl d5_59 rfl ?_
  refine go_aaload C X153 A143 rfl (by decide) (v := (.ref r3)) rfl (pc' := 61) rfl d5_60 ?_
  refine go_iload C X153 63 rfl d5_61 rfl ?_
  refine go_iconst C X153 64 rfl d5_63 (z := 1) rfl ?_
  refine go_iaddL C X153 65 rfl d5_64 (z := (4)) rfl ?_
  refine go_laload C X153 A145 (by decide) (v := (.long (0 : Int64))) rfl (pc' := 66) rfl d5_65 ?_
  refine go_aloadN C X153 67 rfl d5_66 rfl rfl ?_
  refine go_getF C X153 (C.w 16 rfl) Via.refl F138 (pc' := 70) rfl d5_67 (fun T154 X155 => ?_)
  refine go_aloadN C X155 71 rfl d5_70 rfl rfl ?_
  refine go_getF C X155 (C.w 27 rfl) Via.refl F139 (pc' := 74) rfl d5_71 (fun T156 X157 => ?_)
  refine go_iload C X157 76 rfl d5_74 rfl ?_
  refine go_iaload C X157 A142 (by decide) (v := (.int m3)) rfl (pc' := 77) rfl d5_76 ?_
  refine go_iaload C X157 A141 b3.1 (v := (.int (at32 sz m3))) (ia_at b3.1 (by rw [hl]; exact b3.2)) (pc' := 78) rfl d5_77 ?_
  rw [z3]
  refine go_i2l C X157 79 rfl d5_78 ?_
  refine go_aloadN C X157 80 rfl d5_79 rfl rfl ?_
  refine go_iloadN C X157 81 rfl d5_80 rfl ?_
  refine go_iconst C X157 82 rfl d5_81 (z := 1) rfl ?_
  refine go_isubL C X157 83 rfl d5_82 (z := (2)) rfl ?_
  refine go_aaload C X157 A143 rfl (by decide) (v := (.ref r2)) rfl (pc' := 84) rfl d5_83 ?_
  refine go_iload C X157 86 rfl d5_84 rfl ?_
  refine go_iconst C X157 87 rfl d5_86 (z := 1) rfl ?_
  refine go_iaddL C X157 88 rfl d5_87 (z := (4)) rfl ?_
  refine go_laload C X157 A136 (by decide) (v := (.long (0 : Int64))) rfl (pc' := 89) rfl d5_88 ?_
  refine go_lmul C X157 90 rfl d5_89 ?_
  refine go_ladd C X157 91 rfl d5_90 ?_
  generalize et6 : ((0 : Int64) + ((s3.toInt64) * (0 : Int64))) = t6
  refine go_lastore C X157 A145 (by decide) (by show _ < (5 : Int); decide) ga_r3 (pc' := 92) rfl d5_91 (fun T158 h160 W161 A162 X159 => ?_)
  have E163 := E137.wr W161
  have F164 := F138.other W161 (Or.inl ne_a_r3)
  have F165 := F139.other W161 (Or.inl ne_a_r3)
  have F166 := F140.other W161 (Or.inl ne_a_r3)
  have A167 := A141.other W161 ne_sb_r3
  have A168 := A142.other W161 ne_mb_r3
  have A169 := A143.other W161 ne_ob_r3
  have A170 := A144.other W161 ne_r1_r3
  have A171 := A136.other W161 ne_r2_r3
  have A172 := A146.other W161 ne_r0_r3
  have K173 := K147.wr W161 (Or.inr sz_r3)
  replace A162 : La Z h160 r3 .long ([(.long (0 : Int64)), (.long (0 : Int64)), (.long (0 : Int64)), (.long t6), (.long (0 : Int64))]) := A162
  refine go_iinc C X159 95 rfl d5_92 rfl (z := (-1)) rfl #[rv a, iv (4 : Int32), rv ob, iv (3 : Int32), iv (2 : Int32)] rfl ?_
  refine go_goto C X159 d5_95 (pc' := 42) (by decide) (by decide) ?_
  refine go_iload C X159 44 rfl d5_42 rfl ?_
  refine go_aloadN C X159 45 rfl d5_44 rfl rfl ?_
  refine go_getF C X159 (C.w 35 rfl) Via.refl F166 (pc' := 48) rfl d5_45 (fun T174 X175 => ?_)
  refine go_iloadN C X175 49 rfl d5_48 rfl ?_
  refine go_isubL C X175 50 rfl d5_49 (z := (0)) rfl ?_
  refine go_icmp_lt C X175 d5_50 (pc' := 53) (pc2 := 98) rfl (by decide) (by decide) (fun (c50 : 2 < 0) => False.elim (by first | omega | exact absurd c50 (by decide))) (fun (c50 : 0 ≤ 2) => ?_)
  refine go_aloadN C X175 54 rfl d5_53 rfl rfl ?_
  refine go_iloadN C X175 55 rfl d5_54 rfl ?_
  refine go_aaload C X175 A169 rfl (by decide) (v := (.ref r3)) rfl (pc' := 56) rfl d5_55 ?_
  refine go_iload C X175 58 rfl d5_56 rfl ?_
  refine go_aloadN C X175 59 rfl d5_58 rfl rfl ?_
  refine go_iloadN C X175 60 rfl d5_59 rfl ?_
  refine go_aaload C X175 A169 rfl (by decide) (v := (.ref r3)) rfl (pc' := 61) rfl d5_60 ?_
  refine go_iload C X175 63 rfl d5_61 rfl ?_
  refine go_iconst C X175 64 rfl d5_63 (z := 1) rfl ?_
  refine go_iaddL C X175 65 rfl d5_64 (z := (3)) rfl ?_
  refine go_laload C X175 A162 (by decide) (v := (.long t6)) rfl (pc' := 66) rfl d5_65 ?_
  refine go_aloadN C X175 67 rfl d5_66 rfl rfl ?_
  refine go_getF C X175 (C.w 16 rfl) Via.refl F164 (pc' := 70) rfl d5_67 (fun T176 X177 => ?_)
  refine go_aloadN C X177 71 rfl d5_70 rfl rfl ?_
  refine go_getF C X177 (C.w 27 rfl) Via.refl F165 (pc' := 74) rfl d5_71 (fun T178 X179 => ?_)
  refine go_iload C X179 76 rfl d5_74 rfl ?_
  refine go_iaload C X179 A168 (by decide) (v := (.int m2)) rfl (pc' := 77) rfl d5_76 ?_
  refine go_iaload C X179 A167 b2.1 (v := (.int (at32 sz m2))) (ia_at b2.1 (by rw [hl]; exact b2.2)) (pc' := 78) rfl d5_77 ?_
  rw [z2]
  refine go_i2l C X179 79 rfl d5_78 ?_
  refine go_aloadN C X179 80 rfl d5_79 rfl rfl ?_
  refine go_iloadN C X179 81 rfl d5_80 rfl ?_
  refine go_iconst C X179 82 rfl d5_81 (z := 1) rfl ?_
  refine go_isubL C X179 83 rfl d5_82 (z := (2)) rfl ?_
  refine go_aaload C X179 A169 rfl (by decide) (v := (.ref r2)) rfl (pc' := 84) rfl d5_83 ?_
  refine go_iload C X179 86 rfl d5_84 rfl ?_
  refine go_iconst C X179 87 rfl d5_86 (z := 1) rfl ?_
  refine go_iaddL C X179 88 rfl d5_87 (z := (3)) rfl ?_
  refine go_laload C X179 A171 (by decide) (v := (.long t3)) rfl (pc' := 89) rfl d5_88 ?_
  refine go_lmul C X179 90 rfl d5_89 ?_
  refine go_ladd C X179 91 rfl d5_90 ?_
  generalize et7 : (t6 + ((s2.toInt64) * t3)) = t7
  refine go_lastore C X179 A162 (by decide) (by show _ < (5 : Int); decide) ga_r3 (pc' := 92) rfl d5_91 (fun T180 h182 W183 A184 X181 => ?_)
  have E185 := E163.wr W183
  have F186 := F164.other W183 (Or.inl ne_a_r3)
  have F187 := F165.other W183 (Or.inl ne_a_r3)
  have F188 := F166.other W183 (Or.inl ne_a_r3)
  have A189 := A167.other W183 ne_sb_r3
  have A190 := A168.other W183 ne_mb_r3
  have A191 := A169.other W183 ne_ob_r3
  have A192 := A170.other W183 ne_r1_r3
  have A193 := A171.other W183 ne_r2_r3
  have A194 := A172.other W183 ne_r0_r3
  have K195 := K173.wr W183 (Or.inr sz_r3)
  replace A184 : La Z h182 r3 .long ([(.long (0 : Int64)), (.long (0 : Int64)), (.long t7), (.long t6), (.long (0 : Int64))]) := A184
  refine go_iinc C X181 95 rfl d5_92 rfl (z := (-1)) rfl #[rv a, iv (4 : Int32), rv ob, iv (3 : Int32), iv (1 : Int32)] rfl ?_
  refine go_goto C X181 d5_95 (pc' := 42) (by decide) (by decide) ?_
  refine go_iload C X181 44 rfl d5_42 rfl ?_
  refine go_aloadN C X181 45 rfl d5_44 rfl rfl ?_
  refine go_getF C X181 (C.w 35 rfl) Via.refl F188 (pc' := 48) rfl d5_45 (fun T196 X197 => ?_)
  refine go_iloadN C X197 49 rfl d5_48 rfl ?_
  refine go_isubL C X197 50 rfl d5_49 (z := (0)) rfl ?_
  refine go_icmp_lt C X197 d5_50 (pc' := 53) (pc2 := 98) rfl (by decide) (by decide) (fun (c50 : 1 < 0) => False.elim (by first | omega | exact absurd c50 (by decide))) (fun (c50 : 0 ≤ 1) => ?_)
  refine go_aloadN C X197 54 rfl d5_53 rfl rfl ?_
  refine go_iloadN C X197 55 rfl d5_54 rfl ?_
  refine go_aaload C X197 A191 rfl (by decide) (v := (.ref r3)) rfl (pc' := 56) rfl d5_55 ?_
  refine go_iload C X197 58 rfl d5_56 rfl ?_
  refine go_aloadN C X197 59 rfl d5_58 rfl rfl ?_
  refine go_iloadN C X197 60 rfl d5_59 rfl ?_
  refine go_aaload C X197 A191 rfl (by decide) (v := (.ref r3)) rfl (pc' := 61) rfl d5_60 ?_
  refine go_iload C X197 63 rfl d5_61 rfl ?_
  refine go_iconst C X197 64 rfl d5_63 (z := 1) rfl ?_
  refine go_iaddL C X197 65 rfl d5_64 (z := (2)) rfl ?_
  refine go_laload C X197 A184 (by decide) (v := (.long t7)) rfl (pc' := 66) rfl d5_65 ?_
  refine go_aloadN C X197 67 rfl d5_66 rfl rfl ?_
  refine go_getF C X197 (C.w 16 rfl) Via.refl F186 (pc' := 70) rfl d5_67 (fun T198 X199 => ?_)
  refine go_aloadN C X199 71 rfl d5_70 rfl rfl ?_
  refine go_getF C X199 (C.w 27 rfl) Via.refl F187 (pc' := 74) rfl d5_71 (fun T200 X201 => ?_)
  refine go_iload C X201 76 rfl d5_74 rfl ?_
  refine go_iaload C X201 A190 (by decide) (v := (.int m1)) rfl (pc' := 77) rfl d5_76 ?_
  refine go_iaload C X201 A189 b1.1 (v := (.int (at32 sz m1))) (ia_at b1.1 (by rw [hl]; exact b1.2)) (pc' := 78) rfl d5_77 ?_
  rw [z1]
  refine go_i2l C X201 79 rfl d5_78 ?_
  refine go_aloadN C X201 80 rfl d5_79 rfl rfl ?_
  refine go_iloadN C X201 81 rfl d5_80 rfl ?_
  refine go_iconst C X201 82 rfl d5_81 (z := 1) rfl ?_
  refine go_isubL C X201 83 rfl d5_82 (z := (2)) rfl ?_
  refine go_aaload C X201 A191 rfl (by decide) (v := (.ref r2)) rfl (pc' := 84) rfl d5_83 ?_
  refine go_iload C X201 86 rfl d5_84 rfl ?_
  refine go_iconst C X201 87 rfl d5_86 (z := 1) rfl ?_
  refine go_iaddL C X201 88 rfl d5_87 (z := (2)) rfl ?_
  refine go_laload C X201 A193 (by decide) (v := (.long t4)) rfl (pc' := 89) rfl d5_88 ?_
  refine go_lmul C X201 90 rfl d5_89 ?_
  refine go_ladd C X201 91 rfl d5_90 ?_
  generalize et8 : (t7 + ((s1.toInt64) * t4)) = t8
  refine go_lastore C X201 A184 (by decide) (by show _ < (5 : Int); decide) ga_r3 (pc' := 92) rfl d5_91 (fun T202 h204 W205 A206 X203 => ?_)
  have E207 := E185.wr W205
  have F208 := F186.other W205 (Or.inl ne_a_r3)
  have F209 := F187.other W205 (Or.inl ne_a_r3)
  have F210 := F188.other W205 (Or.inl ne_a_r3)
  have A211 := A189.other W205 ne_sb_r3
  have A212 := A190.other W205 ne_mb_r3
  have A213 := A191.other W205 ne_ob_r3
  have A214 := A192.other W205 ne_r1_r3
  have A215 := A193.other W205 ne_r2_r3
  have A216 := A194.other W205 ne_r0_r3
  have K217 := K195.wr W205 (Or.inr sz_r3)
  replace A206 : La Z h204 r3 .long ([(.long (0 : Int64)), (.long t8), (.long t7), (.long t6), (.long (0 : Int64))]) := A206
  refine go_iinc C X203 95 rfl d5_92 rfl (z := (-1)) rfl #[rv a, iv (4 : Int32), rv ob, iv (3 : Int32), iv (0 : Int32)] rfl ?_
  refine go_goto C X203 d5_95 (pc' := 42) (by decide) (by decide) ?_
  refine go_iload C X203 44 rfl d5_42 rfl ?_
  refine go_aloadN C X203 45 rfl d5_44 rfl rfl ?_
  refine go_getF C X203 (C.w 35 rfl) Via.refl F210 (pc' := 48) rfl d5_45 (fun T218 X219 => ?_)
  refine go_iloadN C X219 49 rfl d5_48 rfl ?_
  refine go_isubL C X219 50 rfl d5_49 (z := (0)) rfl ?_
  refine go_icmp_lt C X219 d5_50 (pc' := 53) (pc2 := 98) rfl (by decide) (by decide) (fun (c50 : 0 < 0) => False.elim (by first | omega | exact absurd c50 (by decide))) (fun (c50 : 0 ≤ 0) => ?_)
  refine go_aloadN C X219 54 rfl d5_53 rfl rfl ?_
  refine go_iloadN C X219 55 rfl d5_54 rfl ?_
  refine go_aaload C X219 A213 rfl (by decide) (v := (.ref r3)) rfl (pc' := 56) rfl d5_55 ?_
  refine go_iload C X219 58 rfl d5_56 rfl ?_
  refine go_aloadN C X219 59 rfl d5_58 rfl rfl ?_
  refine go_iloadN C X219 60 rfl d5_59 rfl ?_
  refine go_aaload C X219 A213 rfl (by decide) (v := (.ref r3)) rfl (pc' := 61) rfl d5_60 ?_
  refine go_iload C X219 63 rfl d5_61 rfl ?_
  refine go_iconst C X219 64 rfl d5_63 (z := 1) rfl ?_
  refine go_iaddL C X219 65 rfl d5_64 (z := (1)) rfl ?_
  refine go_laload C X219 A206 (by decide) (v := (.long t8)) rfl (pc' := 66) rfl d5_65 ?_
  refine go_aloadN C X219 67 rfl d5_66 rfl rfl ?_
  refine go_getF C X219 (C.w 16 rfl) Via.refl F208 (pc' := 70) rfl d5_67 (fun T220 X221 => ?_)
  refine go_aloadN C X221 71 rfl d5_70 rfl rfl ?_
  refine go_getF C X221 (C.w 27 rfl) Via.refl F209 (pc' := 74) rfl d5_71 (fun T222 X223 => ?_)
  refine go_iload C X223 76 rfl d5_74 rfl ?_
  refine go_iaload C X223 A212 (by decide) (v := (.int m0)) rfl (pc' := 77) rfl d5_76 ?_
  refine go_iaload C X223 A211 b0.1 (v := (.int (at32 sz m0))) (ia_at b0.1 (by rw [hl]; exact b0.2)) (pc' := 78) rfl d5_77 ?_
  rw [z0]
  refine go_i2l C X223 79 rfl d5_78 ?_
  refine go_aloadN C X223 80 rfl d5_79 rfl rfl ?_
  refine go_iloadN C X223 81 rfl d5_80 rfl ?_
  refine go_iconst C X223 82 rfl d5_81 (z := 1) rfl ?_
  refine go_isubL C X223 83 rfl d5_82 (z := (2)) rfl ?_
  refine go_aaload C X223 A213 rfl (by decide) (v := (.ref r2)) rfl (pc' := 84) rfl d5_83 ?_
  refine go_iload C X223 86 rfl d5_84 rfl ?_
  refine go_iconst C X223 87 rfl d5_86 (z := 1) rfl ?_
  refine go_iaddL C X223 88 rfl d5_87 (z := (1)) rfl ?_
  refine go_laload C X223 A215 (by decide) (v := (.long t5)) rfl (pc' := 89) rfl d5_88 ?_
  refine go_lmul C X223 90 rfl d5_89 ?_
  refine go_ladd C X223 91 rfl d5_90 ?_
  generalize et9 : (t8 + ((s0.toInt64) * t5)) = t9
  refine go_lastore C X223 A206 (by decide) (by show _ < (5 : Int); decide) ga_r3 (pc' := 92) rfl d5_91 (fun T224 h226 W227 A228 X225 => ?_)
  have E229 := E207.wr W227
  have F230 := F208.other W227 (Or.inl ne_a_r3)
  have F231 := F209.other W227 (Or.inl ne_a_r3)
  have F232 := F210.other W227 (Or.inl ne_a_r3)
  have A233 := A211.other W227 ne_sb_r3
  have A234 := A212.other W227 ne_mb_r3
  have A235 := A213.other W227 ne_ob_r3
  have A236 := A214.other W227 ne_r1_r3
  have A237 := A215.other W227 ne_r2_r3
  have A238 := A216.other W227 ne_r0_r3
  have K239 := K217.wr W227 (Or.inr sz_r3)
  replace A228 : La Z h226 r3 .long ([(.long t9), (.long t8), (.long t7), (.long t6), (.long (0 : Int64))]) := A228
  refine go_iinc C X225 95 rfl d5_92 rfl (z := (-1)) rfl #[rv a, iv (4 : Int32), rv ob, iv (3 : Int32), iv (-1 : Int32)] rfl ?_
  refine go_goto C X225 d5_95 (pc' := 42) (by decide) (by decide) ?_
  refine go_iload C X225 44 rfl d5_42 rfl ?_
  refine go_aloadN C X225 45 rfl d5_44 rfl rfl ?_
  refine go_getF C X225 (C.w 35 rfl) Via.refl F232 (pc' := 48) rfl d5_45 (fun T240 X241 => ?_)
  refine go_iloadN C X241 49 rfl d5_48 rfl ?_
  refine go_isubL C X241 50 rfl d5_49 (z := (0)) rfl ?_
  refine go_icmp_lt C X241 d5_50 (pc' := 53) (pc2 := 98) rfl (by decide) (by decide) (fun (c50 : (-1) < 0) => ?_) (fun (c50 : 0 ≤ (-1)) => False.elim (by first | omega | exact absurd c50 (by decide)))
  refine go_iinc C X241 101 rfl d5_98 rfl (z := 1) rfl #[rv a, iv (4 : Int32), rv ob, iv (4 : Int32), iv (-1 : Int32)] rfl ?_
  refine go_goto C X241 d5_101 (pc' := 29) (by decide) (by decide) ?_
  refine go_iloadN C X241 30 rfl d5_29 rfl ?_
  refine go_aloadN C X241 31 rfl d5_30 rfl rfl ?_
  refine go_getF C X241 (C.w 35 rfl) Via.refl F232 (pc' := 34) rfl d5_31 (fun T242 X243 => ?_)
  refine go_icmp_gt C X243 d5_34 (pc' := 37) (pc2 := 104) rfl (by decide) (by decide) (fun (c34 : 3 < 4) => ?_) (fun (c34 : 4 ≤ 3) => False.elim (by first | omega | exact absurd c34 (by decide)))
  refine go_aloadN C X243 105 rfl d5_104 rfl rfl ?_
  exact go_retA C X243 d5_105 rfl rfl (by subst et9; subst et8; subst et7; subst et6; subst et5; subst et4; subst et3; subst et2; subst et1; exact ⟨ob, r0, r1, r2, r3, rfl, K239, sz_ob, sz_r0, sz_r1, sz_r2, sz_r3, A235, A238, A236, A237, A228⟩) (by decide) (by decide)
theorem ef_own_suf_4 (m : MethodId) (a : Addr)  : entryFrame m #[(.ref a)] 5 = mkF m 0 #[rv a, un, un, un, un] [] := by
  first | (simp [entryFrame, mkF, argsToLocals, Value.category]; done) | rfl
set_option maxRecDepth 65536 in
set_option maxHeartbeats 40000000 in
theorem own_suf_4 (l : Launch) (Z : State) (a0 : Array Value) (hw : ∀ d ∈ tables_1, d.before a0 Z = true) (a : Addr) (sb mb : Addr) (sz : List Int32) (m0 m1 m2 m3 s0 s1 s2 s3 : Int32) (h : Heap) (n0 : Nat) (hn0 : Old Z n0 h) (E0 : Exa Z h a "com/example/covertide/covertide/engine/ParameterSets") (F1 : Fld Z h a "com/example/covertide/covertide/engine/ParameterSets" "sizes" "[I" (.ref sb)) (F2 : Fld Z h a "com/example/covertide/covertide/engine/ParameterSets" "members" "[I" (.ref mb)) (F3 : Fld Z h a "com/example/covertide/covertide/engine/ParameterSets" "size" "I" (.int 4)) (A1 : La Z h sb .int (ia sz)) (A2 : La Z h mb .int [(.int m0), (.int m1), (.int m2), (.int m3)]) (hl : sz.length = 5) (b0 : 0 ≤ m0.toInt ∧ m0.toInt < (5 : Nat)) (z0 : at32 sz m0 = s0) (b1 : 0 ≤ m1.toInt ∧ m1.toInt < (5 : Nat)) (z1 : at32 sz m1 = s1) (b2 : 0 ≤ m2.toInt ∧ m2.toInt < (5 : Nat)) (z2 : at32 sz m2 = s2) (b3 : 0 ≤ m3.toInt ∧ m3.toInt < (5 : Nat)) (z3 : at32 sz m3 = s3) :
    Con l Z (⟨"com/example/covertide/covertide/engine/ParameterSets", "suffixSums", "()[[J"⟩ : MethodName) prog_10_method_14_code 5 (some (.array (.array .long))) ({ frames := 1, cells := 6, slots := 30, locals := 16 } : Room) #[(.ref a)] h n0 (fun v h' => ∃ ob r0 r1 r2 r3 r4 : Addr, v = some (.ref ob) ∧ Keep h h' [] ∧ h.size ≤ ob ∧ h.size ≤ r0 ∧ h.size ≤ r1 ∧ h.size ≤ r2 ∧ h.size ≤ r3 ∧ h.size ≤ r4 ∧ La Z h' ob (.array .long) [(.ref r0), (.ref r1), (.ref r2), (.ref r3), (.ref r4)] ∧ La Z h' r0 .long [(.long (1 : Int64)), (.long (1 : Int64)), (.long (1 : Int64)), (.long (1 : Int64)), (.long (1 : Int64))] ∧ La Z h' r1 .long [(.long (0 : Int64)), (.long (0 : Int64)), (.long (0 : Int64)), (.long ((0 : Int64) + (s3.toInt64 * (1 : Int64)))), (.long (0 : Int64))] ∧ La Z h' r2 .long [(.long (0 : Int64)), (.long (0 : Int64)), (.long (((0 : Int64) + (s3.toInt64 * (0 : Int64))) + (s2.toInt64 * ((0 : Int64) + (s3.toInt64 * (1 : Int64)))))), (.long ((0 : Int64) + (s3.toInt64 * (0 : Int64)))), (.long (0 : Int64))] ∧ La Z h' r3 .long [(.long (0 : Int64)), (.long ((((0 : Int64) + (s3.toInt64 * (0 : Int64))) + (s2.toInt64 * ((0 : Int64) + (s3.toInt64 * (0 : Int64))))) + (s1.toInt64 * (((0 : Int64) + (s3.toInt64 * (0 : Int64))) + (s2.toInt64 * ((0 : Int64) + (s3.toInt64 * (1 : Int64)))))))), (.long (((0 : Int64) + (s3.toInt64 * (0 : Int64))) + (s2.toInt64 * ((0 : Int64) + (s3.toInt64 * (0 : Int64)))))), (.long ((0 : Int64) + (s3.toInt64 * (0 : Int64)))), (.long (0 : Int64))] ∧ La Z h' r4 .long [(.long (((((0 : Int64) + (s3.toInt64 * (0 : Int64))) + (s2.toInt64 * ((0 : Int64) + (s3.toInt64 * (0 : Int64))))) + (s1.toInt64 * (((0 : Int64) + (s3.toInt64 * (0 : Int64))) + (s2.toInt64 * ((0 : Int64) + (s3.toInt64 * (0 : Int64))))))) + (s0.toInt64 * ((((0 : Int64) + (s3.toInt64 * (0 : Int64))) + (s2.toInt64 * ((0 : Int64) + (s3.toInt64 * (0 : Int64))))) + (s1.toInt64 * (((0 : Int64) + (s3.toInt64 * (0 : Int64))) + (s2.toInt64 * ((0 : Int64) + (s3.toInt64 * (1 : Int64)))))))))), (.long ((((0 : Int64) + (s3.toInt64 * (0 : Int64))) + (s2.toInt64 * ((0 : Int64) + (s3.toInt64 * (0 : Int64))))) + (s1.toInt64 * (((0 : Int64) + (s3.toInt64 * (0 : Int64))) + (s2.toInt64 * ((0 : Int64) + (s3.toInt64 * (0 : Int64)))))))), (.long (((0 : Int64) + (s3.toInt64 * (0 : Int64))) + (s2.toInt64 * ((0 : Int64) + (s3.toInt64 * (0 : Int64)))))), (.long ((0 : Int64) + (s3.toInt64 * (0 : Int64)))), (.long (0 : Int64))]) := by
  refine con_of hw (plainFor_of_name pn_com_example_covertide_covertide_engine_ParameterSets) hn0 ?_
  intro p e s m below meth c T0 C X0
  refine Go.cast (congrArg T0.setTop (ef_own_suf_4 m a)) ?_
  refine go_aloadN C X0 1 rfl d5_0 rfl rfl ?_
  refine go_getF C X0 (C.w 27 rfl) Via.refl F2 (pc' := 4) rfl d5_1 (fun T1 X2 => ?_)
  refine go_alen C X2 A2 (z := (4 : Int32)) rfl (pc' := 5) rfl d5_4 ?_
  refine go_istoreN C X2 6 rfl d5_5 #[rv a, iv (4 : Int32), un, un, un] rfl ?_
  refine go_aloadN C X2 7 rfl d5_6 rfl rfl ?_
  refine go_getF C X2 (C.w 35 rfl) Via.refl F3 (pc' := 10) rfl d5_7 (fun T3 X4 => ?_)
  refine go_iconst C X4 11 rfl d5_10 (z := 1) rfl ?_
  refine go_iaddL C X4 12 rfl d5_11 (z := (5)) rfl ?_
  refine go_iloadN C X4 13 rfl d5_12 rfl ?_
  refine go_iconst C X4 14 rfl d5_13 (z := 1) rfl ?_
  refine go_iaddL C X4 15 rfl d5_14 (z := (5)) rfl ?_
  refine go_multi2 C X4 (ty := .long) (by decide) (C.w 43 rfl) (C.w 44 rfl) (C.w 45 rfl) (by decide) (by decide) (by decide) (by decide) (by decide) rfl rfl (by decide) (by decide) (pc' := 19) rfl d5_15 (fun T5 h7 ob ha_ob ga_ob E8 A9 AR10 X6 => ?_)
  have ne_a_ob : a ≠ ob := Nat.ne_of_lt (Nat.lt_of_lt_of_le E0.lt (Nat.le_of_eq ha_ob.symm))
  have ne_sb_ob : sb ≠ ob := Nat.ne_of_lt (Nat.lt_of_lt_of_le A1.lt (Nat.le_of_eq ha_ob.symm))
  have ne_mb_ob : mb ≠ ob := Nat.ne_of_lt (Nat.lt_of_lt_of_le A2.lt (Nat.le_of_eq ha_ob.symm))
  have sz_ob : h.size ≤ ob := Nat.le_trans (Keep.refl h []).1 (Nat.le_of_eq ha_ob.symm)
  obtain ⟨r0, er_r0⟩ : ∃ z, z = ob + 1 + 0 := ⟨_, rfl⟩
  have ne_a_r0 : a ≠ r0 := Nat.ne_of_lt (Nat.lt_of_lt_of_le E0.lt (by rw [er_r0, ha_ob]; exact Nat.le_trans (Nat.le_add_right _ 1) (Nat.le_add_right _ _)))
  have ne_sb_r0 : sb ≠ r0 := Nat.ne_of_lt (Nat.lt_of_lt_of_le A1.lt (by rw [er_r0, ha_ob]; exact Nat.le_trans (Nat.le_add_right _ 1) (Nat.le_add_right _ _)))
  have ne_mb_r0 : mb ≠ r0 := Nat.ne_of_lt (Nat.lt_of_lt_of_le A2.lt (by rw [er_r0, ha_ob]; exact Nat.le_trans (Nat.le_add_right _ 1) (Nat.le_add_right _ _)))
  have ne_ob_r0 : ob ≠ r0 := by rw [er_r0]; intro q; replace q : (_ : Nat) = _ := q; omega
  have ga_r0 : n0 ≤ r0 := by rw [er_r0]; exact Nat.le_trans ga_ob (Nat.le_trans (Nat.le_add_right _ 1) (Nat.le_add_right _ _))
  have sz_r0 : h.size ≤ r0 := by rw [er_r0]; exact Nat.le_trans sz_ob (Nat.le_trans (Nat.le_add_right _ 1) (Nat.le_add_right _ _))
  have AR_r0 : La Z h7 r0 .long [.long 0, .long 0, .long 0, .long 0, .long 0] := er_r0 ▸ AR10 0 (by decide)
  obtain ⟨r1, er_r1⟩ : ∃ z, z = ob + 1 + 1 := ⟨_, rfl⟩
  have ne_a_r1 : a ≠ r1 := Nat.ne_of_lt (Nat.lt_of_lt_of_le E0.lt (by rw [er_r1, ha_ob]; exact Nat.le_trans (Nat.le_add_right _ 1) (Nat.le_add_right _ _)))
  have ne_sb_r1 : sb ≠ r1 := Nat.ne_of_lt (Nat.lt_of_lt_of_le A1.lt (by rw [er_r1, ha_ob]; exact Nat.le_trans (Nat.le_add_right _ 1) (Nat.le_add_right _ _)))
  have ne_mb_r1 : mb ≠ r1 := Nat.ne_of_lt (Nat.lt_of_lt_of_le A2.lt (by rw [er_r1, ha_ob]; exact Nat.le_trans (Nat.le_add_right _ 1) (Nat.le_add_right _ _)))
  have ne_ob_r1 : ob ≠ r1 := by rw [er_r1]; intro q; replace q : (_ : Nat) = _ := q; omega
  have ne_r0_r1 : r0 ≠ r1 := by rw [er_r0]; rw [er_r1]; intro q; replace q : (_ : Nat) = _ := q; omega
  have ga_r1 : n0 ≤ r1 := by rw [er_r1]; exact Nat.le_trans ga_ob (Nat.le_trans (Nat.le_add_right _ 1) (Nat.le_add_right _ _))
  have sz_r1 : h.size ≤ r1 := by rw [er_r1]; exact Nat.le_trans sz_ob (Nat.le_trans (Nat.le_add_right _ 1) (Nat.le_add_right _ _))
  have AR_r1 : La Z h7 r1 .long [.long 0, .long 0, .long 0, .long 0, .long 0] := er_r1 ▸ AR10 1 (by decide)
  obtain ⟨r2, er_r2⟩ : ∃ z, z = ob + 1 + 2 := ⟨_, rfl⟩
  have ne_a_r2 : a ≠ r2 := Nat.ne_of_lt (Nat.lt_of_lt_of_le E0.lt (by rw [er_r2, ha_ob]; exact Nat.le_trans (Nat.le_add_right _ 1) (Nat.le_add_right _ _)))
  have ne_sb_r2 : sb ≠ r2 := Nat.ne_of_lt (Nat.lt_of_lt_of_le A1.lt (by rw [er_r2, ha_ob]; exact Nat.le_trans (Nat.le_add_right _ 1) (Nat.le_add_right _ _)))
  have ne_mb_r2 : mb ≠ r2 := Nat.ne_of_lt (Nat.lt_of_lt_of_le A2.lt (by rw [er_r2, ha_ob]; exact Nat.le_trans (Nat.le_add_right _ 1) (Nat.le_add_right _ _)))
  have ne_ob_r2 : ob ≠ r2 := by rw [er_r2]; intro q; replace q : (_ : Nat) = _ := q; omega
  have ne_r0_r2 : r0 ≠ r2 := by rw [er_r0]; rw [er_r2]; intro q; replace q : (_ : Nat) = _ := q; omega
  have ne_r1_r2 : r1 ≠ r2 := by rw [er_r1]; rw [er_r2]; intro q; replace q : (_ : Nat) = _ := q; omega
  have ga_r2 : n0 ≤ r2 := by rw [er_r2]; exact Nat.le_trans ga_ob (Nat.le_trans (Nat.le_add_right _ 1) (Nat.le_add_right _ _))
  have sz_r2 : h.size ≤ r2 := by rw [er_r2]; exact Nat.le_trans sz_ob (Nat.le_trans (Nat.le_add_right _ 1) (Nat.le_add_right _ _))
  have AR_r2 : La Z h7 r2 .long [.long 0, .long 0, .long 0, .long 0, .long 0] := er_r2 ▸ AR10 2 (by decide)
  obtain ⟨r3, er_r3⟩ : ∃ z, z = ob + 1 + 3 := ⟨_, rfl⟩
  have ne_a_r3 : a ≠ r3 := Nat.ne_of_lt (Nat.lt_of_lt_of_le E0.lt (by rw [er_r3, ha_ob]; exact Nat.le_trans (Nat.le_add_right _ 1) (Nat.le_add_right _ _)))
  have ne_sb_r3 : sb ≠ r3 := Nat.ne_of_lt (Nat.lt_of_lt_of_le A1.lt (by rw [er_r3, ha_ob]; exact Nat.le_trans (Nat.le_add_right _ 1) (Nat.le_add_right _ _)))
  have ne_mb_r3 : mb ≠ r3 := Nat.ne_of_lt (Nat.lt_of_lt_of_le A2.lt (by rw [er_r3, ha_ob]; exact Nat.le_trans (Nat.le_add_right _ 1) (Nat.le_add_right _ _)))
  have ne_ob_r3 : ob ≠ r3 := by rw [er_r3]; intro q; replace q : (_ : Nat) = _ := q; omega
  have ne_r0_r3 : r0 ≠ r3 := by rw [er_r0]; rw [er_r3]; intro q; replace q : (_ : Nat) = _ := q; omega
  have ne_r1_r3 : r1 ≠ r3 := by rw [er_r1]; rw [er_r3]; intro q; replace q : (_ : Nat) = _ := q; omega
  have ne_r2_r3 : r2 ≠ r3 := by rw [er_r2]; rw [er_r3]; intro q; replace q : (_ : Nat) = _ := q; omega
  have ga_r3 : n0 ≤ r3 := by rw [er_r3]; exact Nat.le_trans ga_ob (Nat.le_trans (Nat.le_add_right _ 1) (Nat.le_add_right _ _))
  have sz_r3 : h.size ≤ r3 := by rw [er_r3]; exact Nat.le_trans sz_ob (Nat.le_trans (Nat.le_add_right _ 1) (Nat.le_add_right _ _))
  have AR_r3 : La Z h7 r3 .long [.long 0, .long 0, .long 0, .long 0, .long 0] := er_r3 ▸ AR10 3 (by decide)
  obtain ⟨r4, er_r4⟩ : ∃ z, z = ob + 1 + 4 := ⟨_, rfl⟩
  have ne_a_r4 : a ≠ r4 := Nat.ne_of_lt (Nat.lt_of_lt_of_le E0.lt (by rw [er_r4, ha_ob]; exact Nat.le_trans (Nat.le_add_right _ 1) (Nat.le_add_right _ _)))
  have ne_sb_r4 : sb ≠ r4 := Nat.ne_of_lt (Nat.lt_of_lt_of_le A1.lt (by rw [er_r4, ha_ob]; exact Nat.le_trans (Nat.le_add_right _ 1) (Nat.le_add_right _ _)))
  have ne_mb_r4 : mb ≠ r4 := Nat.ne_of_lt (Nat.lt_of_lt_of_le A2.lt (by rw [er_r4, ha_ob]; exact Nat.le_trans (Nat.le_add_right _ 1) (Nat.le_add_right _ _)))
  have ne_ob_r4 : ob ≠ r4 := by rw [er_r4]; intro q; replace q : (_ : Nat) = _ := q; omega
  have ne_r0_r4 : r0 ≠ r4 := by rw [er_r0]; rw [er_r4]; intro q; replace q : (_ : Nat) = _ := q; omega
  have ne_r1_r4 : r1 ≠ r4 := by rw [er_r1]; rw [er_r4]; intro q; replace q : (_ : Nat) = _ := q; omega
  have ne_r2_r4 : r2 ≠ r4 := by rw [er_r2]; rw [er_r4]; intro q; replace q : (_ : Nat) = _ := q; omega
  have ne_r3_r4 : r3 ≠ r4 := by rw [er_r3]; rw [er_r4]; intro q; replace q : (_ : Nat) = _ := q; omega
  have ga_r4 : n0 ≤ r4 := by rw [er_r4]; exact Nat.le_trans ga_ob (Nat.le_trans (Nat.le_add_right _ 1) (Nat.le_add_right _ _))
  have sz_r4 : h.size ≤ r4 := by rw [er_r4]; exact Nat.le_trans sz_ob (Nat.le_trans (Nat.le_add_right _ 1) (Nat.le_add_right _ _))
  have AR_r4 : La Z h7 r4 .long [.long 0, .long 0, .long 0, .long 0, .long 0] := er_r4 ▸ AR10 4 (by decide)
  replace A9 : La Z h7 ob (.array .long) [.ref r0, .ref r1, .ref r2, .ref r3, .ref r4] := by subst er_r0 er_r1 er_r2 er_r3 er_r4; exact A9
  have E11 := E0.ext E8
  have F12 := F1.ext E8
  have F13 := F2.ext E8
  have F14 := F3.ext E8
  have A15 := A1.ext E8
  have A16 := A2.ext E8
  have K17 := (Keep.refl h []).ext E8
  refine go_astoreN C X6 20 rfl d5_19 rfl #[rv a, iv (4 : Int32), rv ob, un, un] rfl ?_
  refine go_aloadN C X6 21 rfl d5_20 rfl rfl ?_
  refine go_iconst C X6 22 rfl d5_21 (z := 0) rfl ?_
  refine go_aaload C X6 A9 rfl (by decide) (v := (.ref r0)) rfl (pc' := 23) rfl d5_22 ?_
  refine go_lconst C X6 24 rfl d5_23 (z := 1) rfl ?_
  refine go_callS C X6 (C.w 46 rfl) (C.w 47 rfl) (C.w 33 rfl) (C.w 48 rfl) (own_fillJ l Z a0 C.ws r0 (1 : Int64) h7 n0 X6.old AR_r0 ga_r0) (argsL := [(.ref r0), (.long (1 : Int64))]) (rest := []) (lenOf pd_0 rfl) rfl (by decide) (by decide) (Nat.le_of_ble_eq_true rfl) (by decide) (by decide) rfl rfl (pc' := 27) rfl d5_24 ?_
  rintro T18 h20 _ ⟨rfl, K8, A8⟩ X19
  show Go p e below _ (T18.setTop (mkF m 27 #[rv a, iv (4 : Int32), rv ob, un, un] []))
  have E21 := E11.keep K8
  have F22 := F12.keep K8 (ninS ne_a_r0 nin0)
  have F23 := F13.keep K8 (ninS ne_a_r0 nin0)
  have F24 := F14.keep K8 (ninS ne_a_r0 nin0)
  have A25 := A15.keep K8 (ninS ne_sb_r0 nin0)
  have A26 := A16.keep K8 (ninS ne_mb_r0 nin0)
  have A27 := A9.keep K8 (ninS ne_ob_r0 nin0)
  have A28 := AR_r1.keep K8 (ninS (Ne.symm ne_r0_r1) nin0)
  have A29 := AR_r2.keep K8 (ninS (Ne.symm ne_r0_r2) nin0)
  have A30 := AR_r3.keep K8 (ninS (Ne.symm ne_r0_r3) nin0)
  have A31 := AR_r4.keep K8 (ninS (Ne.symm ne_r0_r4) nin0)
  have K32 := K17.trans K8 (allS (Or.inr sz_r0) all0)
  refine go_iconst C X19 28 rfl d5_27 (z := 1) rfl ?_
  refine go_istoreN C X19 29 rfl d5_28 #[rv a, iv (4 : Int32), rv ob, iv (1 : Int32), un] rfl ?_
  refine go_iloadN C X19 30 rfl d5_29 rfl ?_
  refine go_aloadN C X19 31 rfl d5_30 rfl rfl ?_
  refine go_getF C X19 (C.w 35 rfl) Via.refl F24 (pc' := 34) rfl d5_31 (fun T33 X34 => ?_)
  refine go_icmp_gt C X34 d5_34 (pc' := 37) (pc2 := 104) rfl (by decide) (by decide) (fun (c34 : 4 < 1) => False.elim (by first | omega | exact absurd c34 (by decide))) (fun (c34 : 1 ≤ 4) => ?_)
  refine go_iloadN C X34 38 rfl d5_37 rfl ?_
  refine go_iconst C X34 39 rfl d5_38 (z := 1) rfl ?_
  refine go_isubL C X34 40 rfl d5_39 (z := (3)) rfl ?_
  refine go_istore C X34 42 rfl d5_40 #[rv a, iv (4 : Int32), rv ob, iv (1 : Int32), iv (3 : Int32)] rfl ?_
  refine go_iload C X34 44 rfl d5_42 rfl ?_
  refine go_aloadN C X34 45 rfl d5_44 rfl rfl ?_
  refine go_getF C X34 (C.w 35 rfl) Via.refl F24 (pc' := 48) rfl d5_45 (fun T35 X36 => ?_)
  refine go_iloadN C X36 49 rfl d5_48 rfl ?_
  refine go_isubL C X36 50 rfl d5_49 (z := (3)) rfl ?_
  refine go_icmp_lt C X36 d5_50 (pc' := 53) (pc2 := 98) rfl (by decide) (by decide) (fun (c50 : 3 < 3) => False.elim (by first | omega | exact absurd c50 (by decide))) (fun (c50 : 3 ≤ 3) => ?_)
  refine go_aloadN C X36 54 rfl d5_53 rfl rfl ?_
  refine go_iloadN C X36 55 rfl d5_54 rfl ?_
  refine go_aaload C X36 A27 rfl (by decide) (v := (.ref r1)) rfl (pc' := 56) rfl d5_55 ?_
  refine go_iload C X36 58 rfl d5_56 rfl ?_
  refine go_aloadN C X36 59 rfl d5_58 rfl rfl ?_
  refine go_iloadN C X36 60 rfl d5_59 rfl ?_
  refine go_aaload C X36 A27 rfl (by decide) (v := (.ref r1)) rfl (pc' := 61) rfl d5_60 ?_
  refine go_iload C X36 63 rfl d5_61 rfl ?_
  refine go_iconst C X36 64 rfl d5_63 (z := 1) rfl ?_
  refine go_iaddL C X36 65 rfl d5_64 (z := (4)) rfl ?_
  refine go_laload C X36 A28 (by decide) (v := (.long (0 : Int64))) rfl (pc' := 66) rfl d5_65 ?_
  refine go_aloadN C X36 67 rfl d5_66 rfl rfl ?_
  refine go_getF C X36 (C.w 16 rfl) Via.refl F22 (pc' := 70) rfl d5_67 (fun T37 X38 => ?_)
  refine go_aloadN C X38 71 rfl d5_70 rfl rfl ?_
  refine go_getF C X38 (C.w 27 rfl) Via.refl F23 (pc' := 74) rfl d5_71 (fun T39 X40 => ?_)
  refine go_iload C X40 76 rfl d5_74 rfl ?_
  refine go_iaload C X40 A26 (by decide) (v := (.int m3)) rfl (pc' := 77) rfl d5_76 ?_
  refine go_iaload C X40 A25 b3.1 (v := (.int (at32 sz m3))) (ia_at b3.1 (by rw [hl]; exact b3.2)) (pc' := 78) rfl d5_77 ?_
  rw [z3]
  refine go_i2l C X40 79 rfl d5_78 ?_
  refine go_aloadN C X40 80 rfl d5_79 rfl rfl ?_
  refine go_iloadN C X40 81 rfl d5_80 rfl ?_
  refine go_iconst C X40 82 rfl d5_81 (z := 1) rfl ?_
  refine go_isubL C X40 83 rfl d5_82 (z := (0)) rfl ?_
  refine go_aaload C X40 A27 rfl (by decide) (v := (.ref r0)) rfl (pc' := 84) rfl d5_83 ?_
  refine go_iload C X40 86 rfl d5_84 rfl ?_
  refine go_iconst C X40 87 rfl d5_86 (z := 1) rfl ?_
  refine go_iaddL C X40 88 rfl d5_87 (z := (4)) rfl ?_
  refine go_laload C X40 A8 (by decide) (v := (.long (1 : Int64))) rfl (pc' := 89) rfl d5_88 ?_
  refine go_lmul C X40 90 rfl d5_89 ?_
  refine go_ladd C X40 91 rfl d5_90 ?_
  generalize et1 : ((0 : Int64) + ((s3.toInt64) * (1 : Int64))) = t1
  refine go_lastore C X40 A28 (by decide) (by show _ < (5 : Int); decide) ga_r1 (pc' := 92) rfl d5_91 (fun T41 h43 W44 A45 X42 => ?_)
  have E46 := E21.wr W44
  have F47 := F22.other W44 (Or.inl ne_a_r1)
  have F48 := F23.other W44 (Or.inl ne_a_r1)
  have F49 := F24.other W44 (Or.inl ne_a_r1)
  have A50 := A25.other W44 ne_sb_r1
  have A51 := A26.other W44 ne_mb_r1
  have A52 := A27.other W44 ne_ob_r1
  have A53 := A29.other W44 (Ne.symm ne_r1_r2)
  have A54 := A30.other W44 (Ne.symm ne_r1_r3)
  have A55 := A31.other W44 (Ne.symm ne_r1_r4)
  have A56 := A8.other W44 ne_r0_r1
  have K57 := K32.wr W44 (Or.inr sz_r1)
  replace A45 : La Z h43 r1 .long ([(.long (0 : Int64)), (.long (0 : Int64)), (.long (0 : Int64)), (.long t1), (.long (0 : Int64))]) := A45
  refine go_iinc C X42 95 rfl d5_92 rfl (z := (-1)) rfl #[rv a, iv (4 : Int32), rv ob, iv (1 : Int32), iv (2 : Int32)] rfl ?_
  refine go_goto C X42 d5_95 (pc' := 42) (by decide) (by decide) ?_
  refine go_iload C X42 44 rfl d5_42 rfl ?_
  refine go_aloadN C X42 45 rfl d5_44 rfl rfl ?_
  refine go_getF C X42 (C.w 35 rfl) Via.refl F49 (pc' := 48) rfl d5_45 (fun T58 X59 => ?_)
  refine go_iloadN C X59 49 rfl d5_48 rfl ?_
  refine go_isubL C X59 50 rfl d5_49 (z := (3)) rfl ?_
  refine go_icmp_lt C X59 d5_50 (pc' := 53) (pc2 := 98) rfl (by decide) (by decide) (fun (c50 : 2 < 3) => ?_) (fun (c50 : 3 ≤ 2) => False.elim (by first | omega | exact absurd c50 (by decide)))
  refine go_iinc C X59 101 rfl d5_98 rfl (z := 1) rfl #[rv a, iv (4 : Int32), rv ob, iv (2 : Int32), iv (2 : Int32)] rfl ?_
  refine go_goto C X59 d5_101 (pc' := 29) (by decide) (by decide) ?_
  refine go_iloadN C X59 30 rfl d5_29 rfl ?_
  refine go_aloadN C X59 31 rfl d5_30 rfl rfl ?_
  refine go_getF C X59 (C.w 35 rfl) Via.refl F49 (pc' := 34) rfl d5_31 (fun T60 X61 => ?_)
  refine go_icmp_gt C X61 d5_34 (pc' := 37) (pc2 := 104) rfl (by decide) (by decide) (fun (c34 : 4 < 2) => False.elim (by first | omega | exact absurd c34 (by decide))) (fun (c34 : 2 ≤ 4) => ?_)
  refine go_iloadN C X61 38 rfl d5_37 rfl ?_
  refine go_iconst C X61 39 rfl d5_38 (z := 1) rfl ?_
  refine go_isubL C X61 40 rfl d5_39 (z := (3)) rfl ?_
  refine go_istore C X61 42 rfl d5_40 #[rv a, iv (4 : Int32), rv ob, iv (2 : Int32), iv (3 : Int32)] rfl ?_
  refine go_iload C X61 44 rfl d5_42 rfl ?_
  refine go_aloadN C X61 45 rfl d5_44 rfl rfl ?_
  refine go_getF C X61 (C.w 35 rfl) Via.refl F49 (pc' := 48) rfl d5_45 (fun T62 X63 => ?_)
  refine go_iloadN C X63 49 rfl d5_48 rfl ?_
  refine go_isubL C X63 50 rfl d5_49 (z := (2)) rfl ?_
  refine go_icmp_lt C X63 d5_50 (pc' := 53) (pc2 := 98) rfl (by decide) (by decide) (fun (c50 : 3 < 2) => False.elim (by first | omega | exact absurd c50 (by decide))) (fun (c50 : 2 ≤ 3) => ?_)
  refine go_aloadN C X63 54 rfl d5_53 rfl rfl ?_
  refine go_iloadN C X63 55 rfl d5_54 rfl ?_
  refine go_aaload C X63 A52 rfl (by decide) (v := (.ref r2)) rfl (pc' := 56) rfl d5_55 ?_
  refine go_iload C X63 58 rfl d5_56 rfl ?_
  refine go_aloadN C X63 59 rfl d5_58 rfl rfl ?_
  refine go_iloadN C X63 60 rfl d5_59 rfl ?_
  refine go_aaload C X63 A52 rfl (by decide) (v := (.ref r2)) rfl (pc' := 61) rfl d5_60 ?_
  refine go_iload C X63 63 rfl d5_61 rfl ?_
  refine go_iconst C X63 64 rfl d5_63 (z := 1) rfl ?_
  refine go_iaddL C X63 65 rfl d5_64 (z := (4)) rfl ?_
  refine go_laload C X63 A53 (by decide) (v := (.long (0 : Int64))) rfl (pc' := 66) rfl d5_65 ?_
  refine go_aloadN C X63 67 rfl d5_66 rfl rfl ?_
  refine go_getF C X63 (C.w 16 rfl) Via.refl F47 (pc' := 70) rfl d5_67 (fun T64 X65 => ?_)
  refine go_aloadN C X65 71 rfl d5_70 rfl rfl ?_
  refine go_getF C X65 (C.w 27 rfl) Via.refl F48 (pc' := 74) rfl d5_71 (fun T66 X67 => ?_)
  refine go_iload C X67 76 rfl d5_74 rfl ?_
  refine go_iaload C X67 A51 (by decide) (v := (.int m3)) rfl (pc' := 77) rfl d5_76 ?_
  refine go_iaload C X67 A50 b3.1 (v := (.int (at32 sz m3))) (ia_at b3.1 (by rw [hl]; exact b3.2)) (pc' := 78) rfl d5_77 ?_
  rw [z3]
  refine go_i2l C X67 79 rfl d5_78 ?_
  refine go_aloadN C X67 80 rfl d5_79 rfl rfl ?_
  refine go_iloadN C X67 81 rfl d5_80 rfl ?_
  refine go_iconst C X67 82 rfl d5_81 (z := 1) rfl ?_
  refine go_isubL C X67 83 rfl d5_82 (z := (1)) rfl ?_
  refine go_aaload C X67 A52 rfl (by decide) (v := (.ref r1)) rfl (pc' := 84) rfl d5_83 ?_
  refine go_iload C X67 86 rfl d5_84 rfl ?_
  refine go_iconst C X67 87 rfl d5_86 (z := 1) rfl ?_
  refine go_iaddL C X67 88 rfl d5_87 (z := (4)) rfl ?_
  refine go_laload C X67 A45 (by decide) (v := (.long (0 : Int64))) rfl (pc' := 89) rfl d5_88 ?_
  refine go_lmul C X67 90 rfl d5_89 ?_
  refine go_ladd C X67 91 rfl d5_90 ?_
  generalize et2 : ((0 : Int64) + ((s3.toInt64) * (0 : Int64))) = t2
  refine go_lastore C X67 A53 (by decide) (by show _ < (5 : Int); decide) ga_r2 (pc' := 92) rfl d5_91 (fun T68 h70 W71 A72 X69 => ?_)
  have E73 := E46.wr W71
  have F74 := F47.other W71 (Or.inl ne_a_r2)
  have F75 := F48.other W71 (Or.inl ne_a_r2)
  have F76 := F49.other W71 (Or.inl ne_a_r2)
  have A77 := A50.other W71 ne_sb_r2
  have A78 := A51.other W71 ne_mb_r2
  have A79 := A52.other W71 ne_ob_r2
  have A80 := A45.other W71 ne_r1_r2
  have A81 := A54.other W71 (Ne.symm ne_r2_r3)
  have A82 := A55.other W71 (Ne.symm ne_r2_r4)
  have A83 := A56.other W71 ne_r0_r2
  have K84 := K57.wr W71 (Or.inr sz_r2)
  replace A72 : La Z h70 r2 .long ([(.long (0 : Int64)), (.long (0 : Int64)), (.long (0 : Int64)), (.long t2), (.long (0 : Int64))]) := A72
  refine go_iinc C X69 95 rfl d5_92 rfl (z := (-1)) rfl #[rv a, iv (4 : Int32), rv ob, iv (2 : Int32), iv (2 : Int32)] rfl ?_
  refine go_goto C X69 d5_95 (pc' := 42) (by decide) (by decide) ?_
  refine go_iload C X69 44 rfl d5_42 rfl ?_
  refine go_aloadN C X69 45 rfl d5_44 rfl rfl ?_
  refine go_getF C X69 (C.w 35 rfl) Via.refl F76 (pc' := 48) rfl d5_45 (fun T85 X86 => ?_)
  refine go_iloadN C X86 49 rfl d5_48 rfl ?_
  refine go_isubL C X86 50 rfl d5_49 (z := (2)) rfl ?_
  refine go_icmp_lt C X86 d5_50 (pc' := 53) (pc2 := 98) rfl (by decide) (by decide) (fun (c50 : 2 < 2) => False.elim (by first | omega | exact absurd c50 (by decide))) (fun (c50 : 2 ≤ 2) => ?_)
  refine go_aloadN C X86 54 rfl d5_53 rfl rfl ?_
  refine go_iloadN C X86 55 rfl d5_54 rfl ?_
  refine go_aaload C X86 A79 rfl (by decide) (v := (.ref r2)) rfl (pc' := 56) rfl d5_55 ?_
  refine go_iload C X86 58 rfl d5_56 rfl ?_
  refine go_aloadN C X86 59 rfl d5_58 rfl rfl ?_
  refine go_iloadN C X86 60 rfl d5_59 rfl ?_
  refine go_aaload C X86 A79 rfl (by decide) (v := (.ref r2)) rfl (pc' := 61) rfl d5_60 ?_
  refine go_iload C X86 63 rfl d5_61 rfl ?_
  refine go_iconst C X86 64 rfl d5_63 (z := 1) rfl ?_
  refine go_iaddL C X86 65 rfl d5_64 (z := (3)) rfl ?_
  refine go_laload C X86 A72 (by decide) (v := (.long t2)) rfl (pc' := 66) rfl d5_65 ?_
  refine go_aloadN C X86 67 rfl d5_66 rfl rfl ?_
  refine go_getF C X86 (C.w 16 rfl) Via.refl F74 (pc' := 70) rfl d5_67 (fun T87 X88 => ?_)
  refine go_aloadN C X88 71 rfl d5_70 rfl rfl ?_
  refine go_getF C X88 (C.w 27 rfl) Via.refl F75 (pc' := 74) rfl d5_71 (fun T89 X90 => ?_)
  refine go_iload C X90 76 rfl d5_74 rfl ?_
  refine go_iaload C X90 A78 (by decide) (v := (.int m2)) rfl (pc' := 77) rfl d5_76 ?_
  refine go_iaload C X90 A77 b2.1 (v := (.int (at32 sz m2))) (ia_at b2.1 (by rw [hl]; exact b2.2)) (pc' := 78) rfl d5_77 ?_
  rw [z2]
  refine go_i2l C X90 79 rfl d5_78 ?_
  refine go_aloadN C X90 80 rfl d5_79 rfl rfl ?_
  refine go_iloadN C X90 81 rfl d5_80 rfl ?_
  refine go_iconst C X90 82 rfl d5_81 (z := 1) rfl ?_
  refine go_isubL C X90 83 rfl d5_82 (z := (1)) rfl ?_
  refine go_aaload C X90 A79 rfl (by decide) (v := (.ref r1)) rfl (pc' := 84) rfl d5_83 ?_
  refine go_iload C X90 86 rfl d5_84 rfl ?_
  refine go_iconst C X90 87 rfl d5_86 (z := 1) rfl ?_
  refine go_iaddL C X90 88 rfl d5_87 (z := (3)) rfl ?_
  refine go_laload C X90 A80 (by decide) (v := (.long t1)) rfl (pc' := 89) rfl d5_88 ?_
  refine go_lmul C X90 90 rfl d5_89 ?_
  refine go_ladd C X90 91 rfl d5_90 ?_
  generalize et3 : (t2 + ((s2.toInt64) * t1)) = t3
  refine go_lastore C X90 A72 (by decide) (by show _ < (5 : Int); decide) ga_r2 (pc' := 92) rfl d5_91 (fun T91 h93 W94 A95 X92 => ?_)
  have E96 := E73.wr W94
  have F97 := F74.other W94 (Or.inl ne_a_r2)
  have F98 := F75.other W94 (Or.inl ne_a_r2)
  have F99 := F76.other W94 (Or.inl ne_a_r2)
  have A100 := A77.other W94 ne_sb_r2
  have A101 := A78.other W94 ne_mb_r2
  have A102 := A79.other W94 ne_ob_r2
  have A103 := A80.other W94 ne_r1_r2
  have A104 := A81.other W94 (Ne.symm ne_r2_r3)
  have A105 := A82.other W94 (Ne.symm ne_r2_r4)
  have A106 := A83.other W94 ne_r0_r2
  have K107 := K84.wr W94 (Or.inr sz_r2)
  replace A95 : La Z h93 r2 .long ([(.long (0 : Int64)), (.long (0 : Int64)), (.long t3), (.long t2), (.long (0 : Int64))]) := A95
  refine go_iinc C X92 95 rfl d5_92 rfl (z := (-1)) rfl #[rv a, iv (4 : Int32), rv ob, iv (2 : Int32), iv (1 : Int32)] rfl ?_
  refine go_goto C X92 d5_95 (pc' := 42) (by decide) (by decide) ?_
  refine go_iload C X92 44 rfl d5_42 rfl ?_
  refine go_aloadN C X92 45 rfl d5_44 rfl rfl ?_
  refine go_getF C X92 (C.w 35 rfl) Via.refl F99 (pc' := 48) rfl d5_45 (fun T108 X109 => ?_)
  refine go_iloadN C X109 49 rfl d5_48 rfl ?_
  refine go_isubL C X109 50 rfl d5_49 (z := (2)) rfl ?_
  refine go_icmp_lt C X109 d5_50 (pc' := 53) (pc2 := 98) rfl (by decide) (by decide) (fun (c50 : 1 < 2) => ?_) (fun (c50 : 2 ≤ 1) => False.elim (by first | omega | exact absurd c50 (by decide)))
  refine go_iinc C X109 101 rfl d5_98 rfl (z := 1) rfl #[rv a, iv (4 : Int32), rv ob, iv (3 : Int32), iv (1 : Int32)] rfl ?_
  refine go_goto C X109 d5_101 (pc' := 29) (by decide) (by decide) ?_
  refine go_iloadN C X109 30 rfl d5_29 rfl ?_
  refine go_aloadN C X109 31 rfl d5_30 rfl rfl ?_
  refine go_getF C X109 (C.w 35 rfl) Via.refl F99 (pc' := 34) rfl d5_31 (fun T110 X111 => ?_)
  refine go_icmp_gt C X111 d5_34 (pc' := 37) (pc2 := 104) rfl (by decide) (by decide) (fun (c34 : 4 < 3) => False.elim (by first | omega | exact absurd c34 (by decide))) (fun (c34 : 3 ≤ 4) => ?_)
  refine go_iloadN C X111 38 rfl d5_37 rfl ?_
  refine go_iconst C X111 39 rfl d5_38 (z := 1) rfl ?_
  refine go_isubL C X111 40 rfl d5_39 (z := (3)) rfl ?_
  refine go_istore C X111 42 rfl d5_40 #[rv a, iv (4 : Int32), rv ob, iv (3 : Int32), iv (3 : Int32)] rfl ?_
  refine go_iload C X111 44 rfl d5_42 rfl ?_
  refine go_aloadN C X111 45 rfl d5_44 rfl rfl ?_
  refine go_getF C X111 (C.w 35 rfl) Via.refl F99 (pc' := 48) rfl d5_45 (fun T112 X113 => ?_)
  refine go_iloadN C X113 49 rfl d5_48 rfl ?_
  refine go_isubL C X113 50 rfl d5_49 (z := (1)) rfl ?_
  refine go_icmp_lt C X113 d5_50 (pc' := 53) (pc2 := 98) rfl (by decide) (by decide) (fun (c50 : 3 < 1) => False.elim (by first | omega | exact absurd c50 (by decide))) (fun (c50 : 1 ≤ 3) => ?_)
  refine go_aloadN C X113 54 rfl d5_53 rfl rfl ?_
  refine go_iloadN C X113 55 rfl d5_54 rfl ?_
  refine go_aaload C X113 A102 rfl (by decide) (v := (.ref r3)) rfl (pc' := 56) rfl d5_55 ?_
  refine go_iload C X113 58 rfl d5_56 rfl ?_
  refine go_aloadN C X113 59 rfl d5_58 rfl rfl ?_
  refine go_iloadN C X113 60 rfl d5_59 rfl ?_
  refine go_aaload C X113 A102 rfl (by decide) (v := (.ref r3)) rfl (pc' := 61) rfl d5_60 ?_
  refine go_iload C X113 63 rfl d5_61 rfl ?_
  refine go_iconst C X113 64 rfl d5_63 (z := 1) rfl ?_
  refine go_iaddL C X113 65 rfl d5_64 (z := (4)) rfl ?_
  refine go_laload C X113 A104 (by decide) (v := (.long (0 : Int64))) rfl (pc' := 66) rfl d5_65 ?_
  refine go_aloadN C X113 67 rfl d5_66 rfl rfl ?_
  refine go_getF C X113 (C.w 16 rfl) Via.refl F97 (pc' := 70) rfl d5_67 (fun T114 X115 => ?_)
  refine go_aloadN C X115 71 rfl d5_70 rfl rfl ?_
  refine go_getF C X115 (C.w 27 rfl) Via.refl F98 (pc' := 74) rfl d5_71 (fun T116 X117 => ?_)
  refine go_iload C X117 76 rfl d5_74 rfl ?_
  refine go_iaload C X117 A101 (by decide) (v := (.int m3)) rfl (pc' := 77) rfl d5_76 ?_
  refine go_iaload C X117 A100 b3.1 (v := (.int (at32 sz m3))) (ia_at b3.1 (by rw [hl]; exact b3.2)) (pc' := 78) rfl d5_77 ?_
  rw [z3]
  refine go_i2l C X117 79 rfl d5_78 ?_
  refine go_aloadN C X117 80 rfl d5_79 rfl rfl ?_
  refine go_iloadN C X117 81 rfl d5_80 rfl ?_
  refine go_iconst C X117 82 rfl d5_81 (z := 1) rfl ?_
  refine go_isubL C X117 83 rfl d5_82 (z := (2)) rfl ?_
  refine go_aaload C X117 A102 rfl (by decide) (v := (.ref r2)) rfl (pc' := 84) rfl d5_83 ?_
  refine go_iload C X117 86 rfl d5_84 rfl ?_
  refine go_iconst C X117 87 rfl d5_86 (z := 1) rfl ?_
  refine go_iaddL C X117 88 rfl d5_87 (z := (4)) rfl ?_
  refine go_laload C X117 A95 (by decide) (v := (.long (0 : Int64))) rfl (pc' := 89) rfl d5_88 ?_
  refine go_lmul C X117 90 rfl d5_89 ?_
  refine go_ladd C X117 91 rfl d5_90 ?_
  generalize et4 : ((0 : Int64) + ((s3.toInt64) * (0 : Int64))) = t4
  refine go_lastore C X117 A104 (by decide) (by show _ < (5 : Int); decide) ga_r3 (pc' := 92) rfl d5_91 (fun T118 h120 W121 A122 X119 => ?_)
  have E123 := E96.wr W121
  have F124 := F97.other W121 (Or.inl ne_a_r3)
  have F125 := F98.other W121 (Or.inl ne_a_r3)
  have F126 := F99.other W121 (Or.inl ne_a_r3)
  have A127 := A100.other W121 ne_sb_r3
  have A128 := A101.other W121 ne_mb_r3
  have A129 := A102.other W121 ne_ob_r3
  have A130 := A103.other W121 ne_r1_r3
  have A131 := A95.other W121 ne_r2_r3
  have A132 := A105.other W121 (Ne.symm ne_r3_r4)
  have A133 := A106.other W121 ne_r0_r3
  have K134 := K107.wr W121 (Or.inr sz_r3)
  replace A122 : La Z h120 r3 .long ([(.long (0 : Int64)), (.long (0 : Int64)), (.long (0 : Int64)), (.long t4), (.long (0 : Int64))]) := A122
  refine go_iinc C X119 95 rfl d5_92 rfl (z := (-1)) rfl #[rv a, iv (4 : Int32), rv ob, iv (3 : Int32), iv (2 : Int32)] rfl ?_
  refine go_goto C X119 d5_95 (pc' := 42) (by decide) (by decide) ?_
  refine go_iload C X119 44 rfl d5_42 rfl ?_
  refine go_aloadN C X119 45 rfl d5_44 rfl rfl ?_
  refine go_getF C X119 (C.w 35 rfl) Via.refl F126 (pc' := 48) rfl d5_45 (fun T135 X136 => ?_)
  refine go_iloadN C X136 49 rfl d5_48 rfl ?_
  refine go_isubL C X136 50 rfl d5_49 (z := (1)) rfl ?_
  refine go_icmp_lt C X136 d5_50 (pc' := 53) (pc2 := 98) rfl (by decide) (by decide) (fun (c50 : 2 < 1) => False.elim (by first | omega | exact absurd c50 (by decide))) (fun (c50 : 1 ≤ 2) => ?_)
  refine go_aloadN C X136 54 rfl d5_53 rfl rfl ?_
  refine go_iloadN C X136 55 rfl d5_54 rfl ?_
  refine go_aaload C X136 A129 rfl (by decide) (v := (.ref r3)) rfl (pc' := 56) rfl d5_55 ?_
  refine go_iload C X136 58 rfl d5_56 rfl ?_
  refine go_aloadN C X136 59 rfl d5_58 rfl rfl ?_
  refine go_iloadN C X136 60 rfl d5_59 rfl ?_
  refine go_aaload C X136 A129 rfl (by decide) (v := (.ref r3)) rfl (pc' := 61) rfl d5_60 ?_
  refine go_iload C X136 63 rfl d5_61 rfl ?_
  refine go_iconst C X136 64 rfl d5_63 (z := 1) rfl ?_
  refine go_iaddL C X136 65 rfl d5_64 (z := (3)) rfl ?_
  refine go_laload C X136 A122 (by decide) (v := (.long t4)) rfl (pc' := 66) rfl d5_65 ?_
  refine go_aloadN C X136 67 rfl d5_66 rfl rfl ?_
  refine go_getF C X136 (C.w 16 rfl) Via.refl F124 (pc' := 70) rfl d5_67 (fun T137 X138 => ?_)
  refine go_aloadN C X138 71 rfl d5_70 rfl rfl ?_
  refine go_getF C X138 (C.w 27 rfl) Via.refl F125 (pc' := 74) rfl d5_71 (fun T139 X140 => ?_)
  refine go_iload C X140 76 rfl d5_74 rfl ?_
  refine go_iaload C X140 A128 (by decide) (v := (.int m2)) rfl (pc' := 77) rfl d5_76 ?_
  refine go_iaload C X140 A127 b2.1 (v := (.int (at32 sz m2))) (ia_at b2.1 (by rw [hl]; exact b2.2)) (pc' := 78) rfl d5_77 ?_
  rw [z2]
  refine go_i2l C X140 79 rfl d5_78 ?_
  refine go_aloadN C X140 80 rfl d5_79 rfl rfl ?_
  refine go_iloadN C X140 81 rfl d5_80 rfl ?_
  refine go_iconst C X140 82 rfl d5_81 (z := 1) rfl ?_
  refine go_isubL C X140 83 rfl d5_82 (z := (2)) rfl ?_
  refine go_aaload C X140 A129 rfl (by decide) (v := (.ref r2)) rfl (pc' := 84) rfl d5_83 ?_
  refine go_iload C X140 86 rfl d5_84 rfl ?_
  refine go_iconst C X140 87 rfl d5_86 (z := 1) rfl ?_
  refine go_iaddL C X140 88 rfl d5_87 (z := (3)) rfl ?_
  refine go_laload C X140 A131 (by decide) (v := (.long t2)) rfl (pc' := 89) rfl d5_88 ?_
  refine go_lmul C X140 90 rfl d5_89 ?_
  refine go_ladd C X140 91 rfl d5_90 ?_
  generalize et5 : (t4 + ((s2.toInt64) * t2)) = t5
  refine go_lastore C X140 A122 (by decide) (by show _ < (5 : Int); decide) ga_r3 (pc' := 92) rfl d5_91 (fun T141 h143 W144 A145 X142 => ?_)
  have E146 := E123.wr W144
  have F147 := F124.other W144 (Or.inl ne_a_r3)
  have F148 := F125.other W144 (Or.inl ne_a_r3)
  have F149 := F126.other W144 (Or.inl ne_a_r3)
  have A150 := A127.other W144 ne_sb_r3
  have A151 := A128.other W144 ne_mb_r3
  have A152 := A129.other W144 ne_ob_r3
  have A153 := A130.other W144 ne_r1_r3
  have A154 := A131.other W144 ne_r2_r3
  have A155 := A132.other W144 (Ne.symm ne_r3_r4)
  have A156 := A133.other W144 ne_r0_r3
  have K157 := K134.wr W144 (Or.inr sz_r3)
  replace A145 : La Z h143 r3 .long ([(.long (0 : Int64)), (.long (0 : Int64)), (.long t5), (.long t4), (.long (0 : Int64))]) := A145
  refine go_iinc C X142 95 rfl d5_92 rfl (z := (-1)) rfl #[rv a, iv (4 : Int32), rv ob, iv (3 : Int32), iv (1 : Int32)] rfl ?_
  refine go_goto C X142 d5_95 (pc' := 42) (by decide) (by decide) ?_
  refine go_iload C X142 44 rfl d5_42 rfl ?_
  refine go_aloadN C X142 45 rfl d5_44 rfl rfl ?_
  refine go_getF C X142 (C.w 35 rfl) Via.refl F149 (pc' := 48) rfl d5_45 (fun T158 X159 => ?_)
  refine go_iloadN C X159 49 rfl d5_48 rfl ?_
  refine go_isubL C X159 50 rfl d5_49 (z := (1)) rfl ?_
  refine go_icmp_lt C X159 d5_50 (pc' := 53) (pc2 := 98) rfl (by decide) (by decide) (fun (c50 : 1 < 1) => False.elim (by first | omega | exact absurd c50 (by decide))) (fun (c50 : 1 ≤ 1) => ?_)
  refine go_aloadN C X159 54 rfl d5_53 rfl rfl ?_
  refine go_iloadN C X159 55 rfl d5_54 rfl ?_
  refine go_aaload C X159 A152 rfl (by decide) (v := (.ref r3)) rfl (pc' := 56) rfl d5_55 ?_
  refine go_iload C X159 58 rfl d5_56 rfl ?_
  refine go_aloadN C X159 59 rfl d5_58 rfl rfl ?_
  refine go_iloadN C X159 60 rfl d5_59 rfl ?_
  refine go_aaload C X159 A152 rfl (by decide) (v := (.ref r3)) rfl (pc' := 61) rfl d5_60 ?_
  refine go_iload C X159 63 rfl d5_61 rfl ?_
  refine go_iconst C X159 64 rfl d5_63 (z := 1) rfl ?_
  refine go_iaddL C X159 65 rfl d5_64 (z := (2)) rfl ?_
  refine go_laload C X159 A145 (by decide) (v := (.long t5)) rfl (pc' := 66) rfl d5_65 ?_
  refine go_aloadN C X159 67 rfl d5_66 rfl rfl ?_
  refine go_getF C X159 (C.w 16 rfl) Via.refl F147 (pc' := 70) rfl d5_67 (fun T160 X161 => ?_)
  refine go_aloadN C X161 71 rfl d5_70 rfl rfl ?_
  refine go_getF C X161 (C.w 27 rfl) Via.refl F148 (pc' := 74) rfl d5_71 (fun T162 X163 => ?_)
  refine go_iload C X163 76 rfl d5_74 rfl ?_
  refine go_iaload C X163 A151 (by decide) (v := (.int m1)) rfl (pc' := 77) rfl d5_76 ?_
  refine go_iaload C X163 A150 b1.1 (v := (.int (at32 sz m1))) (ia_at b1.1 (by rw [hl]; exact b1.2)) (pc' := 78) rfl d5_77 ?_
  rw [z1]
  refine go_i2l C X163 79 rfl d5_78 ?_
  refine go_aloadN C X163 80 rfl d5_79 rfl rfl ?_
  refine go_iloadN C X163 81 rfl d5_80 rfl ?_
  refine go_iconst C X163 82 rfl d5_81 (z := 1) rfl ?_
  refine go_isubL C X163 83 rfl d5_82 (z := (2)) rfl ?_
  refine go_aaload C X163 A152 rfl (by decide) (v := (.ref r2)) rfl (pc' := 84) rfl d5_83 ?_
  refine go_iload C X163 86 rfl d5_84 rfl ?_
  refine go_iconst C X163 87 rfl d5_86 (z := 1) rfl ?_
  refine go_iaddL C X163 88 rfl d5_87 (z := (2)) rfl ?_
  refine go_laload C X163 A154 (by decide) (v := (.long t3)) rfl (pc' := 89) rfl d5_88 ?_
  refine go_lmul C X163 90 rfl d5_89 ?_
  refine go_ladd C X163 91 rfl d5_90 ?_
  generalize et6 : (t5 + ((s1.toInt64) * t3)) = t6
  refine go_lastore C X163 A145 (by decide) (by show _ < (5 : Int); decide) ga_r3 (pc' := 92) rfl d5_91 (fun T164 h166 W167 A168 X165 => ?_)
  have E169 := E146.wr W167
  have F170 := F147.other W167 (Or.inl ne_a_r3)
  have F171 := F148.other W167 (Or.inl ne_a_r3)
  have F172 := F149.other W167 (Or.inl ne_a_r3)
  have A173 := A150.other W167 ne_sb_r3
  have A174 := A151.other W167 ne_mb_r3
  have A175 := A152.other W167 ne_ob_r3
  have A176 := A153.other W167 ne_r1_r3
  have A177 := A154.other W167 ne_r2_r3
  have A178 := A155.other W167 (Ne.symm ne_r3_r4)
  have A179 := A156.other W167 ne_r0_r3
  have K180 := K157.wr W167 (Or.inr sz_r3)
  replace A168 : La Z h166 r3 .long ([(.long (0 : Int64)), (.long t6), (.long t5), (.long t4), (.long (0 : Int64))]) := A168
  refine go_iinc C X165 95 rfl d5_92 rfl (z := (-1)) rfl #[rv a, iv (4 : Int32), rv ob, iv (3 : Int32), iv (0 : Int32)] rfl ?_
  refine go_goto C X165 d5_95 (pc' := 42) (by decide) (by decide) ?_
  refine go_iload C X165 44 rfl d5_42 rfl ?_
  refine go_aloadN C X165 45 rfl d5_44 rfl rfl ?_
  refine go_getF C X165 (C.w 35 rfl) Via.refl F172 (pc' := 48) rfl d5_45 (fun T181 X182 => ?_)
  refine go_iloadN C X182 49 rfl d5_48 rfl ?_
  refine go_isubL C X182 50 rfl d5_49 (z := (1)) rfl ?_
  refine go_icmp_lt C X182 d5_50 (pc' := 53) (pc2 := 98) rfl (by decide) (by decide) (fun (c50 : 0 < 1) => ?_) (fun (c50 : 1 ≤ 0) => False.elim (by first | omega | exact absurd c50 (by decide)))
  refine go_iinc C X182 101 rfl d5_98 rfl (z := 1) rfl #[rv a, iv (4 : Int32), rv ob, iv (4 : Int32), iv (0 : Int32)] rfl ?_
  refine go_goto C X182 d5_101 (pc' := 29) (by decide) (by decide) ?_
  refine go_iloadN C X182 30 rfl d5_29 rfl ?_
  refine go_aloadN C X182 31 rfl d5_30 rfl rfl ?_
  refine go_getF C X182 (C.w 35 rfl) Via.refl F172 (pc' := 34) rfl d5_31 (fun T183 X184 => ?_)
  refine go_icmp_gt C X184 d5_34 (pc' := 37) (pc2 := 104) rfl (by decide) (by decide) (fun (c34 : 4 < 4) => False.elim (by first | omega | exact absurd c34 (by decide))) (fun (c34 : 4 ≤ 4) => ?_)
  refine go_iloadN C X184 38 rfl d5_37 rfl ?_
  refine go_iconst C X184 39 rfl d5_38 (z := 1) rfl ?_
  refine go_isubL C X184 40 rfl d5_39 (z := (3)) rfl ?_
  refine go_istore C X184 42 rfl d5_40 #[rv a, iv (4 : Int32), rv ob, iv (4 : Int32), iv (3 : Int32)] rfl ?_
  refine go_iload C X184 44 rfl d5_42 rfl ?_
  refine go_aloadN C X184 45 rfl d5_44 rfl rfl ?_
  refine go_getF C X184 (C.w 35 rfl) Via.refl F172 (pc' := 48) rfl d5_45 (fun T185 X186 => ?_)
  refine go_iloadN C X186 49 rfl d5_48 rfl ?_
  refine go_isubL C X186 50 rfl d5_49 (z := (0)) rfl ?_
  refine go_icmp_lt C X186 d5_50 (pc' := 53) (pc2 := 98) rfl (by decide) (by decide) (fun (c50 : 3 < 0) => False.elim (by first | omega | exact absurd c50 (by decide))) (fun (c50 : 0 ≤ 3) => ?_)
  refine go_aloadN C X186 54 rfl d5_53 rfl rfl ?_
  refine go_iloadN C X186 55 rfl d5_54 rfl ?_
  refine go_aaload C X186 A175 rfl (by decide) (v := (.ref r4)) rfl (pc' := 56) rfl d5_55 ?_
  refine go_iload C X186 58 rfl d5_56 rfl ?_
  refine go_aloadN C X186 59 rfl d5_58 rfl rfl ?_
  refine go_iloadN C X186 60 rfl d5_59 rfl ?_
  refine go_aaload C X186 A175 rfl (by decide) (v := (.ref r4)) rfl (pc' := 61) rfl d5_60 ?_
  refine go_iload C X186 63 rfl d5_61 rfl ?_
  refine go_iconst C X186 64 rfl d5_63 (z := 1) rfl ?_
  refine go_iaddL C X186 65 rfl d5_64 (z := (4)) rfl ?_
  refine go_laload C X186 A178 (by decide) (v := (.long (0 : Int64))) rfl (pc' := 66) rfl d5_65 ?_
  refine go_aloadN C X186 67 rfl d5_66 rfl rfl ?_
  refine go_getF C X186 (C.w 16 rfl) Via.refl F170 (pc' := 70) rfl d5_67 (fun T187 X188 => ?_)
  refine go_aloadN C X188 71 rfl d5_70 rfl rfl ?_
  refine go_getF C X188 (C.w 27 rfl) Via.refl F171 (pc' := 74) rfl d5_71 (fun T189 X190 => ?_)
  refine go_iload C X190 76 rfl d5_74 rfl ?_
  refine go_iaload C X190 A174 (by decide) (v := (.int m3)) rfl (pc' := 77) rfl d5_76 ?_
  refine go_iaload C X190 A173 b3.1 (v := (.int (at32 sz m3))) (ia_at b3.1 (by rw [hl]; exact b3.2)) (pc' := 78) rfl d5_77 ?_
  rw [z3]
  refine go_i2l C X190 79 rfl d5_78 ?_
  refine go_aloadN C X190 80 rfl d5_79 rfl rfl ?_
  refine go_iloadN C X190 81 rfl d5_80 rfl ?_
  refine go_iconst C X190 82 rfl d5_81 (z := 1) rfl ?_
  refine go_isubL C X190 83 rfl d5_82 (z := (3)) rfl ?_
  refine go_aaload C X190 A175 rfl (by decide) (v := (.ref r3)) rfl (pc' := 84) rfl d5_83 ?_
  refine go_iload C X190 86 rfl d5_84 rfl ?_
  refine go_iconst C X190 87 rfl d5_86 (z := 1) rfl ?_
  refine go_iaddL C X190 88 rfl d5_87 (z := (4)) rfl ?_
  refine go_laload C X190 A168 (by decide) (v := (.long (0 : Int64))) rfl (pc' := 89) rfl d5_88 ?_
  refine go_lmul C X190 90 rfl d5_89 ?_
  refine go_ladd C X190 91 rfl d5_90 ?_
  generalize et7 : ((0 : Int64) + ((s3.toInt64) * (0 : Int64))) = t7
  refine go_lastore C X190 A178 (by decide) (by show _ < (5 : Int); decide) ga_r4 (pc' := 92) rfl d5_91 (fun T191 h193 W194 A195 X192 => ?_)
  have E196 := E169.wr W194
  have F197 := F170.other W194 (Or.inl ne_a_r4)
  have F198 := F171.other W194 (Or.inl ne_a_r4)
  have F199 := F172.other W194 (Or.inl ne_a_r4)
  have A200 := A173.other W194 ne_sb_r4
  have A201 := A174.other W194 ne_mb_r4
  have A202 := A175.other W194 ne_ob_r4
  have A203 := A176.other W194 ne_r1_r4
  have A204 := A177.other W194 ne_r2_r4
  have A205 := A168.other W194 ne_r3_r4
  have A206 := A179.other W194 ne_r0_r4
  have K207 := K180.wr W194 (Or.inr sz_r4)
  replace A195 : La Z h193 r4 .long ([(.long (0 : Int64)), (.long (0 : Int64)), (.long (0 : Int64)), (.long t7), (.long (0 : Int64))]) := A195
  refine go_iinc C X192 95 rfl d5_92 rfl (z := (-1)) rfl #[rv a, iv (4 : Int32), rv ob, iv (4 : Int32), iv (2 : Int32)] rfl ?_
  refine go_goto C X192 d5_95 (pc' := 42) (by decide) (by decide) ?_
  refine go_iload C X192 44 rfl d5_42 rfl ?_
  refine go_aloadN C X192 45 rfl d5_44 rfl rfl ?_
  refine go_getF C X192 (C.w 35 rfl) Via.refl F199 (pc' := 48) rfl d5_45 (fun T208 X209 => ?_)
  refine go_iloadN C X209 49 rfl d5_48 rfl ?_
  refine go_isubL C X209 50 rfl d5_49 (z := (0)) rfl ?_
  refine go_icmp_lt C X209 d5_50 (pc' := 53) (pc2 := 98) rfl (by decide) (by decide) (fun (c50 : 2 < 0) => False.elim (by first | omega | exact absurd c50 (by decide))) (fun (c50 : 0 ≤ 2) => ?_)
  refine go_aloadN C X209 54 rfl d5_53 rfl rfl ?_
  refine go_iloadN C X209 55 rfl d5_54 rfl ?_
  refine go_aaload C X209 A202 rfl (by decide) (v := (.ref r4)) rfl (pc' := 56) rfl d5_55 ?_
  refine go_iload C X209 58 rfl d5_56 rfl ?_
  refine go_aloadN C X209 59 rfl d5_58 rfl rfl ?_
  refine go_iloadN C X209 60 rfl d5_59 rfl ?_
  refine go_aaload C X209 A202 rfl (by decide) (v := (.ref r4)) rfl (pc' := 61) rfl d5_60 ?_
  refine go_iload C X209 63 rfl d5_61 rfl ?_
  refine go_iconst C X209 64 rfl d5_63 (z := 1) rfl ?_
  refine go_iaddL C X209 65 rfl d5_64 (z := (3)) rfl ?_
  refine go_laload C X209 A195 (by decide) (v := (.long t7)) rfl (pc' := 66) rfl d5_65 ?_
  refine go_aloadN C X209 67 rfl d5_66 rfl rfl ?_
  refine go_getF C X209 (C.w 16 rfl) Via.refl F197 (pc' := 70) rfl d5_67 (fun T210 X211 => ?_)
  refine go_aloadN C X211 71 rfl d5_70 rfl rfl ?_
  refine go_getF C X211 (C.w 27 rfl) Via.refl F198 (pc' := 74) rfl d5_71 (fun T212 X213 => ?_)
  refine go_iload C X213 76 rfl d5_74 rfl ?_
  refine go_iaload C X213 A201 (by decide) (v := (.int m2)) rfl (pc' := 77) rfl d5_76 ?_
  refine go_iaload C X213 A200 b2.1 (v := (.int (at32 sz m2))) (ia_at b2.1 (by rw [hl]; exact b2.2)) (pc' := 78) rfl d5_77 ?_
  rw [z2]
  refine go_i2l C X213 79 rfl d5_78 ?_
  refine go_aloadN C X213 80 rfl d5_79 rfl rfl ?_
  refine go_iloadN C X213 81 rfl d5_80 rfl ?_
  refine go_iconst C X213 82 rfl d5_81 (z := 1) rfl ?_
  refine go_isubL C X213 83 rfl d5_82 (z := (3)) rfl ?_
  refine go_aaload C X213 A202 rfl (by decide) (v := (.ref r3)) rfl (pc' := 84) rfl d5_83 ?_
  refine go_iload C X213 86 rfl d5_84 rfl ?_
  refine go_iconst C X213 87 rfl d5_86 (z := 1) rfl ?_
  refine go_iaddL C X213 88 rfl d5_87 (z := (3)) rfl ?_
  refine go_laload C X213 A205 (by decide) (v := (.long t4)) rfl (pc' := 89) rfl d5_88 ?_
  refine go_lmul C X213 90 rfl d5_89 ?_
  refine go_ladd C X213 91 rfl d5_90 ?_
  generalize et8 : (t7 + ((s2.toInt64) * t4)) = t8
  refine go_lastore C X213 A195 (by decide) (by show _ < (5 : Int); decide) ga_r4 (pc' := 92) rfl d5_91 (fun T214 h216 W217 A218 X215 => ?_)
  have E219 := E196.wr W217
  have F220 := F197.other W217 (Or.inl ne_a_r4)
  have F221 := F198.other W217 (Or.inl ne_a_r4)
  have F222 := F199.other W217 (Or.inl ne_a_r4)
  have A223 := A200.other W217 ne_sb_r4
  have A224 := A201.other W217 ne_mb_r4
  have A225 := A202.other W217 ne_ob_r4
  have A226 := A203.other W217 ne_r1_r4
  have A227 := A204.other W217 ne_r2_r4
  have A228 := A205.other W217 ne_r3_r4
  have A229 := A206.other W217 ne_r0_r4
  have K230 := K207.wr W217 (Or.inr sz_r4)
  replace A218 : La Z h216 r4 .long ([(.long (0 : Int64)), (.long (0 : Int64)), (.long t8), (.long t7), (.long (0 : Int64))]) := A218
  refine go_iinc C X215 95 rfl d5_92 rfl (z := (-1)) rfl #[rv a, iv (4 : Int32), rv ob, iv (4 : Int32), iv (1 : Int32)] rfl ?_
  refine go_goto C X215 d5_95 (pc' := 42) (by decide) (by decide) ?_
  refine go_iload C X215 44 rfl d5_42 rfl ?_
  refine go_aloadN C X215 45 rfl d5_44 rfl rfl ?_
  refine go_getF C X215 (C.w 35 rfl) Via.refl F222 (pc' := 48) rfl d5_45 (fun T231 X232 => ?_)
  refine go_iloadN C X232 49 rfl d5_48 rfl ?_
  refine go_isubL C X232 50 rfl d5_49 (z := (0)) rfl ?_
  refine go_icmp_lt C X232 d5_50 (pc' := 53) (pc2 := 98) rfl (by decide) (by decide) (fun (c50 : 1 < 0) => False.elim (by first | omega | exact absurd c50 (by decide))) (fun (c50 : 0 ≤ 1) => ?_)
  refine go_aloadN C X232 54 rfl d5_53 rfl rfl ?_
  refine go_iloadN C X232 55 rfl d5_54 rfl ?_
  refine go_aaload C X232 A225 rfl (by decide) (v := (.ref r4)) rfl (pc' := 56) rfl d5_55 ?_
  refine go_iload C X232 58 rfl d5_56 rfl ?_
  refine go_aloadN C X232 59 rfl d5_58 rfl rfl ?_
  refine go_iloadN C X232 60 rfl d5_59 rfl ?_
  refine go_aaload C X232 A225 rfl (by decide) (v := (.ref r4)) rfl (pc' := 61) rfl d5_60 ?_
  refine go_iload C X232 63 rfl d5_61 rfl ?_
  refine go_iconst C X232 64 rfl d5_63 (z := 1) rfl ?_
  refine go_iaddL C X232 65 rfl d5_64 (z := (2)) rfl ?_
  refine go_laload C X232 A218 (by decide) (v := (.long t8)) rfl (pc' := 66) rfl d5_65 ?_
  refine go_aloadN C X232 67 rfl d5_66 rfl rfl ?_
  refine go_getF C X232 (C.w 16 rfl) Via.refl F220 (pc' := 70) rfl d5_67 (fun T233 X234 => ?_)
  refine go_aloadN C X234 71 rfl d5_70 rfl rfl ?_
  refine go_getF C X234 (C.w 27 rfl) Via.refl F221 (pc' := 74) rfl d5_71 (fun T235 X236 => ?_)
  refine go_iload C X236 76 rfl d5_74 rfl ?_
  refine go_iaload C X236 A224 (by decide) (v := (.int m1)) rfl (pc' := 77) rfl d5_76 ?_
  refine go_iaload C X236 A223 b1.1 (v := (.int (at32 sz m1))) (ia_at b1.1 (by rw [hl]; exact b1.2)) (pc' := 78) rfl d5_77 ?_
  rw [z1]
  refine go_i2l C X236 79 rfl d5_78 ?_
  refine go_aloadN C X236 80 rfl d5_79 rfl rfl ?_
  refine go_iloadN C X236 81 rfl d5_80 rfl ?_
  refine go_iconst C X236 82 rfl d5_81 (z := 1) rfl ?_
  refine go_isubL C X236 83 rfl d5_82 (z := (3)) rfl ?_
  refine go_aaload C X236 A225 rfl (by decide) (v := (.ref r3)) rfl (pc' := 84) rfl d5_83 ?_
  refine go_iload C X236 86 rfl d5_84 rfl ?_
  refine go_iconst C X236 87 rfl d5_86 (z := 1) rfl ?_
  refine go_iaddL C X236 88 rfl d5_87 (z := (2)) rfl ?_
  refine go_laload C X236 A228 (by decide) (v := (.long t5)) rfl (pc' := 89) rfl d5_88 ?_
  refine go_lmul C X236 90 rfl d5_89 ?_
  refine go_ladd C X236 91 rfl d5_90 ?_
  generalize et9 : (t8 + ((s1.toInt64) * t5)) = t9
  refine go_lastore C X236 A218 (by decide) (by show _ < (5 : Int); decide) ga_r4 (pc' := 92) rfl d5_91 (fun T237 h239 W240 A241 X238 => ?_)
  have E242 := E219.wr W240
  have F243 := F220.other W240 (Or.inl ne_a_r4)
  have F244 := F221.other W240 (Or.inl ne_a_r4)
  have F245 := F222.other W240 (Or.inl ne_a_r4)
  have A246 := A223.other W240 ne_sb_r4
  have A247 := A224.other W240 ne_mb_r4
  have A248 := A225.other W240 ne_ob_r4
  have A249 := A226.other W240 ne_r1_r4
  have A250 := A227.other W240 ne_r2_r4
  have A251 := A228.other W240 ne_r3_r4
  have A252 := A229.other W240 ne_r0_r4
  have K253 := K230.wr W240 (Or.inr sz_r4)
  replace A241 : La Z h239 r4 .long ([(.long (0 : Int64)), (.long t9), (.long t8), (.long t7), (.long (0 : Int64))]) := A241
  refine go_iinc C X238 95 rfl d5_92 rfl (z := (-1)) rfl #[rv a, iv (4 : Int32), rv ob, iv (4 : Int32), iv (0 : Int32)] rfl ?_
  refine go_goto C X238 d5_95 (pc' := 42) (by decide) (by decide) ?_
  refine go_iload C X238 44 rfl d5_42 rfl ?_
  refine go_aloadN C X238 45 rfl d5_44 rfl rfl ?_
  refine go_getF C X238 (C.w 35 rfl) Via.refl F245 (pc' := 48) rfl d5_45 (fun T254 X255 => ?_)
  refine go_iloadN C X255 49 rfl d5_48 rfl ?_
  refine go_isubL C X255 50 rfl d5_49 (z := (0)) rfl ?_
  refine go_icmp_lt C X255 d5_50 (pc' := 53) (pc2 := 98) rfl (by decide) (by decide) (fun (c50 : 0 < 0) => False.elim (by first | omega | exact absurd c50 (by decide))) (fun (c50 : 0 ≤ 0) => ?_)
  refine go_aloadN C X255 54 rfl d5_53 rfl rfl ?_
  refine go_iloadN C X255 55 rfl d5_54 rfl ?_
  refine go_aaload C X255 A248 rfl (by decide) (v := (.ref r4)) rfl (pc' := 56) rfl d5_55 ?_
  refine go_iload C X255 58 rfl d5_56 rfl ?_
  refine go_aloadN C X255 59 rfl d5_58 rfl rfl ?_
  refine go_iloadN C X255 60 rfl d5_59 rfl ?_
  refine go_aaload C X255 A248 rfl (by decide) (v := (.ref r4)) rfl (pc' := 61) rfl d5_60 ?_
  refine go_iload C X255 63 rfl d5_61 rfl ?_
  refine go_iconst C X255 64 rfl d5_63 (z := 1) rfl ?_
  refine go_iaddL C X255 65 rfl d5_64 (z := (1)) rfl ?_
  refine go_laload C X255 A241 (by decide) (v := (.long t9)) rfl (pc' := 66) rfl d5_65 ?_
  refine go_aloadN C X255 67 rfl d5_66 rfl rfl ?_
  refine go_getF C X255 (C.w 16 rfl) Via.refl F243 (pc' := 70) rfl d5_67 (fun T256 X257 => ?_)
  refine go_aloadN C X257 71 rfl d5_70 rfl rfl ?_
  refine go_getF C X257 (C.w 27 rfl) Via.refl F244 (pc' := 74) rfl d5_71 (fun T258 X259 => ?_)
  refine go_iload C X259 76 rfl d5_74 rfl ?_
  refine go_iaload C X259 A247 (by decide) (v := (.int m0)) rfl (pc' := 77) rfl d5_76 ?_
  refine go_iaload C X259 A246 b0.1 (v := (.int (at32 sz m0))) (ia_at b0.1 (by rw [hl]; exact b0.2)) (pc' := 78) rfl d5_77 ?_
  rw [z0]
  refine go_i2l C X259 79 rfl d5_78 ?_
  refine go_aloadN C X259 80 rfl d5_79 rfl rfl ?_
  refine go_iloadN C X259 81 rfl d5_80 rfl ?_
  refine go_iconst C X259 82 rfl d5_81 (z := 1) rfl ?_
  refine go_isubL C X259 83 rfl d5_82 (z := (3)) rfl ?_
  refine go_aaload C X259 A248 rfl (by decide) (v := (.ref r3)) rfl (pc' := 84) rfl d5_83 ?_
  refine go_iload C X259 86 rfl d5_84 rfl ?_
  refine go_iconst C X259 87 rfl d5_86 (z := 1) rfl ?_
  refine go_iaddL C X259 88 rfl d5_87 (z := (1)) rfl ?_
  refine go_laload C X259 A251 (by decide) (v := (.long t6)) rfl (pc' := 89) rfl d5_88 ?_
  refine go_lmul C X259 90 rfl d5_89 ?_
  refine go_ladd C X259 91 rfl d5_90 ?_
  generalize et10 : (t9 + ((s0.toInt64) * t6)) = t10
  refine go_lastore C X259 A241 (by decide) (by show _ < (5 : Int); decide) ga_r4 (pc' := 92) rfl d5_91 (fun T260 h262 W263 A264 X261 => ?_)
  have E265 := E242.wr W263
  have F266 := F243.other W263 (Or.inl ne_a_r4)
  have F267 := F244.other W263 (Or.inl ne_a_r4)
  have F268 := F245.other W263 (Or.inl ne_a_r4)
  have A269 := A246.other W263 ne_sb_r4
  have A270 := A247.other W263 ne_mb_r4
  have A271 := A248.other W263 ne_ob_r4
  have A272 := A249.other W263 ne_r1_r4
  have A273 := A250.other W263 ne_r2_r4
  have A274 := A251.other W263 ne_r3_r4
  have A275 := A252.other W263 ne_r0_r4
  have K276 := K253.wr W263 (Or.inr sz_r4)
  replace A264 : La Z h262 r4 .long ([(.long t10), (.long t9), (.long t8), (.long t7), (.long (0 : Int64))]) := A264
  refine go_iinc C X261 95 rfl d5_92 rfl (z := (-1)) rfl #[rv a, iv (4 : Int32), rv ob, iv (4 : Int32), iv (-1 : Int32)] rfl ?_
  refine go_goto C X261 d5_95 (pc' := 42) (by decide) (by decide) ?_
  refine go_iload C X261 44 rfl d5_42 rfl ?_
  refine go_aloadN C X261 45 rfl d5_44 rfl rfl ?_
  refine go_getF C X261 (C.w 35 rfl) Via.refl F268 (pc' := 48) rfl d5_45 (fun T277 X278 => ?_)
  refine go_iloadN C X278 49 rfl d5_48 rfl ?_
  refine go_isubL C X278 50 rfl d5_49 (z := (0)) rfl ?_
  refine go_icmp_lt C X278 d5_50 (pc' := 53) (pc2 := 98) rfl (by decide) (by decide) (fun (c50 : (-1) < 0) => ?_) (fun (c50 : 0 ≤ (-1)) => False.elim (by first | omega | exact absurd c50 (by decide)))
  refine go_iinc C X278 101 rfl d5_98 rfl (z := 1) rfl #[rv a, iv (4 : Int32), rv ob, iv (5 : Int32), iv (-1 : Int32)] rfl ?_
  refine go_goto C X278 d5_101 (pc' := 29) (by decide) (by decide) ?_
  refine go_iloadN C X278 30 rfl d5_29 rfl ?_
  refine go_aloadN C X278 31 rfl d5_30 rfl rfl ?_
  refine go_getF C X278 (C.w 35 rfl) Via.refl F268 (pc' := 34) rfl d5_31 (fun T279 X280 => ?_)
  refine go_icmp_gt C X280 d5_34 (pc' := 37) (pc2 := 104) rfl (by decide) (by decide) (fun (c34 : 4 < 5) => ?_) (fun (c34 : 5 ≤ 4) => False.elim (by first | omega | exact absurd c34 (by decide)))
  refine go_aloadN C X280 105 rfl d5_104 rfl rfl ?_
  exact go_retA C X280 d5_105 rfl rfl (by subst et10; subst et9; subst et8; subst et7; subst et6; subst et5; subst et4; subst et3; subst et2; subst et1; exact ⟨ob, r0, r1, r2, r3, r4, rfl, K276, sz_ob, sz_r0, sz_r1, sz_r2, sz_r3, sz_r4, A271, A275, A272, A273, A274, A264⟩) (by decide) (by decide)
theorem own_put_hit {xs : List Int32} {i y : Int32} (h0 : 0 ≤ i.toInt) (h1 : i.toInt < xs.length) : at32 (put32 xs i y) i = y := by
  have := clamp_lt h0 h1; simp [at32, put32, this]
theorem own_put_miss {xs : List Int32} {i j y : Int32} (h0 : 0 ≤ i.toInt) (h1 : 0 ≤ j.toInt) (h2 : ¬ i.toInt = j.toInt) : at32 (put32 xs i y) j = at32 xs j := by
  have e1 := clamp_eq h0; have e2 := clamp_eq h1
  have : i.toNatClampNeg ≠ j.toNatClampNeg := fun q => h2 (by omega)
  simp [at32, put32, List.getElem?_set, this]
theorem d2_0 : decode prog_10_method_1_code 0 = .ok (.aload_n 0, 1) := by decide +kernel
theorem d2_1 : decode prog_10_method_1_code 1 = .ok (.invokespecial 1, 3) := by decide +kernel
theorem d2_4 : decode prog_10_method_1_code 4 = .ok (.aload_n 0, 1) := by decide +kernel
theorem d2_5 : decode prog_10_method_1_code 5 = .ok (.aload_n 1, 1) := by decide +kernel
theorem d2_6 : decode prog_10_method_1_code 6 = .ok (.putfield 7, 3) := by decide +kernel
theorem d2_9 : decode prog_10_method_1_code 9 = .ok (.aload_n 0, 1) := by decide +kernel
theorem d2_10 : decode prog_10_method_1_code 10 = .ok (.aload_n 2, 1) := by decide +kernel
theorem d2_11 : decode prog_10_method_1_code 11 = .ok (.invokevirtual 13, 3) := by decide +kernel
theorem d2_14 : decode prog_10_method_1_code 14 = .ok (.checkcast 14, 3) := by decide +kernel
theorem d2_17 : decode prog_10_method_1_code 17 = .ok (.putfield 18, 3) := by decide +kernel
theorem d2_20 : decode prog_10_method_1_code 20 = .ok (.aload_n 0, 1) := by decide +kernel
theorem d2_21 : decode prog_10_method_1_code 21 = .ok (.aload_n 1, 1) := by decide +kernel
theorem d2_22 : decode prog_10_method_1_code 22 = .ok (.arraylength, 1) := by decide +kernel
theorem d2_23 : decode prog_10_method_1_code 23 = .ok (.newarray .int, 2) := by decide +kernel
theorem d2_25 : decode prog_10_method_1_code 25 = .ok (.putfield 21, 3) := by decide +kernel
theorem d2_28 : decode prog_10_method_1_code 28 = .ok (.aload_n 0, 1) := by decide +kernel
theorem d2_29 : decode prog_10_method_1_code 29 = .ok (.getfield 21, 3) := by decide +kernel
theorem d2_32 : decode prog_10_method_1_code 32 = .ok (.iconst (-1), 1) := by decide +kernel
theorem pd_1 : parseMethodDescriptor "([II)V" = some ⟨[(.array .int), .int], none⟩ := by decide +kernel
theorem d2_33 : decode prog_10_method_1_code 33 = .ok (.invokestatic 24, 3) := by decide +kernel
theorem d2_36 : decode prog_10_method_1_code 36 = .ok (.iconst 0, 1) := by decide +kernel
theorem d2_37 : decode prog_10_method_1_code 37 = .ok (.istore 6, 2) := by decide +kernel
theorem d2_39 : decode prog_10_method_1_code 39 = .ok (.iload 6, 2) := by decide +kernel
theorem d2_41 : decode prog_10_method_1_code 41 = .ok (.aload_n 2, 1) := by decide +kernel
theorem d2_42 : decode prog_10_method_1_code 42 = .ok (.arraylength, 1) := by decide +kernel
theorem d2_43 : decode prog_10_method_1_code 43 = .ok (.if_icmp .ge 20, 3) := by decide +kernel
theorem d2_46 : decode prog_10_method_1_code 46 = .ok (.aload_n 0, 1) := by decide +kernel
theorem d2_47 : decode prog_10_method_1_code 47 = .ok (.getfield 21, 3) := by decide +kernel
theorem d2_50 : decode prog_10_method_1_code 50 = .ok (.aload_n 2, 1) := by decide +kernel
theorem d2_51 : decode prog_10_method_1_code 51 = .ok (.iload 6, 2) := by decide +kernel
theorem d2_53 : decode prog_10_method_1_code 53 = .ok (.iaload, 1) := by decide +kernel
theorem d2_54 : decode prog_10_method_1_code 54 = .ok (.iload 6, 2) := by decide +kernel
theorem d2_56 : decode prog_10_method_1_code 56 = .ok (.iastore, 1) := by decide +kernel
theorem d2_57 : decode prog_10_method_1_code 57 = .ok (.iinc 6 1, 3) := by decide +kernel
theorem d2_60 : decode prog_10_method_1_code 60 = .ok (.goto (-21), 3) := by decide +kernel
theorem d2_63 : decode prog_10_method_1_code 63 = .ok (.aload_n 0, 1) := by decide +kernel
theorem d2_64 : decode prog_10_method_1_code 64 = .ok (.iload_n 3, 1) := by decide +kernel
theorem d2_65 : decode prog_10_method_1_code 65 = .ok (.putfield 30, 3) := by decide +kernel
theorem d2_68 : decode prog_10_method_1_code 68 = .ok (.aload_n 0, 1) := by decide +kernel
theorem d2_69 : decode prog_10_method_1_code 69 = .ok (.lload 4, 2) := by decide +kernel
theorem d2_71 : decode prog_10_method_1_code 71 = .ok (.putfield 34, 3) := by decide +kernel
theorem d2_74 : decode prog_10_method_1_code 74 = .ok (.aload_n 0, 1) := by decide +kernel
theorem d2_75 : decode prog_10_method_1_code 75 = .ok (.aload_n 0, 1) := by decide +kernel
theorem pd_2 : parseMethodDescriptor "()[[J" = some ⟨[], some (.array (.array .long))⟩ := by decide +kernel
theorem d2_76 : decode prog_10_method_1_code 76 = .ok (.invokevirtual 38, 3) := by decide +kernel
theorem d2_79 : decode prog_10_method_1_code 79 = .ok (.putfield 42, 3) := by decide +kernel
theorem d2_82 : decode prog_10_method_1_code 82 = .ok (.aload_n 0, 1) := by decide +kernel
theorem d2_83 : decode prog_10_method_1_code 83 = .ok (.aload_n 0, 1) := by decide +kernel
theorem d2_84 : decode prog_10_method_1_code 84 = .ok (.getfield 42, 3) := by decide +kernel
theorem d2_87 : decode prog_10_method_1_code 87 = .ok (.iload_n 3, 1) := by decide +kernel
theorem d2_88 : decode prog_10_method_1_code 88 = .ok (.aaload, 1) := by decide +kernel
theorem d2_89 : decode prog_10_method_1_code 89 = .ok (.iconst 0, 1) := by decide +kernel
theorem d2_90 : decode prog_10_method_1_code 90 = .ok (.laload, 1) := by decide +kernel
theorem d2_91 : decode prog_10_method_1_code 91 = .ok (.putfield 45, 3) := by decide +kernel
theorem d2_94 : decode prog_10_method_1_code 94 = .ok (.return_, 1) := by decide +kernel
theorem ef_own_init_1 (m : MethodId) (a : Addr) (sb : Addr) (mb : Addr) (st : Int64)  : entryFrame m #[(.ref a), (.ref sb), (.ref mb), (.int (1 : Int32)), (.long st)] 7 = mkF m 0 #[rv a, rv sb, rv mb, iv (1 : Int32), jv st, sc, un] [] := by
  first | (simp [entryFrame, mkF, argsToLocals, Value.category]; done) | rfl
set_option maxRecDepth 65536 in
set_option maxHeartbeats 40000000 in
theorem own_init_1 (l : Launch) (Z : State) (a0 : Array Value) (hw : ∀ d ∈ tables_1, d.before a0 Z = true) (a : Addr) (sb : Addr) (mb : Addr) (st : Int64) (sz : List Int32) (m0 m1 m2 m3 s0 s1 s2 s3 : Int32) (h : Heap) (n0 : Nat) (hn0 : Old Z n0 h) (E0 : Exa Z h a "com/example/covertide/covertide/engine/ParameterSets") (F0 : Fld Z h a "com/example/covertide/covertide/engine/ParameterSets" "sizes" "[I" .null) (F1 : Fld Z h a "com/example/covertide/covertide/engine/ParameterSets" "members" "[I" .null) (F2 : Fld Z h a "com/example/covertide/covertide/engine/ParameterSets" "indexOf" "[I" .null) (F3 : Fld Z h a "com/example/covertide/covertide/engine/ParameterSets" "size" "I" (.int (0 : Int32))) (F4 : Fld Z h a "com/example/covertide/covertide/engine/ParameterSets" "start" "J" (.long (0 : Int64))) (F5 : Fld Z h a "com/example/covertide/covertide/engine/ParameterSets" "suffixSums" "[[J" .null) (F6 : Fld Z h a "com/example/covertide/covertide/engine/ParameterSets" "combinations" "J" (.long (0 : Int64))) (A1 : La Z h sb .int (ia sz)) (A2 : La Z h mb .int [(.int m0), (.int m1), (.int m2), (.int m3)]) (EM : Exa Z h mb "[I") (ga : n0 ≤ a) (nas : a ≠ sb) (nam : a ≠ mb) (hl : sz.length = 5) (b0 : 0 ≤ m0.toInt ∧ m0.toInt < (5 : Nat)) (z0 : at32 sz m0 = s0) (b1 : 0 ≤ m1.toInt ∧ m1.toInt < (5 : Nat)) (z1 : at32 sz m1 = s1) (b2 : 0 ≤ m2.toInt ∧ m2.toInt < (5 : Nat)) (z2 : at32 sz m2 = s2) (b3 : 0 ≤ m3.toInt ∧ m3.toInt < (5 : Nat)) (z3 : at32 sz m3 = s3) :
    Con l Z (⟨"com/example/covertide/covertide/engine/ParameterSets", "<init>", "([I[IIJ)V"⟩ : MethodName) prog_10_method_1_code 7 none ({ frames := 2, cells := 5, slots := 21, locals := 33 } : Room) #[(.ref a), (.ref sb), (.ref mb), (.int (1 : Int32)), (.long st)] h n0 (fun v h' => v = none ∧ ∃ xb ob r0 r1 : Addr, Keep h h' [a] ∧ Exa Z h' a "com/example/covertide/covertide/engine/ParameterSets" ∧ Fld Z h' a "com/example/covertide/covertide/engine/ParameterSets" "sizes" "[I" (.ref sb) ∧ Fld Z h' a "com/example/covertide/covertide/engine/ParameterSets" "indexOf" "[I" (.ref xb) ∧ Fld Z h' a "com/example/covertide/covertide/engine/ParameterSets" "start" "J" (.long st) ∧ Fld Z h' a "com/example/covertide/covertide/engine/ParameterSets" "suffixSums" "[[J" (.ref ob) ∧ h.size ≤ xb ∧ h.size ≤ ob ∧ h.size ≤ r0 ∧ h.size ≤ r1 ∧ La Z h' xb .int (ia (put32 (put32 (put32 (put32 [-1, -1, -1, -1, -1] m0 0) m1 1) m2 2) m3 3)) ∧ La Z h' ob (.array .long) [(.ref r0), (.ref r1)] ∧ La Z h' r0 .long [(.long (1 : Int64)), (.long (1 : Int64)), (.long (1 : Int64)), (.long (1 : Int64)), (.long (1 : Int64))] ∧ La Z h' r1 .long [(.long (((((0 : Int64) + (s3.toInt64 * (1 : Int64))) + (s2.toInt64 * (1 : Int64))) + (s1.toInt64 * (1 : Int64))) + (s0.toInt64 * (1 : Int64)))), (.long ((((0 : Int64) + (s3.toInt64 * (1 : Int64))) + (s2.toInt64 * (1 : Int64))) + (s1.toInt64 * (1 : Int64)))), (.long (((0 : Int64) + (s3.toInt64 * (1 : Int64))) + (s2.toInt64 * (1 : Int64)))), (.long ((0 : Int64) + (s3.toInt64 * (1 : Int64)))), (.long (0 : Int64))]) := by
  refine con_of hw (plainFor_of_name pn_com_example_covertide_covertide_engine_ParameterSets) hn0 ?_
  intro p e s m below meth c T0 C X0
  refine Go.cast (congrArg T0.setTop (ef_own_init_1 m a sb mb st)) ?_
  refine go_aloadN C X0 1 rfl d2_0 rfl rfl ?_
  refine go_initO C X0 (C.w 13 rfl) (C.w 14 rfl) (C.w 15 rfl) (by decide) (Nat.le_of_ble_eq_true rfl) rfl (pc' := 4) rfl d2_1 (fun T1 X2 => ?_)
  refine go_aloadN C X2 5 rfl d2_4 rfl rfl ?_
  refine go_aloadN C X2 6 rfl d2_5 rfl rfl ?_
  refine go_putF C X2 (C.w 16 rfl) Via.refl F0 E0 (Or.inr ⟨C.w 17 rfl, rfl, C.nmE⟩) (C.w 8 rfl) ga (ty := (.array .int)) (by decide) rfl rfl (pc' := 9) rfl d2_6 (fun T3 h5 W6 X4 => ?_)
  have F7 := F0.same W6
  have E8 := E0.wr W6
  have F9 := F1.other W6 (Or.inr (slot_ne (Or.inr (C.w 28 rfl)) (Or.inr (C.w 17 rfl)) (by decide) (t := (.array .int)) (t' := (.array .int)) (by decide) (by decide)))
  have F10 := F2.other W6 (Or.inr (slot_ne (Or.inr (C.w 30 rfl)) (Or.inr (C.w 17 rfl)) (by decide) (t := (.array .int)) (t' := (.array .int)) (by decide) (by decide)))
  have F11 := F3.other W6 (Or.inr (slot_ne (Or.inr (C.w 36 rfl)) (Or.inr (C.w 17 rfl)) (by decide) (t := .int) (t' := (.array .int)) (by decide) (by decide)))
  have F12 := F4.other W6 (Or.inr (slot_ne (Or.inr (C.w 38 rfl)) (Or.inr (C.w 17 rfl)) (by decide) (t := .long) (t' := (.array .int)) (by decide) (by decide)))
  have F13 := F5.other W6 (Or.inr (slot_ne (Or.inr (C.w 50 rfl)) (Or.inr (C.w 17 rfl)) (by decide) (t := (.array (.array .long))) (t' := (.array .int)) (by decide) (by decide)))
  have F14 := F6.other W6 (Or.inr (slot_ne (Or.inr (C.w 52 rfl)) (Or.inr (C.w 17 rfl)) (by decide) (t := .long) (t' := (.array .int)) (by decide) (by decide)))
  have A15 := A1.other W6 (Ne.symm nas)
  have A16 := A2.other W6 (Ne.symm nam)
  have E17 := EM.wr W6
  have K18 := (Keep.refl h [a]).wr W6 (Or.inl (List.mem_of_getElem? (i := 0) rfl))
  refine go_aloadN C X4 10 rfl d2_9 rfl rfl ?_
  refine go_aloadN C X4 11 rfl d2_10 rfl rfl ?_
  refine go_clone C X4 (cap := 4) (C.w 18 rfl) (C.w 19 rfl) (C.w 23 rfl) (C.w 21 rfl) (C.w 22 rfl) (C.w 24 rfl) A16 E17 (by first | decide | exact Nat.le_of_ble_eq_true rfl) (by first | decide | exact Nat.le_of_ble_eq_true rfl) (by first | decide | exact Nat.le_of_ble_eq_true rfl) (by first | decide | exact Nat.le_of_ble_eq_true rfl) (by first | decide | exact Nat.le_of_ble_eq_true rfl) rfl (pc' := 14) rfl d2_11 (fun T19 h21 mc ha_mc ga_mc E22 A23 E24 X20 => ?_)
  have ne_a_mc : a ≠ mc := Nat.ne_of_lt (Nat.lt_of_lt_of_le E8.lt (Nat.le_of_eq ha_mc.symm))
  have ne_sb_mc : sb ≠ mc := Nat.ne_of_lt (Nat.lt_of_lt_of_le A15.lt (Nat.le_of_eq ha_mc.symm))
  have ne_mb_mc : mb ≠ mc := Nat.ne_of_lt (Nat.lt_of_lt_of_le A16.lt (Nat.le_of_eq ha_mc.symm))
  have sz_mc : h.size ≤ mc := Nat.le_trans K18.1 (Nat.le_of_eq ha_mc.symm)
  have E25 := E8.ext E22
  have F26 := F7.ext E22
  have F27 := F9.ext E22
  have F28 := F10.ext E22
  have F29 := F11.ext E22
  have F30 := F12.ext E22
  have F31 := F13.ext E22
  have F32 := F14.ext E22
  have A33 := A15.ext E22
  have A34 := A16.ext E22
  have E35 := E17.ext E22
  have K36 := K18.ext E22
  refine go_cast C X20 (C.w 25 rfl) (Ins.self E24) (pc' := 17) rfl d2_14 (fun T37 X38 => ?_)
  refine go_putF C X38 (C.w 27 rfl) Via.refl F27 E25 (Or.inr ⟨C.w 28 rfl, rfl, C.nmE⟩) (C.w 8 rfl) ga (ty := (.array .int)) (by decide) rfl rfl (pc' := 20) rfl d2_17 (fun T39 h41 W42 X40 => ?_)
  have F43 := F27.same W42
  have E44 := E25.wr W42
  have F45 := F26.other W42 (Or.inr (slot_ne (Or.inr (C.w 17 rfl)) (Or.inr (C.w 28 rfl)) (by decide) (t := (.array .int)) (t' := (.array .int)) (by decide) (by decide)))
  have F46 := F28.other W42 (Or.inr (slot_ne (Or.inr (C.w 30 rfl)) (Or.inr (C.w 28 rfl)) (by decide) (t := (.array .int)) (t' := (.array .int)) (by decide) (by decide)))
  have F47 := F29.other W42 (Or.inr (slot_ne (Or.inr (C.w 36 rfl)) (Or.inr (C.w 28 rfl)) (by decide) (t := .int) (t' := (.array .int)) (by decide) (by decide)))
  have F48 := F30.other W42 (Or.inr (slot_ne (Or.inr (C.w 38 rfl)) (Or.inr (C.w 28 rfl)) (by decide) (t := .long) (t' := (.array .int)) (by decide) (by decide)))
  have F49 := F31.other W42 (Or.inr (slot_ne (Or.inr (C.w 50 rfl)) (Or.inr (C.w 28 rfl)) (by decide) (t := (.array (.array .long))) (t' := (.array .int)) (by decide) (by decide)))
  have F50 := F32.other W42 (Or.inr (slot_ne (Or.inr (C.w 52 rfl)) (Or.inr (C.w 28 rfl)) (by decide) (t := .long) (t' := (.array .int)) (by decide) (by decide)))
  have A51 := A33.other W42 (Ne.symm nas)
  have A52 := A34.other W42 (Ne.symm nam)
  have E53 := E35.wr W42
  have A54 := A23.other W42 (Ne.symm ne_a_mc)
  have E55 := E24.wr W42
  have K56 := K36.wr W42 (Or.inl (List.mem_of_getElem? (i := 0) rfl))
  refine go_aloadN C X40 21 rfl d2_20 rfl rfl ?_
  refine go_aloadN C X40 22 rfl d2_21 rfl rfl ?_
  refine go_alen C X40 A51 (z := (5 : Int32)) (by rw [ia_len, hl]; rfl) (pc' := 23) rfl d2_22 ?_
  refine go_newarr C X40 (C.w 0 rfl) (cap := 5) (by decide) (by decide) (by decide) (by decide) (by decide) (pc' := 25) rfl d2_23 (fun T57 h59 xb ha_xb ga_xb E60 A61  X58 => ?_)
  have ne_a_xb : a ≠ xb := Nat.ne_of_lt (Nat.lt_of_lt_of_le E44.lt (Nat.le_of_eq ha_xb.symm))
  have ne_sb_xb : sb ≠ xb := Nat.ne_of_lt (Nat.lt_of_lt_of_le A51.lt (Nat.le_of_eq ha_xb.symm))
  have ne_mb_xb : mb ≠ xb := Nat.ne_of_lt (Nat.lt_of_lt_of_le A52.lt (Nat.le_of_eq ha_xb.symm))
  have ne_mc_xb : mc ≠ xb := Nat.ne_of_lt (Nat.lt_of_lt_of_le A54.lt (Nat.le_of_eq ha_xb.symm))
  have sz_xb : h.size ≤ xb := Nat.le_trans K56.1 (Nat.le_of_eq ha_xb.symm)
  have E62 := E44.ext E60
  have F63 := F45.ext E60
  have F64 := F43.ext E60
  have F65 := F46.ext E60
  have F66 := F47.ext E60
  have F67 := F48.ext E60
  have F68 := F49.ext E60
  have F69 := F50.ext E60
  have A70 := A51.ext E60
  have A71 := A52.ext E60
  have E72 := E53.ext E60
  have A73 := A54.ext E60
  have E74 := E55.ext E60
  have K75 := K56.ext E60
  replace A61 : La Z h59 xb .int ([(.int (0 : Int32)), (.int (0 : Int32)), (.int (0 : Int32)), (.int (0 : Int32)), (.int (0 : Int32))]) := A61
  refine go_putF C X58 (C.w 29 rfl) Via.refl F65 E62 (Or.inr ⟨C.w 30 rfl, rfl, C.nmE⟩) (C.w 8 rfl) ga (ty := (.array .int)) (by decide) rfl rfl (pc' := 28) rfl d2_25 (fun T76 h78 W79 X77 => ?_)
  have F80 := F65.same W79
  have E81 := E62.wr W79
  have F82 := F63.other W79 (Or.inr (slot_ne (Or.inr (C.w 17 rfl)) (Or.inr (C.w 30 rfl)) (by decide) (t := (.array .int)) (t' := (.array .int)) (by decide) (by decide)))
  have F83 := F64.other W79 (Or.inr (slot_ne (Or.inr (C.w 28 rfl)) (Or.inr (C.w 30 rfl)) (by decide) (t := (.array .int)) (t' := (.array .int)) (by decide) (by decide)))
  have F84 := F66.other W79 (Or.inr (slot_ne (Or.inr (C.w 36 rfl)) (Or.inr (C.w 30 rfl)) (by decide) (t := .int) (t' := (.array .int)) (by decide) (by decide)))
  have F85 := F67.other W79 (Or.inr (slot_ne (Or.inr (C.w 38 rfl)) (Or.inr (C.w 30 rfl)) (by decide) (t := .long) (t' := (.array .int)) (by decide) (by decide)))
  have F86 := F68.other W79 (Or.inr (slot_ne (Or.inr (C.w 50 rfl)) (Or.inr (C.w 30 rfl)) (by decide) (t := (.array (.array .long))) (t' := (.array .int)) (by decide) (by decide)))
  have F87 := F69.other W79 (Or.inr (slot_ne (Or.inr (C.w 52 rfl)) (Or.inr (C.w 30 rfl)) (by decide) (t := .long) (t' := (.array .int)) (by decide) (by decide)))
  have A88 := A70.other W79 (Ne.symm nas)
  have A89 := A71.other W79 (Ne.symm nam)
  have E90 := E72.wr W79
  have A91 := A73.other W79 (Ne.symm ne_a_mc)
  have E92 := E74.wr W79
  have A93 := A61.other W79 (Ne.symm ne_a_xb)
  have K94 := K75.wr W79 (Or.inl (List.mem_of_getElem? (i := 0) rfl))
  refine go_aloadN C X77 29 rfl d2_28 rfl rfl ?_
  refine go_getF C X77 (C.w 29 rfl) Via.refl F80 (pc' := 32) rfl d2_29 (fun T95 X96 => ?_)
  refine go_iconst C X96 33 rfl d2_32 (z := (-1)) rfl ?_
  refine go_callS C X96 (C.w 31 rfl) (C.w 32 rfl) (C.w 33 rfl) (C.w 34 rfl) (own_fillI l Z a0 C.ws xb (-1 : Int32) h78 n0 X96.old A93 ga_xb) (argsL := [(.ref xb), (.int (-1 : Int32))]) (rest := []) (lenOf pd_1 rfl) rfl (by decide) (by decide) (Nat.le_of_ble_eq_true rfl) (by decide) (by decide) rfl rfl (pc' := 36) rfl d2_33 ?_
  rintro T97 h99 _ ⟨rfl, K8, A8⟩ X98
  show Go p e below _ (T97.setTop (mkF m 36 #[rv a, rv sb, rv mb, iv (1 : Int32), jv st, sc, un] []))
  have E100 := E81.keep K8
  have F101 := F82.keep K8 (ninS ne_a_xb nin0)
  have F102 := F83.keep K8 (ninS ne_a_xb nin0)
  have F103 := F80.keep K8 (ninS ne_a_xb nin0)
  have F104 := F84.keep K8 (ninS ne_a_xb nin0)
  have F105 := F85.keep K8 (ninS ne_a_xb nin0)
  have F106 := F86.keep K8 (ninS ne_a_xb nin0)
  have F107 := F87.keep K8 (ninS ne_a_xb nin0)
  have A108 := A88.keep K8 (ninS ne_sb_xb nin0)
  have A109 := A89.keep K8 (ninS ne_mb_xb nin0)
  have E110 := E90.keep K8
  have A111 := A91.keep K8 (ninS ne_mc_xb nin0)
  have E112 := E92.keep K8
  have K113 := K94.trans K8 (allS (Or.inr sz_xb) all0)
  refine go_iconst C X98 37 rfl d2_36 (z := 0) rfl ?_
  refine go_istore C X98 39 rfl d2_37 #[rv a, rv sb, rv mb, iv (1 : Int32), jv st, sc, iv (0 : Int32)] rfl ?_
  replace A8 : La Z h99 xb .int (ia [-1, -1, -1, -1, -1]) := A8
  refine go_iload C X98 41 rfl d2_39 rfl ?_
  refine go_aloadN C X98 42 rfl d2_41 rfl rfl ?_
  refine go_alen C X98 A109 (z := (4 : Int32)) rfl (pc' := 43) rfl d2_42 ?_
  refine go_icmp_ge C X98 d2_43 (pc' := 46) (pc2 := 63) rfl (by decide) (by decide) (fun (c43 : 4 ≤ 0) => False.elim (by first | omega | exact absurd c43 (by decide))) (fun (c43 : 0 < 4) => ?_)
  refine go_aloadN C X98 47 rfl d2_46 rfl rfl ?_
  refine go_getF C X98 (C.w 29 rfl) Via.refl F103 (pc' := 50) rfl d2_47 (fun T114 X115 => ?_)
  refine go_aloadN C X115 51 rfl d2_50 rfl rfl ?_
  refine go_iload C X115 53 rfl d2_51 rfl ?_
  refine go_iaload C X115 A109 (by decide) (v := (.int m0)) rfl (pc' := 54) rfl d2_53 ?_
  refine go_iload C X115 56 rfl d2_54 rfl ?_
  refine go_iastore C X115 A8 b0.1 (by rw [ia_len]; exact b0.2) ga_xb (pc' := 57) rfl d2_56 (fun T116 h118 W119 A120 X117 => ?_)
  have E121 := E100.wr W119
  have F122 := F101.other W119 (Or.inl ne_a_xb)
  have F123 := F102.other W119 (Or.inl ne_a_xb)
  have F124 := F103.other W119 (Or.inl ne_a_xb)
  have F125 := F104.other W119 (Or.inl ne_a_xb)
  have F126 := F105.other W119 (Or.inl ne_a_xb)
  have F127 := F106.other W119 (Or.inl ne_a_xb)
  have F128 := F107.other W119 (Or.inl ne_a_xb)
  have A129 := A108.other W119 ne_sb_xb
  have A130 := A109.other W119 ne_mb_xb
  have E131 := E110.wr W119
  have A132 := A111.other W119 ne_mc_xb
  have E133 := E112.wr W119
  have K134 := K113.wr W119 (Or.inr sz_xb)
  rw [ia_put] at A120
  refine go_iinc C X117 60 rfl d2_57 rfl (z := 1) rfl #[rv a, rv sb, rv mb, iv (1 : Int32), jv st, sc, iv (1 : Int32)] rfl ?_
  refine go_goto C X117 d2_60 (pc' := 39) (by decide) (by decide) ?_
  refine go_iload C X117 41 rfl d2_39 rfl ?_
  refine go_aloadN C X117 42 rfl d2_41 rfl rfl ?_
  refine go_alen C X117 A130 (z := (4 : Int32)) rfl (pc' := 43) rfl d2_42 ?_
  refine go_icmp_ge C X117 d2_43 (pc' := 46) (pc2 := 63) rfl (by decide) (by decide) (fun (c43 : 4 ≤ 1) => False.elim (by first | omega | exact absurd c43 (by decide))) (fun (c43 : 1 < 4) => ?_)
  refine go_aloadN C X117 47 rfl d2_46 rfl rfl ?_
  refine go_getF C X117 (C.w 29 rfl) Via.refl F124 (pc' := 50) rfl d2_47 (fun T135 X136 => ?_)
  refine go_aloadN C X136 51 rfl d2_50 rfl rfl ?_
  refine go_iload C X136 53 rfl d2_51 rfl ?_
  refine go_iaload C X136 A130 (by decide) (v := (.int m1)) rfl (pc' := 54) rfl d2_53 ?_
  refine go_iload C X136 56 rfl d2_54 rfl ?_
  refine go_iastore C X136 A120 b1.1 (by rw [ia_len]; rw [put32_len]; exact b1.2) ga_xb (pc' := 57) rfl d2_56 (fun T137 h139 W140 A141 X138 => ?_)
  have E142 := E121.wr W140
  have F143 := F122.other W140 (Or.inl ne_a_xb)
  have F144 := F123.other W140 (Or.inl ne_a_xb)
  have F145 := F124.other W140 (Or.inl ne_a_xb)
  have F146 := F125.other W140 (Or.inl ne_a_xb)
  have F147 := F126.other W140 (Or.inl ne_a_xb)
  have F148 := F127.other W140 (Or.inl ne_a_xb)
  have F149 := F128.other W140 (Or.inl ne_a_xb)
  have A150 := A129.other W140 ne_sb_xb
  have A151 := A130.other W140 ne_mb_xb
  have E152 := E131.wr W140
  have A153 := A132.other W140 ne_mc_xb
  have E154 := E133.wr W140
  have K155 := K134.wr W140 (Or.inr sz_xb)
  rw [ia_put] at A141
  refine go_iinc C X138 60 rfl d2_57 rfl (z := 1) rfl #[rv a, rv sb, rv mb, iv (1 : Int32), jv st, sc, iv (2 : Int32)] rfl ?_
  refine go_goto C X138 d2_60 (pc' := 39) (by decide) (by decide) ?_
  refine go_iload C X138 41 rfl d2_39 rfl ?_
  refine go_aloadN C X138 42 rfl d2_41 rfl rfl ?_
  refine go_alen C X138 A151 (z := (4 : Int32)) rfl (pc' := 43) rfl d2_42 ?_
  refine go_icmp_ge C X138 d2_43 (pc' := 46) (pc2 := 63) rfl (by decide) (by decide) (fun (c43 : 4 ≤ 2) => False.elim (by first | omega | exact absurd c43 (by decide))) (fun (c43 : 2 < 4) => ?_)
  refine go_aloadN C X138 47 rfl d2_46 rfl rfl ?_
  refine go_getF C X138 (C.w 29 rfl) Via.refl F145 (pc' := 50) rfl d2_47 (fun T156 X157 => ?_)
  refine go_aloadN C X157 51 rfl d2_50 rfl rfl ?_
  refine go_iload C X157 53 rfl d2_51 rfl ?_
  refine go_iaload C X157 A151 (by decide) (v := (.int m2)) rfl (pc' := 54) rfl d2_53 ?_
  refine go_iload C X157 56 rfl d2_54 rfl ?_
  refine go_iastore C X157 A141 b2.1 (by rw [ia_len]; rw [put32_len]; rw [put32_len]; exact b2.2) ga_xb (pc' := 57) rfl d2_56 (fun T158 h160 W161 A162 X159 => ?_)
  have E163 := E142.wr W161
  have F164 := F143.other W161 (Or.inl ne_a_xb)
  have F165 := F144.other W161 (Or.inl ne_a_xb)
  have F166 := F145.other W161 (Or.inl ne_a_xb)
  have F167 := F146.other W161 (Or.inl ne_a_xb)
  have F168 := F147.other W161 (Or.inl ne_a_xb)
  have F169 := F148.other W161 (Or.inl ne_a_xb)
  have F170 := F149.other W161 (Or.inl ne_a_xb)
  have A171 := A150.other W161 ne_sb_xb
  have A172 := A151.other W161 ne_mb_xb
  have E173 := E152.wr W161
  have A174 := A153.other W161 ne_mc_xb
  have E175 := E154.wr W161
  have K176 := K155.wr W161 (Or.inr sz_xb)
  rw [ia_put] at A162
  refine go_iinc C X159 60 rfl d2_57 rfl (z := 1) rfl #[rv a, rv sb, rv mb, iv (1 : Int32), jv st, sc, iv (3 : Int32)] rfl ?_
  refine go_goto C X159 d2_60 (pc' := 39) (by decide) (by decide) ?_
  refine go_iload C X159 41 rfl d2_39 rfl ?_
  refine go_aloadN C X159 42 rfl d2_41 rfl rfl ?_
  refine go_alen C X159 A172 (z := (4 : Int32)) rfl (pc' := 43) rfl d2_42 ?_
  refine go_icmp_ge C X159 d2_43 (pc' := 46) (pc2 := 63) rfl (by decide) (by decide) (fun (c43 : 4 ≤ 3) => False.elim (by first | omega | exact absurd c43 (by decide))) (fun (c43 : 3 < 4) => ?_)
  refine go_aloadN C X159 47 rfl d2_46 rfl rfl ?_
  refine go_getF C X159 (C.w 29 rfl) Via.refl F166 (pc' := 50) rfl d2_47 (fun T177 X178 => ?_)
  refine go_aloadN C X178 51 rfl d2_50 rfl rfl ?_
  refine go_iload C X178 53 rfl d2_51 rfl ?_
  refine go_iaload C X178 A172 (by decide) (v := (.int m3)) rfl (pc' := 54) rfl d2_53 ?_
  refine go_iload C X178 56 rfl d2_54 rfl ?_
  refine go_iastore C X178 A162 b3.1 (by rw [ia_len]; rw [put32_len]; rw [put32_len]; rw [put32_len]; exact b3.2) ga_xb (pc' := 57) rfl d2_56 (fun T179 h181 W182 A183 X180 => ?_)
  have E184 := E163.wr W182
  have F185 := F164.other W182 (Or.inl ne_a_xb)
  have F186 := F165.other W182 (Or.inl ne_a_xb)
  have F187 := F166.other W182 (Or.inl ne_a_xb)
  have F188 := F167.other W182 (Or.inl ne_a_xb)
  have F189 := F168.other W182 (Or.inl ne_a_xb)
  have F190 := F169.other W182 (Or.inl ne_a_xb)
  have F191 := F170.other W182 (Or.inl ne_a_xb)
  have A192 := A171.other W182 ne_sb_xb
  have A193 := A172.other W182 ne_mb_xb
  have E194 := E173.wr W182
  have A195 := A174.other W182 ne_mc_xb
  have E196 := E175.wr W182
  have K197 := K176.wr W182 (Or.inr sz_xb)
  rw [ia_put] at A183
  refine go_iinc C X180 60 rfl d2_57 rfl (z := 1) rfl #[rv a, rv sb, rv mb, iv (1 : Int32), jv st, sc, iv (4 : Int32)] rfl ?_
  refine go_goto C X180 d2_60 (pc' := 39) (by decide) (by decide) ?_
  refine go_iload C X180 41 rfl d2_39 rfl ?_
  refine go_aloadN C X180 42 rfl d2_41 rfl rfl ?_
  refine go_alen C X180 A193 (z := (4 : Int32)) rfl (pc' := 43) rfl d2_42 ?_
  refine go_icmp_ge C X180 d2_43 (pc' := 46) (pc2 := 63) rfl (by decide) (by decide) (fun (c43 : 4 ≤ 4) => ?_) (fun (c43 : 4 < 4) => False.elim (by first | omega | exact absurd c43 (by decide)))
  refine go_aloadN C X180 64 rfl d2_63 rfl rfl ?_
  refine go_iloadN C X180 65 rfl d2_64 rfl ?_
  refine go_putF C X180 (C.w 35 rfl) Via.refl F188 E184 (Or.inr ⟨C.w 36 rfl, rfl, C.nmE⟩) (C.w 8 rfl) ga (ty := .int) (by decide) rfl rfl (pc' := 68) rfl d2_65 (fun T198 h200 W201 X199 => ?_)
  have F202 := F188.same W201
  have E203 := E184.wr W201
  have F204 := F185.other W201 (Or.inr (slot_ne (Or.inr (C.w 17 rfl)) (Or.inr (C.w 36 rfl)) (by decide) (t := (.array .int)) (t' := .int) (by decide) (by decide)))
  have F205 := F186.other W201 (Or.inr (slot_ne (Or.inr (C.w 28 rfl)) (Or.inr (C.w 36 rfl)) (by decide) (t := (.array .int)) (t' := .int) (by decide) (by decide)))
  have F206 := F187.other W201 (Or.inr (slot_ne (Or.inr (C.w 30 rfl)) (Or.inr (C.w 36 rfl)) (by decide) (t := (.array .int)) (t' := .int) (by decide) (by decide)))
  have F207 := F189.other W201 (Or.inr (slot_ne (Or.inr (C.w 38 rfl)) (Or.inr (C.w 36 rfl)) (by decide) (t := .long) (t' := .int) (by decide) (by decide)))
  have F208 := F190.other W201 (Or.inr (slot_ne (Or.inr (C.w 50 rfl)) (Or.inr (C.w 36 rfl)) (by decide) (t := (.array (.array .long))) (t' := .int) (by decide) (by decide)))
  have F209 := F191.other W201 (Or.inr (slot_ne (Or.inr (C.w 52 rfl)) (Or.inr (C.w 36 rfl)) (by decide) (t := .long) (t' := .int) (by decide) (by decide)))
  have A210 := A192.other W201 (Ne.symm nas)
  have A211 := A193.other W201 (Ne.symm nam)
  have E212 := E194.wr W201
  have A213 := A195.other W201 (Ne.symm ne_a_mc)
  have E214 := E196.wr W201
  have A215 := A183.other W201 (Ne.symm ne_a_xb)
  have K216 := K197.wr W201 (Or.inl (List.mem_of_getElem? (i := 0) rfl))
  refine go_aloadN C X199 69 rfl d2_68 rfl rfl ?_
  refine go_lload C X199 71 rfl d2_69 rfl ?_
  refine go_putF C X199 (C.w 37 rfl) Via.refl F207 E203 (Or.inr ⟨C.w 38 rfl, rfl, C.nmE⟩) (C.w 8 rfl) ga (ty := .long) (by decide) rfl rfl (pc' := 74) rfl d2_71 (fun T217 h219 W220 X218 => ?_)
  have F221 := F207.same W220
  have E222 := E203.wr W220
  have F223 := F204.other W220 (Or.inr (slot_ne (Or.inr (C.w 17 rfl)) (Or.inr (C.w 38 rfl)) (by decide) (t := (.array .int)) (t' := .long) (by decide) (by decide)))
  have F224 := F205.other W220 (Or.inr (slot_ne (Or.inr (C.w 28 rfl)) (Or.inr (C.w 38 rfl)) (by decide) (t := (.array .int)) (t' := .long) (by decide) (by decide)))
  have F225 := F206.other W220 (Or.inr (slot_ne (Or.inr (C.w 30 rfl)) (Or.inr (C.w 38 rfl)) (by decide) (t := (.array .int)) (t' := .long) (by decide) (by decide)))
  have F226 := F202.other W220 (Or.inr (slot_ne (Or.inr (C.w 36 rfl)) (Or.inr (C.w 38 rfl)) (by decide) (t := .int) (t' := .long) (by decide) (by decide)))
  have F227 := F208.other W220 (Or.inr (slot_ne (Or.inr (C.w 50 rfl)) (Or.inr (C.w 38 rfl)) (by decide) (t := (.array (.array .long))) (t' := .long) (by decide) (by decide)))
  have F228 := F209.other W220 (Or.inr (slot_ne (Or.inr (C.w 52 rfl)) (Or.inr (C.w 38 rfl)) (by decide) (t := .long) (t' := .long) (by decide) (by decide)))
  have A229 := A210.other W220 (Ne.symm nas)
  have A230 := A211.other W220 (Ne.symm nam)
  have E231 := E212.wr W220
  have A232 := A213.other W220 (Ne.symm ne_a_mc)
  have E233 := E214.wr W220
  have A234 := A215.other W220 (Ne.symm ne_a_xb)
  have K235 := K216.wr W220 (Or.inl (List.mem_of_getElem? (i := 0) rfl))
  refine go_aloadN C X218 75 rfl d2_74 rfl rfl ?_
  refine go_aloadN C X218 76 rfl d2_75 rfl rfl ?_
  have hsz_76 := X218.sz
  have lt_a_76 := E222.lt
  have lt_sb_76 := A229.lt
  have lt_mb_76 := A230.lt
  have lt_mc_76 := A232.lt
  have lt_xb_76 := A234.lt
  refine go_private C X218 E222 (C.w 39 rfl) (C.w 40 rfl) (Jvm.Kit.selects_private (by decide) (C.w 8 rfl) (C.w 41 rfl) (C.w 40 rfl)) (C.w 41 rfl) (C.w 9 rfl) (C.w 42 rfl) (own_suf_1 l Z a0 C.ws a sb mc sz m0 m1 m2 m3 s0 s1 s2 s3 h219 n0 X218.old E222 F223 F224 F226 A229 A232 hl b0 z0 b1 z1 b2 z2 b3 z3) (argsL := []) (rest := [(.ref a)]) (lenOf pd_2 rfl) rfl (by decide) (by decide) (Nat.le_of_ble_eq_true rfl) (by decide) (by decide) rfl rfl (pc' := 79) rfl d2_76 ?_
  rintro T236 h238 _ ⟨ob, r0, r1, rfl, K7, sz7, sz7r0, sz7r1, A7, A7r0, A7r1⟩ X237
  show Go p e below _ (T236.setTop (mkF m 79 #[rv a, rv sb, rv mb, iv (1 : Int32), jv st, sc, iv (4 : Int32)] [(.ref ob), (.ref a)]))
  have ne_a_ob : a ≠ ob := Nat.ne_of_lt (Nat.lt_of_lt_of_le lt_a_76 sz7)
  have ne_sb_ob : sb ≠ ob := Nat.ne_of_lt (Nat.lt_of_lt_of_le lt_sb_76 sz7)
  have ne_mb_ob : mb ≠ ob := Nat.ne_of_lt (Nat.lt_of_lt_of_le lt_mb_76 sz7)
  have ne_mc_ob : mc ≠ ob := Nat.ne_of_lt (Nat.lt_of_lt_of_le lt_mc_76 sz7)
  have ne_xb_ob : xb ≠ ob := Nat.ne_of_lt (Nat.lt_of_lt_of_le lt_xb_76 sz7)
  have ga_ob : n0 ≤ ob := Nat.le_trans hsz_76 sz7
  have sz_ob : h.size ≤ ob := Nat.le_trans K235.1 sz7
  have ne_a_r0 : a ≠ r0 := Nat.ne_of_lt (Nat.lt_of_lt_of_le lt_a_76 sz7r0)
  have ne_sb_r0 : sb ≠ r0 := Nat.ne_of_lt (Nat.lt_of_lt_of_le lt_sb_76 sz7r0)
  have ne_mb_r0 : mb ≠ r0 := Nat.ne_of_lt (Nat.lt_of_lt_of_le lt_mb_76 sz7r0)
  have ne_mc_r0 : mc ≠ r0 := Nat.ne_of_lt (Nat.lt_of_lt_of_le lt_mc_76 sz7r0)
  have ne_xb_r0 : xb ≠ r0 := Nat.ne_of_lt (Nat.lt_of_lt_of_le lt_xb_76 sz7r0)
  have ga_r0 : n0 ≤ r0 := Nat.le_trans hsz_76 sz7r0
  have sz_r0 : h.size ≤ r0 := Nat.le_trans K235.1 sz7r0
  have ne_a_r1 : a ≠ r1 := Nat.ne_of_lt (Nat.lt_of_lt_of_le lt_a_76 sz7r1)
  have ne_sb_r1 : sb ≠ r1 := Nat.ne_of_lt (Nat.lt_of_lt_of_le lt_sb_76 sz7r1)
  have ne_mb_r1 : mb ≠ r1 := Nat.ne_of_lt (Nat.lt_of_lt_of_le lt_mb_76 sz7r1)
  have ne_mc_r1 : mc ≠ r1 := Nat.ne_of_lt (Nat.lt_of_lt_of_le lt_mc_76 sz7r1)
  have ne_xb_r1 : xb ≠ r1 := Nat.ne_of_lt (Nat.lt_of_lt_of_le lt_xb_76 sz7r1)
  have ga_r1 : n0 ≤ r1 := Nat.le_trans hsz_76 sz7r1
  have sz_r1 : h.size ≤ r1 := Nat.le_trans K235.1 sz7r1
  have E239 := E222.keep K7
  have F240 := F223.keep K7 nin0
  have F241 := F224.keep K7 nin0
  have F242 := F225.keep K7 nin0
  have F243 := F226.keep K7 nin0
  have F244 := F221.keep K7 nin0
  have F245 := F227.keep K7 nin0
  have F246 := F228.keep K7 nin0
  have A247 := A229.keep K7 nin0
  have A248 := A230.keep K7 nin0
  have E249 := E231.keep K7
  have A250 := A232.keep K7 nin0
  have E251 := E233.keep K7
  have A252 := A234.keep K7 nin0
  have K253 := K235.trans K7 all0
  refine go_putF C X237 (C.w 49 rfl) Via.refl F245 E239 (Or.inr ⟨C.w 50 rfl, rfl, C.nmE⟩) (C.w 8 rfl) ga (ty := (.array (.array .long))) (by decide) rfl rfl (pc' := 82) rfl d2_79 (fun T254 h256 W257 X255 => ?_)
  have F258 := F245.same W257
  have E259 := E239.wr W257
  have F260 := F240.other W257 (Or.inr (slot_ne (Or.inr (C.w 17 rfl)) (Or.inr (C.w 50 rfl)) (by decide) (t := (.array .int)) (t' := (.array (.array .long))) (by decide) (by decide)))
  have F261 := F241.other W257 (Or.inr (slot_ne (Or.inr (C.w 28 rfl)) (Or.inr (C.w 50 rfl)) (by decide) (t := (.array .int)) (t' := (.array (.array .long))) (by decide) (by decide)))
  have F262 := F242.other W257 (Or.inr (slot_ne (Or.inr (C.w 30 rfl)) (Or.inr (C.w 50 rfl)) (by decide) (t := (.array .int)) (t' := (.array (.array .long))) (by decide) (by decide)))
  have F263 := F243.other W257 (Or.inr (slot_ne (Or.inr (C.w 36 rfl)) (Or.inr (C.w 50 rfl)) (by decide) (t := .int) (t' := (.array (.array .long))) (by decide) (by decide)))
  have F264 := F244.other W257 (Or.inr (slot_ne (Or.inr (C.w 38 rfl)) (Or.inr (C.w 50 rfl)) (by decide) (t := .long) (t' := (.array (.array .long))) (by decide) (by decide)))
  have F265 := F246.other W257 (Or.inr (slot_ne (Or.inr (C.w 52 rfl)) (Or.inr (C.w 50 rfl)) (by decide) (t := .long) (t' := (.array (.array .long))) (by decide) (by decide)))
  have A266 := A247.other W257 (Ne.symm nas)
  have A267 := A248.other W257 (Ne.symm nam)
  have E268 := E249.wr W257
  have A269 := A250.other W257 (Ne.symm ne_a_mc)
  have E270 := E251.wr W257
  have A271 := A252.other W257 (Ne.symm ne_a_xb)
  have A272 := A7.other W257 (Ne.symm ne_a_ob)
  have A273 := A7r0.other W257 (Ne.symm ne_a_r0)
  have A274 := A7r1.other W257 (Ne.symm ne_a_r1)
  have K275 := K253.wr W257 (Or.inl (List.mem_of_getElem? (i := 0) rfl))
  refine go_aloadN C X255 83 rfl d2_82 rfl rfl ?_
  refine go_aloadN C X255 84 rfl d2_83 rfl rfl ?_
  refine go_getF C X255 (C.w 49 rfl) Via.refl F258 (pc' := 87) rfl d2_84 (fun T276 X277 => ?_)
  refine go_iloadN C X277 88 rfl d2_87 rfl ?_
  refine go_aaload C X277 A272 rfl (by decide) (v := (.ref r1)) rfl (pc' := 89) rfl d2_88 ?_
  refine go_iconst C X277 90 rfl d2_89 (z := 0) rfl ?_
  refine go_laload C X277 A274 (by decide) (v := (.long (((((0 : Int64) + (s3.toInt64 * (1 : Int64))) + (s2.toInt64 * (1 : Int64))) + (s1.toInt64 * (1 : Int64))) + (s0.toInt64 * (1 : Int64))))) rfl (pc' := 91) rfl d2_90 ?_
  refine go_putF C X277 (C.w 51 rfl) Via.refl F265 E259 (Or.inr ⟨C.w 52 rfl, rfl, C.nmE⟩) (C.w 8 rfl) ga (ty := .long) (by decide) rfl rfl (pc' := 94) rfl d2_91 (fun T278 h280 W281 X279 => ?_)
  have F282 := F265.same W281
  have E283 := E259.wr W281
  have F284 := F260.other W281 (Or.inr (slot_ne (Or.inr (C.w 17 rfl)) (Or.inr (C.w 52 rfl)) (by decide) (t := (.array .int)) (t' := .long) (by decide) (by decide)))
  have F285 := F261.other W281 (Or.inr (slot_ne (Or.inr (C.w 28 rfl)) (Or.inr (C.w 52 rfl)) (by decide) (t := (.array .int)) (t' := .long) (by decide) (by decide)))
  have F286 := F262.other W281 (Or.inr (slot_ne (Or.inr (C.w 30 rfl)) (Or.inr (C.w 52 rfl)) (by decide) (t := (.array .int)) (t' := .long) (by decide) (by decide)))
  have F287 := F263.other W281 (Or.inr (slot_ne (Or.inr (C.w 36 rfl)) (Or.inr (C.w 52 rfl)) (by decide) (t := .int) (t' := .long) (by decide) (by decide)))
  have F288 := F264.other W281 (Or.inr (slot_ne (Or.inr (C.w 38 rfl)) (Or.inr (C.w 52 rfl)) (by decide) (t := .long) (t' := .long) (by decide) (by decide)))
  have F289 := F258.other W281 (Or.inr (slot_ne (Or.inr (C.w 50 rfl)) (Or.inr (C.w 52 rfl)) (by decide) (t := (.array (.array .long))) (t' := .long) (by decide) (by decide)))
  have A290 := A266.other W281 (Ne.symm nas)
  have A291 := A267.other W281 (Ne.symm nam)
  have E292 := E268.wr W281
  have A293 := A269.other W281 (Ne.symm ne_a_mc)
  have E294 := E270.wr W281
  have A295 := A271.other W281 (Ne.symm ne_a_xb)
  have A296 := A272.other W281 (Ne.symm ne_a_ob)
  have A297 := A273.other W281 (Ne.symm ne_a_r0)
  have A298 := A274.other W281 (Ne.symm ne_a_r1)
  have K299 := K275.wr W281 (Or.inl (List.mem_of_getElem? (i := 0) rfl))
  exact go_ret0 C X279 d2_94 ⟨rfl, xb, ob, r0, r1, K299, E283, F284, F286, F288, F289, sz_xb, sz_ob, sz_r0, sz_r1, A295, A296, A297, A298⟩ (by decide) (by decide)
theorem ef_own_init_2 (m : MethodId) (a : Addr) (sb : Addr) (mb : Addr) (st : Int64)  : entryFrame m #[(.ref a), (.ref sb), (.ref mb), (.int (2 : Int32)), (.long st)] 7 = mkF m 0 #[rv a, rv sb, rv mb, iv (2 : Int32), jv st, sc, un] [] := by
  first | (simp [entryFrame, mkF, argsToLocals, Value.category]; done) | rfl
set_option maxRecDepth 65536 in
set_option maxHeartbeats 40000000 in
theorem own_init_2 (l : Launch) (Z : State) (a0 : Array Value) (hw : ∀ d ∈ tables_1, d.before a0 Z = true) (a : Addr) (sb : Addr) (mb : Addr) (st : Int64) (sz : List Int32) (m0 m1 m2 m3 s0 s1 s2 s3 : Int32) (h : Heap) (n0 : Nat) (hn0 : Old Z n0 h) (E0 : Exa Z h a "com/example/covertide/covertide/engine/ParameterSets") (F0 : Fld Z h a "com/example/covertide/covertide/engine/ParameterSets" "sizes" "[I" .null) (F1 : Fld Z h a "com/example/covertide/covertide/engine/ParameterSets" "members" "[I" .null) (F2 : Fld Z h a "com/example/covertide/covertide/engine/ParameterSets" "indexOf" "[I" .null) (F3 : Fld Z h a "com/example/covertide/covertide/engine/ParameterSets" "size" "I" (.int (0 : Int32))) (F4 : Fld Z h a "com/example/covertide/covertide/engine/ParameterSets" "start" "J" (.long (0 : Int64))) (F5 : Fld Z h a "com/example/covertide/covertide/engine/ParameterSets" "suffixSums" "[[J" .null) (F6 : Fld Z h a "com/example/covertide/covertide/engine/ParameterSets" "combinations" "J" (.long (0 : Int64))) (A1 : La Z h sb .int (ia sz)) (A2 : La Z h mb .int [(.int m0), (.int m1), (.int m2), (.int m3)]) (EM : Exa Z h mb "[I") (ga : n0 ≤ a) (nas : a ≠ sb) (nam : a ≠ mb) (hl : sz.length = 5) (b0 : 0 ≤ m0.toInt ∧ m0.toInt < (5 : Nat)) (z0 : at32 sz m0 = s0) (b1 : 0 ≤ m1.toInt ∧ m1.toInt < (5 : Nat)) (z1 : at32 sz m1 = s1) (b2 : 0 ≤ m2.toInt ∧ m2.toInt < (5 : Nat)) (z2 : at32 sz m2 = s2) (b3 : 0 ≤ m3.toInt ∧ m3.toInt < (5 : Nat)) (z3 : at32 sz m3 = s3) :
    Con l Z (⟨"com/example/covertide/covertide/engine/ParameterSets", "<init>", "([I[IIJ)V"⟩ : MethodName) prog_10_method_1_code 7 none ({ frames := 2, cells := 6, slots := 27, locals := 33 } : Room) #[(.ref a), (.ref sb), (.ref mb), (.int (2 : Int32)), (.long st)] h n0 (fun v h' => v = none ∧ ∃ xb ob r0 r1 r2 : Addr, Keep h h' [a] ∧ Exa Z h' a "com/example/covertide/covertide/engine/ParameterSets" ∧ Fld Z h' a "com/example/covertide/covertide/engine/ParameterSets" "sizes" "[I" (.ref sb) ∧ Fld Z h' a "com/example/covertide/covertide/engine/ParameterSets" "indexOf" "[I" (.ref xb) ∧ Fld Z h' a "com/example/covertide/covertide/engine/ParameterSets" "start" "J" (.long st) ∧ Fld Z h' a "com/example/covertide/covertide/engine/ParameterSets" "suffixSums" "[[J" (.ref ob) ∧ h.size ≤ xb ∧ h.size ≤ ob ∧ h.size ≤ r0 ∧ h.size ≤ r1 ∧ h.size ≤ r2 ∧ La Z h' xb .int (ia (put32 (put32 (put32 (put32 [-1, -1, -1, -1, -1] m0 0) m1 1) m2 2) m3 3)) ∧ La Z h' ob (.array .long) [(.ref r0), (.ref r1), (.ref r2)] ∧ La Z h' r0 .long [(.long (1 : Int64)), (.long (1 : Int64)), (.long (1 : Int64)), (.long (1 : Int64)), (.long (1 : Int64))] ∧ La Z h' r1 .long [(.long (0 : Int64)), (.long ((((0 : Int64) + (s3.toInt64 * (1 : Int64))) + (s2.toInt64 * (1 : Int64))) + (s1.toInt64 * (1 : Int64)))), (.long (((0 : Int64) + (s3.toInt64 * (1 : Int64))) + (s2.toInt64 * (1 : Int64)))), (.long ((0 : Int64) + (s3.toInt64 * (1 : Int64)))), (.long (0 : Int64))] ∧ La Z h' r2 .long [(.long (((((0 : Int64) + (s3.toInt64 * (0 : Int64))) + (s2.toInt64 * ((0 : Int64) + (s3.toInt64 * (1 : Int64))))) + (s1.toInt64 * (((0 : Int64) + (s3.toInt64 * (1 : Int64))) + (s2.toInt64 * (1 : Int64))))) + (s0.toInt64 * ((((0 : Int64) + (s3.toInt64 * (1 : Int64))) + (s2.toInt64 * (1 : Int64))) + (s1.toInt64 * (1 : Int64)))))), (.long ((((0 : Int64) + (s3.toInt64 * (0 : Int64))) + (s2.toInt64 * ((0 : Int64) + (s3.toInt64 * (1 : Int64))))) + (s1.toInt64 * (((0 : Int64) + (s3.toInt64 * (1 : Int64))) + (s2.toInt64 * (1 : Int64)))))), (.long (((0 : Int64) + (s3.toInt64 * (0 : Int64))) + (s2.toInt64 * ((0 : Int64) + (s3.toInt64 * (1 : Int64)))))), (.long ((0 : Int64) + (s3.toInt64 * (0 : Int64)))), (.long (0 : Int64))]) := by
  refine con_of hw (plainFor_of_name pn_com_example_covertide_covertide_engine_ParameterSets) hn0 ?_
  intro p e s m below meth c T0 C X0
  refine Go.cast (congrArg T0.setTop (ef_own_init_2 m a sb mb st)) ?_
  refine go_aloadN C X0 1 rfl d2_0 rfl rfl ?_
  refine go_initO C X0 (C.w 13 rfl) (C.w 14 rfl) (C.w 15 rfl) (by decide) (Nat.le_of_ble_eq_true rfl) rfl (pc' := 4) rfl d2_1 (fun T1 X2 => ?_)
  refine go_aloadN C X2 5 rfl d2_4 rfl rfl ?_
  refine go_aloadN C X2 6 rfl d2_5 rfl rfl ?_
  refine go_putF C X2 (C.w 16 rfl) Via.refl F0 E0 (Or.inr ⟨C.w 17 rfl, rfl, C.nmE⟩) (C.w 8 rfl) ga (ty := (.array .int)) (by decide) rfl rfl (pc' := 9) rfl d2_6 (fun T3 h5 W6 X4 => ?_)
  have F7 := F0.same W6
  have E8 := E0.wr W6
  have F9 := F1.other W6 (Or.inr (slot_ne (Or.inr (C.w 28 rfl)) (Or.inr (C.w 17 rfl)) (by decide) (t := (.array .int)) (t' := (.array .int)) (by decide) (by decide)))
  have F10 := F2.other W6 (Or.inr (slot_ne (Or.inr (C.w 30 rfl)) (Or.inr (C.w 17 rfl)) (by decide) (t := (.array .int)) (t' := (.array .int)) (by decide) (by decide)))
  have F11 := F3.other W6 (Or.inr (slot_ne (Or.inr (C.w 36 rfl)) (Or.inr (C.w 17 rfl)) (by decide) (t := .int) (t' := (.array .int)) (by decide) (by decide)))
  have F12 := F4.other W6 (Or.inr (slot_ne (Or.inr (C.w 38 rfl)) (Or.inr (C.w 17 rfl)) (by decide) (t := .long) (t' := (.array .int)) (by decide) (by decide)))
  have F13 := F5.other W6 (Or.inr (slot_ne (Or.inr (C.w 50 rfl)) (Or.inr (C.w 17 rfl)) (by decide) (t := (.array (.array .long))) (t' := (.array .int)) (by decide) (by decide)))
  have F14 := F6.other W6 (Or.inr (slot_ne (Or.inr (C.w 52 rfl)) (Or.inr (C.w 17 rfl)) (by decide) (t := .long) (t' := (.array .int)) (by decide) (by decide)))
  have A15 := A1.other W6 (Ne.symm nas)
  have A16 := A2.other W6 (Ne.symm nam)
  have E17 := EM.wr W6
  have K18 := (Keep.refl h [a]).wr W6 (Or.inl (List.mem_of_getElem? (i := 0) rfl))
  refine go_aloadN C X4 10 rfl d2_9 rfl rfl ?_
  refine go_aloadN C X4 11 rfl d2_10 rfl rfl ?_
  refine go_clone C X4 (cap := 4) (C.w 18 rfl) (C.w 19 rfl) (C.w 23 rfl) (C.w 21 rfl) (C.w 22 rfl) (C.w 24 rfl) A16 E17 (by first | decide | exact Nat.le_of_ble_eq_true rfl) (by first | decide | exact Nat.le_of_ble_eq_true rfl) (by first | decide | exact Nat.le_of_ble_eq_true rfl) (by first | decide | exact Nat.le_of_ble_eq_true rfl) (by first | decide | exact Nat.le_of_ble_eq_true rfl) rfl (pc' := 14) rfl d2_11 (fun T19 h21 mc ha_mc ga_mc E22 A23 E24 X20 => ?_)
  have ne_a_mc : a ≠ mc := Nat.ne_of_lt (Nat.lt_of_lt_of_le E8.lt (Nat.le_of_eq ha_mc.symm))
  have ne_sb_mc : sb ≠ mc := Nat.ne_of_lt (Nat.lt_of_lt_of_le A15.lt (Nat.le_of_eq ha_mc.symm))
  have ne_mb_mc : mb ≠ mc := Nat.ne_of_lt (Nat.lt_of_lt_of_le A16.lt (Nat.le_of_eq ha_mc.symm))
  have sz_mc : h.size ≤ mc := Nat.le_trans K18.1 (Nat.le_of_eq ha_mc.symm)
  have E25 := E8.ext E22
  have F26 := F7.ext E22
  have F27 := F9.ext E22
  have F28 := F10.ext E22
  have F29 := F11.ext E22
  have F30 := F12.ext E22
  have F31 := F13.ext E22
  have F32 := F14.ext E22
  have A33 := A15.ext E22
  have A34 := A16.ext E22
  have E35 := E17.ext E22
  have K36 := K18.ext E22
  refine go_cast C X20 (C.w 25 rfl) (Ins.self E24) (pc' := 17) rfl d2_14 (fun T37 X38 => ?_)
  refine go_putF C X38 (C.w 27 rfl) Via.refl F27 E25 (Or.inr ⟨C.w 28 rfl, rfl, C.nmE⟩) (C.w 8 rfl) ga (ty := (.array .int)) (by decide) rfl rfl (pc' := 20) rfl d2_17 (fun T39 h41 W42 X40 => ?_)
  have F43 := F27.same W42
  have E44 := E25.wr W42
  have F45 := F26.other W42 (Or.inr (slot_ne (Or.inr (C.w 17 rfl)) (Or.inr (C.w 28 rfl)) (by decide) (t := (.array .int)) (t' := (.array .int)) (by decide) (by decide)))
  have F46 := F28.other W42 (Or.inr (slot_ne (Or.inr (C.w 30 rfl)) (Or.inr (C.w 28 rfl)) (by decide) (t := (.array .int)) (t' := (.array .int)) (by decide) (by decide)))
  have F47 := F29.other W42 (Or.inr (slot_ne (Or.inr (C.w 36 rfl)) (Or.inr (C.w 28 rfl)) (by decide) (t := .int) (t' := (.array .int)) (by decide) (by decide)))
  have F48 := F30.other W42 (Or.inr (slot_ne (Or.inr (C.w 38 rfl)) (Or.inr (C.w 28 rfl)) (by decide) (t := .long) (t' := (.array .int)) (by decide) (by decide)))
  have F49 := F31.other W42 (Or.inr (slot_ne (Or.inr (C.w 50 rfl)) (Or.inr (C.w 28 rfl)) (by decide) (t := (.array (.array .long))) (t' := (.array .int)) (by decide) (by decide)))
  have F50 := F32.other W42 (Or.inr (slot_ne (Or.inr (C.w 52 rfl)) (Or.inr (C.w 28 rfl)) (by decide) (t := .long) (t' := (.array .int)) (by decide) (by decide)))
  have A51 := A33.other W42 (Ne.symm nas)
  have A52 := A34.other W42 (Ne.symm nam)
  have E53 := E35.wr W42
  have A54 := A23.other W42 (Ne.symm ne_a_mc)
  have E55 := E24.wr W42
  have K56 := K36.wr W42 (Or.inl (List.mem_of_getElem? (i := 0) rfl))
  refine go_aloadN C X40 21 rfl d2_20 rfl rfl ?_
  refine go_aloadN C X40 22 rfl d2_21 rfl rfl ?_
  refine go_alen C X40 A51 (z := (5 : Int32)) (by rw [ia_len, hl]; rfl) (pc' := 23) rfl d2_22 ?_
  refine go_newarr C X40 (C.w 0 rfl) (cap := 5) (by decide) (by decide) (by decide) (by decide) (by decide) (pc' := 25) rfl d2_23 (fun T57 h59 xb ha_xb ga_xb E60 A61  X58 => ?_)
  have ne_a_xb : a ≠ xb := Nat.ne_of_lt (Nat.lt_of_lt_of_le E44.lt (Nat.le_of_eq ha_xb.symm))
  have ne_sb_xb : sb ≠ xb := Nat.ne_of_lt (Nat.lt_of_lt_of_le A51.lt (Nat.le_of_eq ha_xb.symm))
  have ne_mb_xb : mb ≠ xb := Nat.ne_of_lt (Nat.lt_of_lt_of_le A52.lt (Nat.le_of_eq ha_xb.symm))
  have ne_mc_xb : mc ≠ xb := Nat.ne_of_lt (Nat.lt_of_lt_of_le A54.lt (Nat.le_of_eq ha_xb.symm))
  have sz_xb : h.size ≤ xb := Nat.le_trans K56.1 (Nat.le_of_eq ha_xb.symm)
  have E62 := E44.ext E60
  have F63 := F45.ext E60
  have F64 := F43.ext E60
  have F65 := F46.ext E60
  have F66 := F47.ext E60
  have F67 := F48.ext E60
  have F68 := F49.ext E60
  have F69 := F50.ext E60
  have A70 := A51.ext E60
  have A71 := A52.ext E60
  have E72 := E53.ext E60
  have A73 := A54.ext E60
  have E74 := E55.ext E60
  have K75 := K56.ext E60
  replace A61 : La Z h59 xb .int ([(.int (0 : Int32)), (.int (0 : Int32)), (.int (0 : Int32)), (.int (0 : Int32)), (.int (0 : Int32))]) := A61
  refine go_putF C X58 (C.w 29 rfl) Via.refl F65 E62 (Or.inr ⟨C.w 30 rfl, rfl, C.nmE⟩) (C.w 8 rfl) ga (ty := (.array .int)) (by decide) rfl rfl (pc' := 28) rfl d2_25 (fun T76 h78 W79 X77 => ?_)
  have F80 := F65.same W79
  have E81 := E62.wr W79
  have F82 := F63.other W79 (Or.inr (slot_ne (Or.inr (C.w 17 rfl)) (Or.inr (C.w 30 rfl)) (by decide) (t := (.array .int)) (t' := (.array .int)) (by decide) (by decide)))
  have F83 := F64.other W79 (Or.inr (slot_ne (Or.inr (C.w 28 rfl)) (Or.inr (C.w 30 rfl)) (by decide) (t := (.array .int)) (t' := (.array .int)) (by decide) (by decide)))
  have F84 := F66.other W79 (Or.inr (slot_ne (Or.inr (C.w 36 rfl)) (Or.inr (C.w 30 rfl)) (by decide) (t := .int) (t' := (.array .int)) (by decide) (by decide)))
  have F85 := F67.other W79 (Or.inr (slot_ne (Or.inr (C.w 38 rfl)) (Or.inr (C.w 30 rfl)) (by decide) (t := .long) (t' := (.array .int)) (by decide) (by decide)))
  have F86 := F68.other W79 (Or.inr (slot_ne (Or.inr (C.w 50 rfl)) (Or.inr (C.w 30 rfl)) (by decide) (t := (.array (.array .long))) (t' := (.array .int)) (by decide) (by decide)))
  have F87 := F69.other W79 (Or.inr (slot_ne (Or.inr (C.w 52 rfl)) (Or.inr (C.w 30 rfl)) (by decide) (t := .long) (t' := (.array .int)) (by decide) (by decide)))
  have A88 := A70.other W79 (Ne.symm nas)
  have A89 := A71.other W79 (Ne.symm nam)
  have E90 := E72.wr W79
  have A91 := A73.other W79 (Ne.symm ne_a_mc)
  have E92 := E74.wr W79
  have A93 := A61.other W79 (Ne.symm ne_a_xb)
  have K94 := K75.wr W79 (Or.inl (List.mem_of_getElem? (i := 0) rfl))
  refine go_aloadN C X77 29 rfl d2_28 rfl rfl ?_
  refine go_getF C X77 (C.w 29 rfl) Via.refl F80 (pc' := 32) rfl d2_29 (fun T95 X96 => ?_)
  refine go_iconst C X96 33 rfl d2_32 (z := (-1)) rfl ?_
  refine go_callS C X96 (C.w 31 rfl) (C.w 32 rfl) (C.w 33 rfl) (C.w 34 rfl) (own_fillI l Z a0 C.ws xb (-1 : Int32) h78 n0 X96.old A93 ga_xb) (argsL := [(.ref xb), (.int (-1 : Int32))]) (rest := []) (lenOf pd_1 rfl) rfl (by decide) (by decide) (Nat.le_of_ble_eq_true rfl) (by decide) (by decide) rfl rfl (pc' := 36) rfl d2_33 ?_
  rintro T97 h99 _ ⟨rfl, K8, A8⟩ X98
  show Go p e below _ (T97.setTop (mkF m 36 #[rv a, rv sb, rv mb, iv (2 : Int32), jv st, sc, un] []))
  have E100 := E81.keep K8
  have F101 := F82.keep K8 (ninS ne_a_xb nin0)
  have F102 := F83.keep K8 (ninS ne_a_xb nin0)
  have F103 := F80.keep K8 (ninS ne_a_xb nin0)
  have F104 := F84.keep K8 (ninS ne_a_xb nin0)
  have F105 := F85.keep K8 (ninS ne_a_xb nin0)
  have F106 := F86.keep K8 (ninS ne_a_xb nin0)
  have F107 := F87.keep K8 (ninS ne_a_xb nin0)
  have A108 := A88.keep K8 (ninS ne_sb_xb nin0)
  have A109 := A89.keep K8 (ninS ne_mb_xb nin0)
  have E110 := E90.keep K8
  have A111 := A91.keep K8 (ninS ne_mc_xb nin0)
  have E112 := E92.keep K8
  have K113 := K94.trans K8 (allS (Or.inr sz_xb) all0)
  refine go_iconst C X98 37 rfl d2_36 (z := 0) rfl ?_
  refine go_istore C X98 39 rfl d2_37 #[rv a, rv sb, rv mb, iv (2 : Int32), jv st, sc, iv (0 : Int32)] rfl ?_
  replace A8 : La Z h99 xb .int (ia [-1, -1, -1, -1, -1]) := A8
  refine go_iload C X98 41 rfl d2_39 rfl ?_
  refine go_aloadN C X98 42 rfl d2_41 rfl rfl ?_
  refine go_alen C X98 A109 (z := (4 : Int32)) rfl (pc' := 43) rfl d2_42 ?_
  refine go_icmp_ge C X98 d2_43 (pc' := 46) (pc2 := 63) rfl (by decide) (by decide) (fun (c43 : 4 ≤ 0) => False.elim (by first | omega | exact absurd c43 (by decide))) (fun (c43 : 0 < 4) => ?_)
  refine go_aloadN C X98 47 rfl d2_46 rfl rfl ?_
  refine go_getF C X98 (C.w 29 rfl) Via.refl F103 (pc' := 50) rfl d2_47 (fun T114 X115 => ?_)
  refine go_aloadN C X115 51 rfl d2_50 rfl rfl ?_
  refine go_iload C X115 53 rfl d2_51 rfl ?_
  refine go_iaload C X115 A109 (by decide) (v := (.int m0)) rfl (pc' := 54) rfl d2_53 ?_
  refine go_iload C X115 56 rfl d2_54 rfl ?_
  refine go_iastore C X115 A8 b0.1 (by rw [ia_len]; exact b0.2) ga_xb (pc' := 57) rfl d2_56 (fun T116 h118 W119 A120 X117 => ?_)
  have E121 := E100.wr W119
  have F122 := F101.other W119 (Or.inl ne_a_xb)
  have F123 := F102.other W119 (Or.inl ne_a_xb)
  have F124 := F103.other W119 (Or.inl ne_a_xb)
  have F125 := F104.other W119 (Or.inl ne_a_xb)
  have F126 := F105.other W119 (Or.inl ne_a_xb)
  have F127 := F106.other W119 (Or.inl ne_a_xb)
  have F128 := F107.other W119 (Or.inl ne_a_xb)
  have A129 := A108.other W119 ne_sb_xb
  have A130 := A109.other W119 ne_mb_xb
  have E131 := E110.wr W119
  have A132 := A111.other W119 ne_mc_xb
  have E133 := E112.wr W119
  have K134 := K113.wr W119 (Or.inr sz_xb)
  rw [ia_put] at A120
  refine go_iinc C X117 60 rfl d2_57 rfl (z := 1) rfl #[rv a, rv sb, rv mb, iv (2 : Int32), jv st, sc, iv (1 : Int32)] rfl ?_
  refine go_goto C X117 d2_60 (pc' := 39) (by decide) (by decide) ?_
  refine go_iload C X117 41 rfl d2_39 rfl ?_
  refine go_aloadN C X117 42 rfl d2_41 rfl rfl ?_
  refine go_alen C X117 A130 (z := (4 : Int32)) rfl (pc' := 43) rfl d2_42 ?_
  refine go_icmp_ge C X117 d2_43 (pc' := 46) (pc2 := 63) rfl (by decide) (by decide) (fun (c43 : 4 ≤ 1) => False.elim (by first | omega | exact absurd c43 (by decide))) (fun (c43 : 1 < 4) => ?_)
  refine go_aloadN C X117 47 rfl d2_46 rfl rfl ?_
  refine go_getF C X117 (C.w 29 rfl) Via.refl F124 (pc' := 50) rfl d2_47 (fun T135 X136 => ?_)
  refine go_aloadN C X136 51 rfl d2_50 rfl rfl ?_
  refine go_iload C X136 53 rfl d2_51 rfl ?_
  refine go_iaload C X136 A130 (by decide) (v := (.int m1)) rfl (pc' := 54) rfl d2_53 ?_
  refine go_iload C X136 56 rfl d2_54 rfl ?_
  refine go_iastore C X136 A120 b1.1 (by rw [ia_len]; rw [put32_len]; exact b1.2) ga_xb (pc' := 57) rfl d2_56 (fun T137 h139 W140 A141 X138 => ?_)
  have E142 := E121.wr W140
  have F143 := F122.other W140 (Or.inl ne_a_xb)
  have F144 := F123.other W140 (Or.inl ne_a_xb)
  have F145 := F124.other W140 (Or.inl ne_a_xb)
  have F146 := F125.other W140 (Or.inl ne_a_xb)
  have F147 := F126.other W140 (Or.inl ne_a_xb)
  have F148 := F127.other W140 (Or.inl ne_a_xb)
  have F149 := F128.other W140 (Or.inl ne_a_xb)
  have A150 := A129.other W140 ne_sb_xb
  have A151 := A130.other W140 ne_mb_xb
  have E152 := E131.wr W140
  have A153 := A132.other W140 ne_mc_xb
  have E154 := E133.wr W140
  have K155 := K134.wr W140 (Or.inr sz_xb)
  rw [ia_put] at A141
  refine go_iinc C X138 60 rfl d2_57 rfl (z := 1) rfl #[rv a, rv sb, rv mb, iv (2 : Int32), jv st, sc, iv (2 : Int32)] rfl ?_
  refine go_goto C X138 d2_60 (pc' := 39) (by decide) (by decide) ?_
  refine go_iload C X138 41 rfl d2_39 rfl ?_
  refine go_aloadN C X138 42 rfl d2_41 rfl rfl ?_
  refine go_alen C X138 A151 (z := (4 : Int32)) rfl (pc' := 43) rfl d2_42 ?_
  refine go_icmp_ge C X138 d2_43 (pc' := 46) (pc2 := 63) rfl (by decide) (by decide) (fun (c43 : 4 ≤ 2) => False.elim (by first | omega | exact absurd c43 (by decide))) (fun (c43 : 2 < 4) => ?_)
  refine go_aloadN C X138 47 rfl d2_46 rfl rfl ?_
  refine go_getF C X138 (C.w 29 rfl) Via.refl F145 (pc' := 50) rfl d2_47 (fun T156 X157 => ?_)
  refine go_aloadN C X157 51 rfl d2_50 rfl rfl ?_
  refine go_iload C X157 53 rfl d2_51 rfl ?_
  refine go_iaload C X157 A151 (by decide) (v := (.int m2)) rfl (pc' := 54) rfl d2_53 ?_
  refine go_iload C X157 56 rfl d2_54 rfl ?_
  refine go_iastore C X157 A141 b2.1 (by rw [ia_len]; rw [put32_len]; rw [put32_len]; exact b2.2) ga_xb (pc' := 57) rfl d2_56 (fun T158 h160 W161 A162 X159 => ?_)
  have E163 := E142.wr W161
  have F164 := F143.other W161 (Or.inl ne_a_xb)
  have F165 := F144.other W161 (Or.inl ne_a_xb)
  have F166 := F145.other W161 (Or.inl ne_a_xb)
  have F167 := F146.other W161 (Or.inl ne_a_xb)
  have F168 := F147.other W161 (Or.inl ne_a_xb)
  have F169 := F148.other W161 (Or.inl ne_a_xb)
  have F170 := F149.other W161 (Or.inl ne_a_xb)
  have A171 := A150.other W161 ne_sb_xb
  have A172 := A151.other W161 ne_mb_xb
  have E173 := E152.wr W161
  have A174 := A153.other W161 ne_mc_xb
  have E175 := E154.wr W161
  have K176 := K155.wr W161 (Or.inr sz_xb)
  rw [ia_put] at A162
  refine go_iinc C X159 60 rfl d2_57 rfl (z := 1) rfl #[rv a, rv sb, rv mb, iv (2 : Int32), jv st, sc, iv (3 : Int32)] rfl ?_
  refine go_goto C X159 d2_60 (pc' := 39) (by decide) (by decide) ?_
  refine go_iload C X159 41 rfl d2_39 rfl ?_
  refine go_aloadN C X159 42 rfl d2_41 rfl rfl ?_
  refine go_alen C X159 A172 (z := (4 : Int32)) rfl (pc' := 43) rfl d2_42 ?_
  refine go_icmp_ge C X159 d2_43 (pc' := 46) (pc2 := 63) rfl (by decide) (by decide) (fun (c43 : 4 ≤ 3) => False.elim (by first | omega | exact absurd c43 (by decide))) (fun (c43 : 3 < 4) => ?_)
  refine go_aloadN C X159 47 rfl d2_46 rfl rfl ?_
  refine go_getF C X159 (C.w 29 rfl) Via.refl F166 (pc' := 50) rfl d2_47 (fun T177 X178 => ?_)
  refine go_aloadN C X178 51 rfl d2_50 rfl rfl ?_
  refine go_iload C X178 53 rfl d2_51 rfl ?_
  refine go_iaload C X178 A172 (by decide) (v := (.int m3)) rfl (pc' := 54) rfl d2_53 ?_
  refine go_iload C X178 56 rfl d2_54 rfl ?_
  refine go_iastore C X178 A162 b3.1 (by rw [ia_len]; rw [put32_len]; rw [put32_len]; rw [put32_len]; exact b3.2) ga_xb (pc' := 57) rfl d2_56 (fun T179 h181 W182 A183 X180 => ?_)
  have E184 := E163.wr W182
  have F185 := F164.other W182 (Or.inl ne_a_xb)
  have F186 := F165.other W182 (Or.inl ne_a_xb)
  have F187 := F166.other W182 (Or.inl ne_a_xb)
  have F188 := F167.other W182 (Or.inl ne_a_xb)
  have F189 := F168.other W182 (Or.inl ne_a_xb)
  have F190 := F169.other W182 (Or.inl ne_a_xb)
  have F191 := F170.other W182 (Or.inl ne_a_xb)
  have A192 := A171.other W182 ne_sb_xb
  have A193 := A172.other W182 ne_mb_xb
  have E194 := E173.wr W182
  have A195 := A174.other W182 ne_mc_xb
  have E196 := E175.wr W182
  have K197 := K176.wr W182 (Or.inr sz_xb)
  rw [ia_put] at A183
  refine go_iinc C X180 60 rfl d2_57 rfl (z := 1) rfl #[rv a, rv sb, rv mb, iv (2 : Int32), jv st, sc, iv (4 : Int32)] rfl ?_
  refine go_goto C X180 d2_60 (pc' := 39) (by decide) (by decide) ?_
  refine go_iload C X180 41 rfl d2_39 rfl ?_
  refine go_aloadN C X180 42 rfl d2_41 rfl rfl ?_
  refine go_alen C X180 A193 (z := (4 : Int32)) rfl (pc' := 43) rfl d2_42 ?_
  refine go_icmp_ge C X180 d2_43 (pc' := 46) (pc2 := 63) rfl (by decide) (by decide) (fun (c43 : 4 ≤ 4) => ?_) (fun (c43 : 4 < 4) => False.elim (by first | omega | exact absurd c43 (by decide)))
  refine go_aloadN C X180 64 rfl d2_63 rfl rfl ?_
  refine go_iloadN C X180 65 rfl d2_64 rfl ?_
  refine go_putF C X180 (C.w 35 rfl) Via.refl F188 E184 (Or.inr ⟨C.w 36 rfl, rfl, C.nmE⟩) (C.w 8 rfl) ga (ty := .int) (by decide) rfl rfl (pc' := 68) rfl d2_65 (fun T198 h200 W201 X199 => ?_)
  have F202 := F188.same W201
  have E203 := E184.wr W201
  have F204 := F185.other W201 (Or.inr (slot_ne (Or.inr (C.w 17 rfl)) (Or.inr (C.w 36 rfl)) (by decide) (t := (.array .int)) (t' := .int) (by decide) (by decide)))
  have F205 := F186.other W201 (Or.inr (slot_ne (Or.inr (C.w 28 rfl)) (Or.inr (C.w 36 rfl)) (by decide) (t := (.array .int)) (t' := .int) (by decide) (by decide)))
  have F206 := F187.other W201 (Or.inr (slot_ne (Or.inr (C.w 30 rfl)) (Or.inr (C.w 36 rfl)) (by decide) (t := (.array .int)) (t' := .int) (by decide) (by decide)))
  have F207 := F189.other W201 (Or.inr (slot_ne (Or.inr (C.w 38 rfl)) (Or.inr (C.w 36 rfl)) (by decide) (t := .long) (t' := .int) (by decide) (by decide)))
  have F208 := F190.other W201 (Or.inr (slot_ne (Or.inr (C.w 50 rfl)) (Or.inr (C.w 36 rfl)) (by decide) (t := (.array (.array .long))) (t' := .int) (by decide) (by decide)))
  have F209 := F191.other W201 (Or.inr (slot_ne (Or.inr (C.w 52 rfl)) (Or.inr (C.w 36 rfl)) (by decide) (t := .long) (t' := .int) (by decide) (by decide)))
  have A210 := A192.other W201 (Ne.symm nas)
  have A211 := A193.other W201 (Ne.symm nam)
  have E212 := E194.wr W201
  have A213 := A195.other W201 (Ne.symm ne_a_mc)
  have E214 := E196.wr W201
  have A215 := A183.other W201 (Ne.symm ne_a_xb)
  have K216 := K197.wr W201 (Or.inl (List.mem_of_getElem? (i := 0) rfl))
  refine go_aloadN C X199 69 rfl d2_68 rfl rfl ?_
  refine go_lload C X199 71 rfl d2_69 rfl ?_
  refine go_putF C X199 (C.w 37 rfl) Via.refl F207 E203 (Or.inr ⟨C.w 38 rfl, rfl, C.nmE⟩) (C.w 8 rfl) ga (ty := .long) (by decide) rfl rfl (pc' := 74) rfl d2_71 (fun T217 h219 W220 X218 => ?_)
  have F221 := F207.same W220
  have E222 := E203.wr W220
  have F223 := F204.other W220 (Or.inr (slot_ne (Or.inr (C.w 17 rfl)) (Or.inr (C.w 38 rfl)) (by decide) (t := (.array .int)) (t' := .long) (by decide) (by decide)))
  have F224 := F205.other W220 (Or.inr (slot_ne (Or.inr (C.w 28 rfl)) (Or.inr (C.w 38 rfl)) (by decide) (t := (.array .int)) (t' := .long) (by decide) (by decide)))
  have F225 := F206.other W220 (Or.inr (slot_ne (Or.inr (C.w 30 rfl)) (Or.inr (C.w 38 rfl)) (by decide) (t := (.array .int)) (t' := .long) (by decide) (by decide)))
  have F226 := F202.other W220 (Or.inr (slot_ne (Or.inr (C.w 36 rfl)) (Or.inr (C.w 38 rfl)) (by decide) (t := .int) (t' := .long) (by decide) (by decide)))
  have F227 := F208.other W220 (Or.inr (slot_ne (Or.inr (C.w 50 rfl)) (Or.inr (C.w 38 rfl)) (by decide) (t := (.array (.array .long))) (t' := .long) (by decide) (by decide)))
  have F228 := F209.other W220 (Or.inr (slot_ne (Or.inr (C.w 52 rfl)) (Or.inr (C.w 38 rfl)) (by decide) (t := .long) (t' := .long) (by decide) (by decide)))
  have A229 := A210.other W220 (Ne.symm nas)
  have A230 := A211.other W220 (Ne.symm nam)
  have E231 := E212.wr W220
  have A232 := A213.other W220 (Ne.symm ne_a_mc)
  have E233 := E214.wr W220
  have A234 := A215.other W220 (Ne.symm ne_a_xb)
  have K235 := K216.wr W220 (Or.inl (List.mem_of_getElem? (i := 0) rfl))
  refine go_aloadN C X218 75 rfl d2_74 rfl rfl ?_
  refine go_aloadN C X218 76 rfl d2_75 rfl rfl ?_
  have hsz_76 := X218.sz
  have lt_a_76 := E222.lt
  have lt_sb_76 := A229.lt
  have lt_mb_76 := A230.lt
  have lt_mc_76 := A232.lt
  have lt_xb_76 := A234.lt
  refine go_private C X218 E222 (C.w 39 rfl) (C.w 40 rfl) (Jvm.Kit.selects_private (by decide) (C.w 8 rfl) (C.w 41 rfl) (C.w 40 rfl)) (C.w 41 rfl) (C.w 9 rfl) (C.w 42 rfl) (own_suf_2 l Z a0 C.ws a sb mc sz m0 m1 m2 m3 s0 s1 s2 s3 h219 n0 X218.old E222 F223 F224 F226 A229 A232 hl b0 z0 b1 z1 b2 z2 b3 z3) (argsL := []) (rest := [(.ref a)]) (lenOf pd_2 rfl) rfl (by decide) (by decide) (Nat.le_of_ble_eq_true rfl) (by decide) (by decide) rfl rfl (pc' := 79) rfl d2_76 ?_
  rintro T236 h238 _ ⟨ob, r0, r1, r2, rfl, K7, sz7, sz7r0, sz7r1, sz7r2, A7, A7r0, A7r1, A7r2⟩ X237
  show Go p e below _ (T236.setTop (mkF m 79 #[rv a, rv sb, rv mb, iv (2 : Int32), jv st, sc, iv (4 : Int32)] [(.ref ob), (.ref a)]))
  have ne_a_ob : a ≠ ob := Nat.ne_of_lt (Nat.lt_of_lt_of_le lt_a_76 sz7)
  have ne_sb_ob : sb ≠ ob := Nat.ne_of_lt (Nat.lt_of_lt_of_le lt_sb_76 sz7)
  have ne_mb_ob : mb ≠ ob := Nat.ne_of_lt (Nat.lt_of_lt_of_le lt_mb_76 sz7)
  have ne_mc_ob : mc ≠ ob := Nat.ne_of_lt (Nat.lt_of_lt_of_le lt_mc_76 sz7)
  have ne_xb_ob : xb ≠ ob := Nat.ne_of_lt (Nat.lt_of_lt_of_le lt_xb_76 sz7)
  have ga_ob : n0 ≤ ob := Nat.le_trans hsz_76 sz7
  have sz_ob : h.size ≤ ob := Nat.le_trans K235.1 sz7
  have ne_a_r0 : a ≠ r0 := Nat.ne_of_lt (Nat.lt_of_lt_of_le lt_a_76 sz7r0)
  have ne_sb_r0 : sb ≠ r0 := Nat.ne_of_lt (Nat.lt_of_lt_of_le lt_sb_76 sz7r0)
  have ne_mb_r0 : mb ≠ r0 := Nat.ne_of_lt (Nat.lt_of_lt_of_le lt_mb_76 sz7r0)
  have ne_mc_r0 : mc ≠ r0 := Nat.ne_of_lt (Nat.lt_of_lt_of_le lt_mc_76 sz7r0)
  have ne_xb_r0 : xb ≠ r0 := Nat.ne_of_lt (Nat.lt_of_lt_of_le lt_xb_76 sz7r0)
  have ga_r0 : n0 ≤ r0 := Nat.le_trans hsz_76 sz7r0
  have sz_r0 : h.size ≤ r0 := Nat.le_trans K235.1 sz7r0
  have ne_a_r1 : a ≠ r1 := Nat.ne_of_lt (Nat.lt_of_lt_of_le lt_a_76 sz7r1)
  have ne_sb_r1 : sb ≠ r1 := Nat.ne_of_lt (Nat.lt_of_lt_of_le lt_sb_76 sz7r1)
  have ne_mb_r1 : mb ≠ r1 := Nat.ne_of_lt (Nat.lt_of_lt_of_le lt_mb_76 sz7r1)
  have ne_mc_r1 : mc ≠ r1 := Nat.ne_of_lt (Nat.lt_of_lt_of_le lt_mc_76 sz7r1)
  have ne_xb_r1 : xb ≠ r1 := Nat.ne_of_lt (Nat.lt_of_lt_of_le lt_xb_76 sz7r1)
  have ga_r1 : n0 ≤ r1 := Nat.le_trans hsz_76 sz7r1
  have sz_r1 : h.size ≤ r1 := Nat.le_trans K235.1 sz7r1
  have ne_a_r2 : a ≠ r2 := Nat.ne_of_lt (Nat.lt_of_lt_of_le lt_a_76 sz7r2)
  have ne_sb_r2 : sb ≠ r2 := Nat.ne_of_lt (Nat.lt_of_lt_of_le lt_sb_76 sz7r2)
  have ne_mb_r2 : mb ≠ r2 := Nat.ne_of_lt (Nat.lt_of_lt_of_le lt_mb_76 sz7r2)
  have ne_mc_r2 : mc ≠ r2 := Nat.ne_of_lt (Nat.lt_of_lt_of_le lt_mc_76 sz7r2)
  have ne_xb_r2 : xb ≠ r2 := Nat.ne_of_lt (Nat.lt_of_lt_of_le lt_xb_76 sz7r2)
  have ga_r2 : n0 ≤ r2 := Nat.le_trans hsz_76 sz7r2
  have sz_r2 : h.size ≤ r2 := Nat.le_trans K235.1 sz7r2
  have E239 := E222.keep K7
  have F240 := F223.keep K7 nin0
  have F241 := F224.keep K7 nin0
  have F242 := F225.keep K7 nin0
  have F243 := F226.keep K7 nin0
  have F244 := F221.keep K7 nin0
  have F245 := F227.keep K7 nin0
  have F246 := F228.keep K7 nin0
  have A247 := A229.keep K7 nin0
  have A248 := A230.keep K7 nin0
  have E249 := E231.keep K7
  have A250 := A232.keep K7 nin0
  have E251 := E233.keep K7
  have A252 := A234.keep K7 nin0
  have K253 := K235.trans K7 all0
  refine go_putF C X237 (C.w 49 rfl) Via.refl F245 E239 (Or.inr ⟨C.w 50 rfl, rfl, C.nmE⟩) (C.w 8 rfl) ga (ty := (.array (.array .long))) (by decide) rfl rfl (pc' := 82) rfl d2_79 (fun T254 h256 W257 X255 => ?_)
  have F258 := F245.same W257
  have E259 := E239.wr W257
  have F260 := F240.other W257 (Or.inr (slot_ne (Or.inr (C.w 17 rfl)) (Or.inr (C.w 50 rfl)) (by decide) (t := (.array .int)) (t' := (.array (.array .long))) (by decide) (by decide)))
  have F261 := F241.other W257 (Or.inr (slot_ne (Or.inr (C.w 28 rfl)) (Or.inr (C.w 50 rfl)) (by decide) (t := (.array .int)) (t' := (.array (.array .long))) (by decide) (by decide)))
  have F262 := F242.other W257 (Or.inr (slot_ne (Or.inr (C.w 30 rfl)) (Or.inr (C.w 50 rfl)) (by decide) (t := (.array .int)) (t' := (.array (.array .long))) (by decide) (by decide)))
  have F263 := F243.other W257 (Or.inr (slot_ne (Or.inr (C.w 36 rfl)) (Or.inr (C.w 50 rfl)) (by decide) (t := .int) (t' := (.array (.array .long))) (by decide) (by decide)))
  have F264 := F244.other W257 (Or.inr (slot_ne (Or.inr (C.w 38 rfl)) (Or.inr (C.w 50 rfl)) (by decide) (t := .long) (t' := (.array (.array .long))) (by decide) (by decide)))
  have F265 := F246.other W257 (Or.inr (slot_ne (Or.inr (C.w 52 rfl)) (Or.inr (C.w 50 rfl)) (by decide) (t := .long) (t' := (.array (.array .long))) (by decide) (by decide)))
  have A266 := A247.other W257 (Ne.symm nas)
  have A267 := A248.other W257 (Ne.symm nam)
  have E268 := E249.wr W257
  have A269 := A250.other W257 (Ne.symm ne_a_mc)
  have E270 := E251.wr W257
  have A271 := A252.other W257 (Ne.symm ne_a_xb)
  have A272 := A7.other W257 (Ne.symm ne_a_ob)
  have A273 := A7r0.other W257 (Ne.symm ne_a_r0)
  have A274 := A7r1.other W257 (Ne.symm ne_a_r1)
  have A275 := A7r2.other W257 (Ne.symm ne_a_r2)
  have K276 := K253.wr W257 (Or.inl (List.mem_of_getElem? (i := 0) rfl))
  refine go_aloadN C X255 83 rfl d2_82 rfl rfl ?_
  refine go_aloadN C X255 84 rfl d2_83 rfl rfl ?_
  refine go_getF C X255 (C.w 49 rfl) Via.refl F258 (pc' := 87) rfl d2_84 (fun T277 X278 => ?_)
  refine go_iloadN C X278 88 rfl d2_87 rfl ?_
  refine go_aaload C X278 A272 rfl (by decide) (v := (.ref r2)) rfl (pc' := 89) rfl d2_88 ?_
  refine go_iconst C X278 90 rfl d2_89 (z := 0) rfl ?_
  refine go_laload C X278 A275 (by decide) (v := (.long (((((0 : Int64) + (s3.toInt64 * (0 : Int64))) + (s2.toInt64 * ((0 : Int64) + (s3.toInt64 * (1 : Int64))))) + (s1.toInt64 * (((0 : Int64) + (s3.toInt64 * (1 : Int64))) + (s2.toInt64 * (1 : Int64))))) + (s0.toInt64 * ((((0 : Int64) + (s3.toInt64 * (1 : Int64))) + (s2.toInt64 * (1 : Int64))) + (s1.toInt64 * (1 : Int64))))))) rfl (pc' := 91) rfl d2_90 ?_
  refine go_putF C X278 (C.w 51 rfl) Via.refl F265 E259 (Or.inr ⟨C.w 52 rfl, rfl, C.nmE⟩) (C.w 8 rfl) ga (ty := .long) (by decide) rfl rfl (pc' := 94) rfl d2_91 (fun T279 h281 W282 X280 => ?_)
  have F283 := F265.same W282
  have E284 := E259.wr W282
  have F285 := F260.other W282 (Or.inr (slot_ne (Or.inr (C.w 17 rfl)) (Or.inr (C.w 52 rfl)) (by decide) (t := (.array .int)) (t' := .long) (by decide) (by decide)))
  have F286 := F261.other W282 (Or.inr (slot_ne (Or.inr (C.w 28 rfl)) (Or.inr (C.w 52 rfl)) (by decide) (t := (.array .int)) (t' := .long) (by decide) (by decide)))
  have F287 := F262.other W282 (Or.inr (slot_ne (Or.inr (C.w 30 rfl)) (Or.inr (C.w 52 rfl)) (by decide) (t := (.array .int)) (t' := .long) (by decide) (by decide)))
  have F288 := F263.other W282 (Or.inr (slot_ne (Or.inr (C.w 36 rfl)) (Or.inr (C.w 52 rfl)) (by decide) (t := .int) (t' := .long) (by decide) (by decide)))
  have F289 := F264.other W282 (Or.inr (slot_ne (Or.inr (C.w 38 rfl)) (Or.inr (C.w 52 rfl)) (by decide) (t := .long) (t' := .long) (by decide) (by decide)))
  have F290 := F258.other W282 (Or.inr (slot_ne (Or.inr (C.w 50 rfl)) (Or.inr (C.w 52 rfl)) (by decide) (t := (.array (.array .long))) (t' := .long) (by decide) (by decide)))
  have A291 := A266.other W282 (Ne.symm nas)
  have A292 := A267.other W282 (Ne.symm nam)
  have E293 := E268.wr W282
  have A294 := A269.other W282 (Ne.symm ne_a_mc)
  have E295 := E270.wr W282
  have A296 := A271.other W282 (Ne.symm ne_a_xb)
  have A297 := A272.other W282 (Ne.symm ne_a_ob)
  have A298 := A273.other W282 (Ne.symm ne_a_r0)
  have A299 := A274.other W282 (Ne.symm ne_a_r1)
  have A300 := A275.other W282 (Ne.symm ne_a_r2)
  have K301 := K276.wr W282 (Or.inl (List.mem_of_getElem? (i := 0) rfl))
  exact go_ret0 C X280 d2_94 ⟨rfl, xb, ob, r0, r1, r2, K301, E284, F285, F287, F289, F290, sz_xb, sz_ob, sz_r0, sz_r1, sz_r2, A296, A297, A298, A299, A300⟩ (by decide) (by decide)
theorem ef_own_init_3 (m : MethodId) (a : Addr) (sb : Addr) (mb : Addr) (st : Int64)  : entryFrame m #[(.ref a), (.ref sb), (.ref mb), (.int (3 : Int32)), (.long st)] 7 = mkF m 0 #[rv a, rv sb, rv mb, iv (3 : Int32), jv st, sc, un] [] := by
  first | (simp [entryFrame, mkF, argsToLocals, Value.category]; done) | rfl
set_option maxRecDepth 65536 in
set_option maxHeartbeats 40000000 in
theorem own_init_3 (l : Launch) (Z : State) (a0 : Array Value) (hw : ∀ d ∈ tables_1, d.before a0 Z = true) (a : Addr) (sb : Addr) (mb : Addr) (st : Int64) (sz : List Int32) (m0 m1 m2 m3 s0 s1 s2 s3 : Int32) (h : Heap) (n0 : Nat) (hn0 : Old Z n0 h) (E0 : Exa Z h a "com/example/covertide/covertide/engine/ParameterSets") (F0 : Fld Z h a "com/example/covertide/covertide/engine/ParameterSets" "sizes" "[I" .null) (F1 : Fld Z h a "com/example/covertide/covertide/engine/ParameterSets" "members" "[I" .null) (F2 : Fld Z h a "com/example/covertide/covertide/engine/ParameterSets" "indexOf" "[I" .null) (F3 : Fld Z h a "com/example/covertide/covertide/engine/ParameterSets" "size" "I" (.int (0 : Int32))) (F4 : Fld Z h a "com/example/covertide/covertide/engine/ParameterSets" "start" "J" (.long (0 : Int64))) (F5 : Fld Z h a "com/example/covertide/covertide/engine/ParameterSets" "suffixSums" "[[J" .null) (F6 : Fld Z h a "com/example/covertide/covertide/engine/ParameterSets" "combinations" "J" (.long (0 : Int64))) (A1 : La Z h sb .int (ia sz)) (A2 : La Z h mb .int [(.int m0), (.int m1), (.int m2), (.int m3)]) (EM : Exa Z h mb "[I") (ga : n0 ≤ a) (nas : a ≠ sb) (nam : a ≠ mb) (hl : sz.length = 5) (b0 : 0 ≤ m0.toInt ∧ m0.toInt < (5 : Nat)) (z0 : at32 sz m0 = s0) (b1 : 0 ≤ m1.toInt ∧ m1.toInt < (5 : Nat)) (z1 : at32 sz m1 = s1) (b2 : 0 ≤ m2.toInt ∧ m2.toInt < (5 : Nat)) (z2 : at32 sz m2 = s2) (b3 : 0 ≤ m3.toInt ∧ m3.toInt < (5 : Nat)) (z3 : at32 sz m3 = s3) :
    Con l Z (⟨"com/example/covertide/covertide/engine/ParameterSets", "<init>", "([I[IIJ)V"⟩ : MethodName) prog_10_method_1_code 7 none ({ frames := 2, cells := 7, slots := 33, locals := 33 } : Room) #[(.ref a), (.ref sb), (.ref mb), (.int (3 : Int32)), (.long st)] h n0 (fun v h' => v = none ∧ ∃ xb ob r0 r1 r2 r3 : Addr, Keep h h' [a] ∧ Exa Z h' a "com/example/covertide/covertide/engine/ParameterSets" ∧ Fld Z h' a "com/example/covertide/covertide/engine/ParameterSets" "sizes" "[I" (.ref sb) ∧ Fld Z h' a "com/example/covertide/covertide/engine/ParameterSets" "indexOf" "[I" (.ref xb) ∧ Fld Z h' a "com/example/covertide/covertide/engine/ParameterSets" "start" "J" (.long st) ∧ Fld Z h' a "com/example/covertide/covertide/engine/ParameterSets" "suffixSums" "[[J" (.ref ob) ∧ h.size ≤ xb ∧ h.size ≤ ob ∧ h.size ≤ r0 ∧ h.size ≤ r1 ∧ h.size ≤ r2 ∧ h.size ≤ r3 ∧ La Z h' xb .int (ia (put32 (put32 (put32 (put32 [-1, -1, -1, -1, -1] m0 0) m1 1) m2 2) m3 3)) ∧ La Z h' ob (.array .long) [(.ref r0), (.ref r1), (.ref r2), (.ref r3)] ∧ La Z h' r0 .long [(.long (1 : Int64)), (.long (1 : Int64)), (.long (1 : Int64)), (.long (1 : Int64)), (.long (1 : Int64))] ∧ La Z h' r1 .long [(.long (0 : Int64)), (.long (0 : Int64)), (.long (((0 : Int64) + (s3.toInt64 * (1 : Int64))) + (s2.toInt64 * (1 : Int64)))), (.long ((0 : Int64) + (s3.toInt64 * (1 : Int64)))), (.long (0 : Int64))] ∧ La Z h' r2 .long [(.long (0 : Int64)), (.long ((((0 : Int64) + (s3.toInt64 * (0 : Int64))) + (s2.toInt64 * ((0 : Int64) + (s3.toInt64 * (1 : Int64))))) + (s1.toInt64 * (((0 : Int64) + (s3.toInt64 * (1 : Int64))) + (s2.toInt64 * (1 : Int64)))))), (.long (((0 : Int64) + (s3.toInt64 * (0 : Int64))) + (s2.toInt64 * ((0 : Int64) + (s3.toInt64 * (1 : Int64)))))), (.long ((0 : Int64) + (s3.toInt64 * (0 : Int64)))), (.long (0 : Int64))] ∧ La Z h' r3 .long [(.long (((((0 : Int64) + (s3.toInt64 * (0 : Int64))) + (s2.toInt64 * ((0 : Int64) + (s3.toInt64 * (0 : Int64))))) + (s1.toInt64 * (((0 : Int64) + (s3.toInt64 * (0 : Int64))) + (s2.toInt64 * ((0 : Int64) + (s3.toInt64 * (1 : Int64))))))) + (s0.toInt64 * ((((0 : Int64) + (s3.toInt64 * (0 : Int64))) + (s2.toInt64 * ((0 : Int64) + (s3.toInt64 * (1 : Int64))))) + (s1.toInt64 * (((0 : Int64) + (s3.toInt64 * (1 : Int64))) + (s2.toInt64 * (1 : Int64)))))))), (.long ((((0 : Int64) + (s3.toInt64 * (0 : Int64))) + (s2.toInt64 * ((0 : Int64) + (s3.toInt64 * (0 : Int64))))) + (s1.toInt64 * (((0 : Int64) + (s3.toInt64 * (0 : Int64))) + (s2.toInt64 * ((0 : Int64) + (s3.toInt64 * (1 : Int64)))))))), (.long (((0 : Int64) + (s3.toInt64 * (0 : Int64))) + (s2.toInt64 * ((0 : Int64) + (s3.toInt64 * (0 : Int64)))))), (.long ((0 : Int64) + (s3.toInt64 * (0 : Int64)))), (.long (0 : Int64))]) := by
  refine con_of hw (plainFor_of_name pn_com_example_covertide_covertide_engine_ParameterSets) hn0 ?_
  intro p e s m below meth c T0 C X0
  refine Go.cast (congrArg T0.setTop (ef_own_init_3 m a sb mb st)) ?_
  refine go_aloadN C X0 1 rfl d2_0 rfl rfl ?_
  refine go_initO C X0 (C.w 13 rfl) (C.w 14 rfl) (C.w 15 rfl) (by decide) (Nat.le_of_ble_eq_true rfl) rfl (pc' := 4) rfl d2_1 (fun T1 X2 => ?_)
  refine go_aloadN C X2 5 rfl d2_4 rfl rfl ?_
  refine go_aloadN C X2 6 rfl d2_5 rfl rfl ?_
  refine go_putF C X2 (C.w 16 rfl) Via.refl F0 E0 (Or.inr ⟨C.w 17 rfl, rfl, C.nmE⟩) (C.w 8 rfl) ga (ty := (.array .int)) (by decide) rfl rfl (pc' := 9) rfl d2_6 (fun T3 h5 W6 X4 => ?_)
  have F7 := F0.same W6
  have E8 := E0.wr W6
  have F9 := F1.other W6 (Or.inr (slot_ne (Or.inr (C.w 28 rfl)) (Or.inr (C.w 17 rfl)) (by decide) (t := (.array .int)) (t' := (.array .int)) (by decide) (by decide)))
  have F10 := F2.other W6 (Or.inr (slot_ne (Or.inr (C.w 30 rfl)) (Or.inr (C.w 17 rfl)) (by decide) (t := (.array .int)) (t' := (.array .int)) (by decide) (by decide)))
  have F11 := F3.other W6 (Or.inr (slot_ne (Or.inr (C.w 36 rfl)) (Or.inr (C.w 17 rfl)) (by decide) (t := .int) (t' := (.array .int)) (by decide) (by decide)))
  have F12 := F4.other W6 (Or.inr (slot_ne (Or.inr (C.w 38 rfl)) (Or.inr (C.w 17 rfl)) (by decide) (t := .long) (t' := (.array .int)) (by decide) (by decide)))
  have F13 := F5.other W6 (Or.inr (slot_ne (Or.inr (C.w 50 rfl)) (Or.inr (C.w 17 rfl)) (by decide) (t := (.array (.array .long))) (t' := (.array .int)) (by decide) (by decide)))
  have F14 := F6.other W6 (Or.inr (slot_ne (Or.inr (C.w 52 rfl)) (Or.inr (C.w 17 rfl)) (by decide) (t := .long) (t' := (.array .int)) (by decide) (by decide)))
  have A15 := A1.other W6 (Ne.symm nas)
  have A16 := A2.other W6 (Ne.symm nam)
  have E17 := EM.wr W6
  have K18 := (Keep.refl h [a]).wr W6 (Or.inl (List.mem_of_getElem? (i := 0) rfl))
  refine go_aloadN C X4 10 rfl d2_9 rfl rfl ?_
  refine go_aloadN C X4 11 rfl d2_10 rfl rfl ?_
  refine go_clone C X4 (cap := 4) (C.w 18 rfl) (C.w 19 rfl) (C.w 23 rfl) (C.w 21 rfl) (C.w 22 rfl) (C.w 24 rfl) A16 E17 (by first | decide | exact Nat.le_of_ble_eq_true rfl) (by first | decide | exact Nat.le_of_ble_eq_true rfl) (by first | decide | exact Nat.le_of_ble_eq_true rfl) (by first | decide | exact Nat.le_of_ble_eq_true rfl) (by first | decide | exact Nat.le_of_ble_eq_true rfl) rfl (pc' := 14) rfl d2_11 (fun T19 h21 mc ha_mc ga_mc E22 A23 E24 X20 => ?_)
  have ne_a_mc : a ≠ mc := Nat.ne_of_lt (Nat.lt_of_lt_of_le E8.lt (Nat.le_of_eq ha_mc.symm))
  have ne_sb_mc : sb ≠ mc := Nat.ne_of_lt (Nat.lt_of_lt_of_le A15.lt (Nat.le_of_eq ha_mc.symm))
  have ne_mb_mc : mb ≠ mc := Nat.ne_of_lt (Nat.lt_of_lt_of_le A16.lt (Nat.le_of_eq ha_mc.symm))
  have sz_mc : h.size ≤ mc := Nat.le_trans K18.1 (Nat.le_of_eq ha_mc.symm)
  have E25 := E8.ext E22
  have F26 := F7.ext E22
  have F27 := F9.ext E22
  have F28 := F10.ext E22
  have F29 := F11.ext E22
  have F30 := F12.ext E22
  have F31 := F13.ext E22
  have F32 := F14.ext E22
  have A33 := A15.ext E22
  have A34 := A16.ext E22
  have E35 := E17.ext E22
  have K36 := K18.ext E22
  refine go_cast C X20 (C.w 25 rfl) (Ins.self E24) (pc' := 17) rfl d2_14 (fun T37 X38 => ?_)
  refine go_putF C X38 (C.w 27 rfl) Via.refl F27 E25 (Or.inr ⟨C.w 28 rfl, rfl, C.nmE⟩) (C.w 8 rfl) ga (ty := (.array .int)) (by decide) rfl rfl (pc' := 20) rfl d2_17 (fun T39 h41 W42 X40 => ?_)
  have F43 := F27.same W42
  have E44 := E25.wr W42
  have F45 := F26.other W42 (Or.inr (slot_ne (Or.inr (C.w 17 rfl)) (Or.inr (C.w 28 rfl)) (by decide) (t := (.array .int)) (t' := (.array .int)) (by decide) (by decide)))
  have F46 := F28.other W42 (Or.inr (slot_ne (Or.inr (C.w 30 rfl)) (Or.inr (C.w 28 rfl)) (by decide) (t := (.array .int)) (t' := (.array .int)) (by decide) (by decide)))
  have F47 := F29.other W42 (Or.inr (slot_ne (Or.inr (C.w 36 rfl)) (Or.inr (C.w 28 rfl)) (by decide) (t := .int) (t' := (.array .int)) (by decide) (by decide)))
  have F48 := F30.other W42 (Or.inr (slot_ne (Or.inr (C.w 38 rfl)) (Or.inr (C.w 28 rfl)) (by decide) (t := .long) (t' := (.array .int)) (by decide) (by decide)))
  have F49 := F31.other W42 (Or.inr (slot_ne (Or.inr (C.w 50 rfl)) (Or.inr (C.w 28 rfl)) (by decide) (t := (.array (.array .long))) (t' := (.array .int)) (by decide) (by decide)))
  have F50 := F32.other W42 (Or.inr (slot_ne (Or.inr (C.w 52 rfl)) (Or.inr (C.w 28 rfl)) (by decide) (t := .long) (t' := (.array .int)) (by decide) (by decide)))
  have A51 := A33.other W42 (Ne.symm nas)
  have A52 := A34.other W42 (Ne.symm nam)
  have E53 := E35.wr W42
  have A54 := A23.other W42 (Ne.symm ne_a_mc)
  have E55 := E24.wr W42
  have K56 := K36.wr W42 (Or.inl (List.mem_of_getElem? (i := 0) rfl))
  refine go_aloadN C X40 21 rfl d2_20 rfl rfl ?_
  refine go_aloadN C X40 22 rfl d2_21 rfl rfl ?_
  refine go_alen C X40 A51 (z := (5 : Int32)) (by rw [ia_len, hl]; rfl) (pc' := 23) rfl d2_22 ?_
  refine go_newarr C X40 (C.w 0 rfl) (cap := 5) (by decide) (by decide) (by decide) (by decide) (by decide) (pc' := 25) rfl d2_23 (fun T57 h59 xb ha_xb ga_xb E60 A61  X58 => ?_)
  have ne_a_xb : a ≠ xb := Nat.ne_of_lt (Nat.lt_of_lt_of_le E44.lt (Nat.le_of_eq ha_xb.symm))
  have ne_sb_xb : sb ≠ xb := Nat.ne_of_lt (Nat.lt_of_lt_of_le A51.lt (Nat.le_of_eq ha_xb.symm))
  have ne_mb_xb : mb ≠ xb := Nat.ne_of_lt (Nat.lt_of_lt_of_le A52.lt (Nat.le_of_eq ha_xb.symm))
  have ne_mc_xb : mc ≠ xb := Nat.ne_of_lt (Nat.lt_of_lt_of_le A54.lt (Nat.le_of_eq ha_xb.symm))
  have sz_xb : h.size ≤ xb := Nat.le_trans K56.1 (Nat.le_of_eq ha_xb.symm)
  have E62 := E44.ext E60
  have F63 := F45.ext E60
  have F64 := F43.ext E60
  have F65 := F46.ext E60
  have F66 := F47.ext E60
  have F67 := F48.ext E60
  have F68 := F49.ext E60
  have F69 := F50.ext E60
  have A70 := A51.ext E60
  have A71 := A52.ext E60
  have E72 := E53.ext E60
  have A73 := A54.ext E60
  have E74 := E55.ext E60
  have K75 := K56.ext E60
  replace A61 : La Z h59 xb .int ([(.int (0 : Int32)), (.int (0 : Int32)), (.int (0 : Int32)), (.int (0 : Int32)), (.int (0 : Int32))]) := A61
  refine go_putF C X58 (C.w 29 rfl) Via.refl F65 E62 (Or.inr ⟨C.w 30 rfl, rfl, C.nmE⟩) (C.w 8 rfl) ga (ty := (.array .int)) (by decide) rfl rfl (pc' := 28) rfl d2_25 (fun T76 h78 W79 X77 => ?_)
  have F80 := F65.same W79
  have E81 := E62.wr W79
  have F82 := F63.other W79 (Or.inr (slot_ne (Or.inr (C.w 17 rfl)) (Or.inr (C.w 30 rfl)) (by decide) (t := (.array .int)) (t' := (.array .int)) (by decide) (by decide)))
  have F83 := F64.other W79 (Or.inr (slot_ne (Or.inr (C.w 28 rfl)) (Or.inr (C.w 30 rfl)) (by decide) (t := (.array .int)) (t' := (.array .int)) (by decide) (by decide)))
  have F84 := F66.other W79 (Or.inr (slot_ne (Or.inr (C.w 36 rfl)) (Or.inr (C.w 30 rfl)) (by decide) (t := .int) (t' := (.array .int)) (by decide) (by decide)))
  have F85 := F67.other W79 (Or.inr (slot_ne (Or.inr (C.w 38 rfl)) (Or.inr (C.w 30 rfl)) (by decide) (t := .long) (t' := (.array .int)) (by decide) (by decide)))
  have F86 := F68.other W79 (Or.inr (slot_ne (Or.inr (C.w 50 rfl)) (Or.inr (C.w 30 rfl)) (by decide) (t := (.array (.array .long))) (t' := (.array .int)) (by decide) (by decide)))
  have F87 := F69.other W79 (Or.inr (slot_ne (Or.inr (C.w 52 rfl)) (Or.inr (C.w 30 rfl)) (by decide) (t := .long) (t' := (.array .int)) (by decide) (by decide)))
  have A88 := A70.other W79 (Ne.symm nas)
  have A89 := A71.other W79 (Ne.symm nam)
  have E90 := E72.wr W79
  have A91 := A73.other W79 (Ne.symm ne_a_mc)
  have E92 := E74.wr W79
  have A93 := A61.other W79 (Ne.symm ne_a_xb)
  have K94 := K75.wr W79 (Or.inl (List.mem_of_getElem? (i := 0) rfl))
  refine go_aloadN C X77 29 rfl d2_28 rfl rfl ?_
  refine go_getF C X77 (C.w 29 rfl) Via.refl F80 (pc' := 32) rfl d2_29 (fun T95 X96 => ?_)
  refine go_iconst C X96 33 rfl d2_32 (z := (-1)) rfl ?_
  refine go_callS C X96 (C.w 31 rfl) (C.w 32 rfl) (C.w 33 rfl) (C.w 34 rfl) (own_fillI l Z a0 C.ws xb (-1 : Int32) h78 n0 X96.old A93 ga_xb) (argsL := [(.ref xb), (.int (-1 : Int32))]) (rest := []) (lenOf pd_1 rfl) rfl (by decide) (by decide) (Nat.le_of_ble_eq_true rfl) (by decide) (by decide) rfl rfl (pc' := 36) rfl d2_33 ?_
  rintro T97 h99 _ ⟨rfl, K8, A8⟩ X98
  show Go p e below _ (T97.setTop (mkF m 36 #[rv a, rv sb, rv mb, iv (3 : Int32), jv st, sc, un] []))
  have E100 := E81.keep K8
  have F101 := F82.keep K8 (ninS ne_a_xb nin0)
  have F102 := F83.keep K8 (ninS ne_a_xb nin0)
  have F103 := F80.keep K8 (ninS ne_a_xb nin0)
  have F104 := F84.keep K8 (ninS ne_a_xb nin0)
  have F105 := F85.keep K8 (ninS ne_a_xb nin0)
  have F106 := F86.keep K8 (ninS ne_a_xb nin0)
  have F107 := F87.keep K8 (ninS ne_a_xb nin0)
  have A108 := A88.keep K8 (ninS ne_sb_xb nin0)
  have A109 := A89.keep K8 (ninS ne_mb_xb nin0)
  have E110 := E90.keep K8
  have A111 := A91.keep K8 (ninS ne_mc_xb nin0)
  have E112 := E92.keep K8
  have K113 := K94.trans K8 (allS (Or.inr sz_xb) all0)
  refine go_iconst C X98 37 rfl d2_36 (z := 0) rfl ?_
  refine go_istore C X98 39 rfl d2_37 #[rv a, rv sb, rv mb, iv (3 : Int32), jv st, sc, iv (0 : Int32)] rfl ?_
  replace A8 : La Z h99 xb .int (ia [-1, -1, -1, -1, -1]) := A8
  refine go_iload C X98 41 rfl d2_39 rfl ?_
  refine go_aloadN C X98 42 rfl d2_41 rfl rfl ?_
  refine go_alen C X98 A109 (z := (4 : Int32)) rfl (pc' := 43) rfl d2_42 ?_
  refine go_icmp_ge C X98 d2_43 (pc' := 46) (pc2 := 63) rfl (by decide) (by decide) (fun (c43 : 4 ≤ 0) => False.elim (by first | omega | exact absurd c43 (by decide))) (fun (c43 : 0 < 4) => ?_)
  refine go_aloadN C X98 47 rfl d2_46 rfl rfl ?_
  refine go_getF C X98 (C.w 29 rfl) Via.refl F103 (pc' := 50) rfl d2_47 (fun T114 X115 => ?_)
  refine go_aloadN C X115 51 rfl d2_50 rfl rfl ?_
  refine go_iload C X115 53 rfl d2_51 rfl ?_
  refine go_iaload C X115 A109 (by decide) (v := (.int m0)) rfl (pc' := 54) rfl d2_53 ?_
  refine go_iload C X115 56 rfl d2_54 rfl ?_
  refine go_iastore C X115 A8 b0.1 (by rw [ia_len]; exact b0.2) ga_xb (pc' := 57) rfl d2_56 (fun T116 h118 W119 A120 X117 => ?_)
  have E121 := E100.wr W119
  have F122 := F101.other W119 (Or.inl ne_a_xb)
  have F123 := F102.other W119 (Or.inl ne_a_xb)
  have F124 := F103.other W119 (Or.inl ne_a_xb)
  have F125 := F104.other W119 (Or.inl ne_a_xb)
  have F126 := F105.other W119 (Or.inl ne_a_xb)
  have F127 := F106.other W119 (Or.inl ne_a_xb)
  have F128 := F107.other W119 (Or.inl ne_a_xb)
  have A129 := A108.other W119 ne_sb_xb
  have A130 := A109.other W119 ne_mb_xb
  have E131 := E110.wr W119
  have A132 := A111.other W119 ne_mc_xb
  have E133 := E112.wr W119
  have K134 := K113.wr W119 (Or.inr sz_xb)
  rw [ia_put] at A120
  refine go_iinc C X117 60 rfl d2_57 rfl (z := 1) rfl #[rv a, rv sb, rv mb, iv (3 : Int32), jv st, sc, iv (1 : Int32)] rfl ?_
  refine go_goto C X117 d2_60 (pc' := 39) (by decide) (by decide) ?_
  refine go_iload C X117 41 rfl d2_39 rfl ?_
  refine go_aloadN C X117 42 rfl d2_41 rfl rfl ?_
  refine go_alen C X117 A130 (z := (4 : Int32)) rfl (pc' := 43) rfl d2_42 ?_
  refine go_icmp_ge C X117 d2_43 (pc' := 46) (pc2 := 63) rfl (by decide) (by decide) (fun (c43 : 4 ≤ 1) => False.elim (by first | omega | exact absurd c43 (by decide))) (fun (c43 : 1 < 4) => ?_)
  refine go_aloadN C X117 47 rfl d2_46 rfl rfl ?_
  refine go_getF C X117 (C.w 29 rfl) Via.refl F124 (pc' := 50) rfl d2_47 (fun T135 X136 => ?_)
  refine go_aloadN C X136 51 rfl d2_50 rfl rfl ?_
  refine go_iload C X136 53 rfl d2_51 rfl ?_
  refine go_iaload C X136 A130 (by decide) (v := (.int m1)) rfl (pc' := 54) rfl d2_53 ?_
  refine go_iload C X136 56 rfl d2_54 rfl ?_
  refine go_iastore C X136 A120 b1.1 (by rw [ia_len]; rw [put32_len]; exact b1.2) ga_xb (pc' := 57) rfl d2_56 (fun T137 h139 W140 A141 X138 => ?_)
  have E142 := E121.wr W140
  have F143 := F122.other W140 (Or.inl ne_a_xb)
  have F144 := F123.other W140 (Or.inl ne_a_xb)
  have F145 := F124.other W140 (Or.inl ne_a_xb)
  have F146 := F125.other W140 (Or.inl ne_a_xb)
  have F147 := F126.other W140 (Or.inl ne_a_xb)
  have F148 := F127.other W140 (Or.inl ne_a_xb)
  have F149 := F128.other W140 (Or.inl ne_a_xb)
  have A150 := A129.other W140 ne_sb_xb
  have A151 := A130.other W140 ne_mb_xb
  have E152 := E131.wr W140
  have A153 := A132.other W140 ne_mc_xb
  have E154 := E133.wr W140
  have K155 := K134.wr W140 (Or.inr sz_xb)
  rw [ia_put] at A141
  refine go_iinc C X138 60 rfl d2_57 rfl (z := 1) rfl #[rv a, rv sb, rv mb, iv (3 : Int32), jv st, sc, iv (2 : Int32)] rfl ?_
  refine go_goto C X138 d2_60 (pc' := 39) (by decide) (by decide) ?_
  refine go_iload C X138 41 rfl d2_39 rfl ?_
  refine go_aloadN C X138 42 rfl d2_41 rfl rfl ?_
  refine go_alen C X138 A151 (z := (4 : Int32)) rfl (pc' := 43) rfl d2_42 ?_
  refine go_icmp_ge C X138 d2_43 (pc' := 46) (pc2 := 63) rfl (by decide) (by decide) (fun (c43 : 4 ≤ 2) => False.elim (by first | omega | exact absurd c43 (by decide))) (fun (c43 : 2 < 4) => ?_)
  refine go_aloadN C X138 47 rfl d2_46 rfl rfl ?_
  refine go_getF C X138 (C.w 29 rfl) Via.refl F145 (pc' := 50) rfl d2_47 (fun T156 X157 => ?_)
  refine go_aloadN C X157 51 rfl d2_50 rfl rfl ?_
  refine go_iload C X157 53 rfl d2_51 rfl ?_
  refine go_iaload C X157 A151 (by decide) (v := (.int m2)) rfl (pc' := 54) rfl d2_53 ?_
  refine go_iload C X157 56 rfl d2_54 rfl ?_
  refine go_iastore C X157 A141 b2.1 (by rw [ia_len]; rw [put32_len]; rw [put32_len]; exact b2.2) ga_xb (pc' := 57) rfl d2_56 (fun T158 h160 W161 A162 X159 => ?_)
  have E163 := E142.wr W161
  have F164 := F143.other W161 (Or.inl ne_a_xb)
  have F165 := F144.other W161 (Or.inl ne_a_xb)
  have F166 := F145.other W161 (Or.inl ne_a_xb)
  have F167 := F146.other W161 (Or.inl ne_a_xb)
  have F168 := F147.other W161 (Or.inl ne_a_xb)
  have F169 := F148.other W161 (Or.inl ne_a_xb)
  have F170 := F149.other W161 (Or.inl ne_a_xb)
  have A171 := A150.other W161 ne_sb_xb
  have A172 := A151.other W161 ne_mb_xb
  have E173 := E152.wr W161
  have A174 := A153.other W161 ne_mc_xb
  have E175 := E154.wr W161
  have K176 := K155.wr W161 (Or.inr sz_xb)
  rw [ia_put] at A162
  refine go_iinc C X159 60 rfl d2_57 rfl (z := 1) rfl #[rv a, rv sb, rv mb, iv (3 : Int32), jv st, sc, iv (3 : Int32)] rfl ?_
  refine go_goto C X159 d2_60 (pc' := 39) (by decide) (by decide) ?_
  refine go_iload C X159 41 rfl d2_39 rfl ?_
  refine go_aloadN C X159 42 rfl d2_41 rfl rfl ?_
  refine go_alen C X159 A172 (z := (4 : Int32)) rfl (pc' := 43) rfl d2_42 ?_
  refine go_icmp_ge C X159 d2_43 (pc' := 46) (pc2 := 63) rfl (by decide) (by decide) (fun (c43 : 4 ≤ 3) => False.elim (by first | omega | exact absurd c43 (by decide))) (fun (c43 : 3 < 4) => ?_)
  refine go_aloadN C X159 47 rfl d2_46 rfl rfl ?_
  refine go_getF C X159 (C.w 29 rfl) Via.refl F166 (pc' := 50) rfl d2_47 (fun T177 X178 => ?_)
  refine go_aloadN C X178 51 rfl d2_50 rfl rfl ?_
  refine go_iload C X178 53 rfl d2_51 rfl ?_
  refine go_iaload C X178 A172 (by decide) (v := (.int m3)) rfl (pc' := 54) rfl d2_53 ?_
  refine go_iload C X178 56 rfl d2_54 rfl ?_
  refine go_iastore C X178 A162 b3.1 (by rw [ia_len]; rw [put32_len]; rw [put32_len]; rw [put32_len]; exact b3.2) ga_xb (pc' := 57) rfl d2_56 (fun T179 h181 W182 A183 X180 => ?_)
  have E184 := E163.wr W182
  have F185 := F164.other W182 (Or.inl ne_a_xb)
  have F186 := F165.other W182 (Or.inl ne_a_xb)
  have F187 := F166.other W182 (Or.inl ne_a_xb)
  have F188 := F167.other W182 (Or.inl ne_a_xb)
  have F189 := F168.other W182 (Or.inl ne_a_xb)
  have F190 := F169.other W182 (Or.inl ne_a_xb)
  have F191 := F170.other W182 (Or.inl ne_a_xb)
  have A192 := A171.other W182 ne_sb_xb
  have A193 := A172.other W182 ne_mb_xb
  have E194 := E173.wr W182
  have A195 := A174.other W182 ne_mc_xb
  have E196 := E175.wr W182
  have K197 := K176.wr W182 (Or.inr sz_xb)
  rw [ia_put] at A183
  refine go_iinc C X180 60 rfl d2_57 rfl (z := 1) rfl #[rv a, rv sb, rv mb, iv (3 : Int32), jv st, sc, iv (4 : Int32)] rfl ?_
  refine go_goto C X180 d2_60 (pc' := 39) (by decide) (by decide) ?_
  refine go_iload C X180 41 rfl d2_39 rfl ?_
  refine go_aloadN C X180 42 rfl d2_41 rfl rfl ?_
  refine go_alen C X180 A193 (z := (4 : Int32)) rfl (pc' := 43) rfl d2_42 ?_
  refine go_icmp_ge C X180 d2_43 (pc' := 46) (pc2 := 63) rfl (by decide) (by decide) (fun (c43 : 4 ≤ 4) => ?_) (fun (c43 : 4 < 4) => False.elim (by first | omega | exact absurd c43 (by decide)))
  refine go_aloadN C X180 64 rfl d2_63 rfl rfl ?_
  refine go_iloadN C X180 65 rfl d2_64 rfl ?_
  refine go_putF C X180 (C.w 35 rfl) Via.refl F188 E184 (Or.inr ⟨C.w 36 rfl, rfl, C.nmE⟩) (C.w 8 rfl) ga (ty := .int) (by decide) rfl rfl (pc' := 68) rfl d2_65 (fun T198 h200 W201 X199 => ?_)
  have F202 := F188.same W201
  have E203 := E184.wr W201
  have F204 := F185.other W201 (Or.inr (slot_ne (Or.inr (C.w 17 rfl)) (Or.inr (C.w 36 rfl)) (by decide) (t := (.array .int)) (t' := .int) (by decide) (by decide)))
  have F205 := F186.other W201 (Or.inr (slot_ne (Or.inr (C.w 28 rfl)) (Or.inr (C.w 36 rfl)) (by decide) (t := (.array .int)) (t' := .int) (by decide) (by decide)))
  have F206 := F187.other W201 (Or.inr (slot_ne (Or.inr (C.w 30 rfl)) (Or.inr (C.w 36 rfl)) (by decide) (t := (.array .int)) (t' := .int) (by decide) (by decide)))
  have F207 := F189.other W201 (Or.inr (slot_ne (Or.inr (C.w 38 rfl)) (Or.inr (C.w 36 rfl)) (by decide) (t := .long) (t' := .int) (by decide) (by decide)))
  have F208 := F190.other W201 (Or.inr (slot_ne (Or.inr (C.w 50 rfl)) (Or.inr (C.w 36 rfl)) (by decide) (t := (.array (.array .long))) (t' := .int) (by decide) (by decide)))
  have F209 := F191.other W201 (Or.inr (slot_ne (Or.inr (C.w 52 rfl)) (Or.inr (C.w 36 rfl)) (by decide) (t := .long) (t' := .int) (by decide) (by decide)))
  have A210 := A192.other W201 (Ne.symm nas)
  have A211 := A193.other W201 (Ne.symm nam)
  have E212 := E194.wr W201
  have A213 := A195.other W201 (Ne.symm ne_a_mc)
  have E214 := E196.wr W201
  have A215 := A183.other W201 (Ne.symm ne_a_xb)
  have K216 := K197.wr W201 (Or.inl (List.mem_of_getElem? (i := 0) rfl))
  refine go_aloadN C X199 69 rfl d2_68 rfl rfl ?_
  refine go_lload C X199 71 rfl d2_69 rfl ?_
  refine go_putF C X199 (C.w 37 rfl) Via.refl F207 E203 (Or.inr ⟨C.w 38 rfl, rfl, C.nmE⟩) (C.w 8 rfl) ga (ty := .long) (by decide) rfl rfl (pc' := 74) rfl d2_71 (fun T217 h219 W220 X218 => ?_)
  have F221 := F207.same W220
  have E222 := E203.wr W220
  have F223 := F204.other W220 (Or.inr (slot_ne (Or.inr (C.w 17 rfl)) (Or.inr (C.w 38 rfl)) (by decide) (t := (.array .int)) (t' := .long) (by decide) (by decide)))
  have F224 := F205.other W220 (Or.inr (slot_ne (Or.inr (C.w 28 rfl)) (Or.inr (C.w 38 rfl)) (by decide) (t := (.array .int)) (t' := .long) (by decide) (by decide)))
  have F225 := F206.other W220 (Or.inr (slot_ne (Or.inr (C.w 30 rfl)) (Or.inr (C.w 38 rfl)) (by decide) (t := (.array .int)) (t' := .long) (by decide) (by decide)))
  have F226 := F202.other W220 (Or.inr (slot_ne (Or.inr (C.w 36 rfl)) (Or.inr (C.w 38 rfl)) (by decide) (t := .int) (t' := .long) (by decide) (by decide)))
  have F227 := F208.other W220 (Or.inr (slot_ne (Or.inr (C.w 50 rfl)) (Or.inr (C.w 38 rfl)) (by decide) (t := (.array (.array .long))) (t' := .long) (by decide) (by decide)))
  have F228 := F209.other W220 (Or.inr (slot_ne (Or.inr (C.w 52 rfl)) (Or.inr (C.w 38 rfl)) (by decide) (t := .long) (t' := .long) (by decide) (by decide)))
  have A229 := A210.other W220 (Ne.symm nas)
  have A230 := A211.other W220 (Ne.symm nam)
  have E231 := E212.wr W220
  have A232 := A213.other W220 (Ne.symm ne_a_mc)
  have E233 := E214.wr W220
  have A234 := A215.other W220 (Ne.symm ne_a_xb)
  have K235 := K216.wr W220 (Or.inl (List.mem_of_getElem? (i := 0) rfl))
  refine go_aloadN C X218 75 rfl d2_74 rfl rfl ?_
  refine go_aloadN C X218 76 rfl d2_75 rfl rfl ?_
  have hsz_76 := X218.sz
  have lt_a_76 := E222.lt
  have lt_sb_76 := A229.lt
  have lt_mb_76 := A230.lt
  have lt_mc_76 := A232.lt
  have lt_xb_76 := A234.lt
  refine go_private C X218 E222 (C.w 39 rfl) (C.w 40 rfl) (Jvm.Kit.selects_private (by decide) (C.w 8 rfl) (C.w 41 rfl) (C.w 40 rfl)) (C.w 41 rfl) (C.w 9 rfl) (C.w 42 rfl) (own_suf_3 l Z a0 C.ws a sb mc sz m0 m1 m2 m3 s0 s1 s2 s3 h219 n0 X218.old E222 F223 F224 F226 A229 A232 hl b0 z0 b1 z1 b2 z2 b3 z3) (argsL := []) (rest := [(.ref a)]) (lenOf pd_2 rfl) rfl (by decide) (by decide) (Nat.le_of_ble_eq_true rfl) (by decide) (by decide) rfl rfl (pc' := 79) rfl d2_76 ?_
  rintro T236 h238 _ ⟨ob, r0, r1, r2, r3, rfl, K7, sz7, sz7r0, sz7r1, sz7r2, sz7r3, A7, A7r0, A7r1, A7r2, A7r3⟩ X237
  show Go p e below _ (T236.setTop (mkF m 79 #[rv a, rv sb, rv mb, iv (3 : Int32), jv st, sc, iv (4 : Int32)] [(.ref ob), (.ref a)]))
  have ne_a_ob : a ≠ ob := Nat.ne_of_lt (Nat.lt_of_lt_of_le lt_a_76 sz7)
  have ne_sb_ob : sb ≠ ob := Nat.ne_of_lt (Nat.lt_of_lt_of_le lt_sb_76 sz7)
  have ne_mb_ob : mb ≠ ob := Nat.ne_of_lt (Nat.lt_of_lt_of_le lt_mb_76 sz7)
  have ne_mc_ob : mc ≠ ob := Nat.ne_of_lt (Nat.lt_of_lt_of_le lt_mc_76 sz7)
  have ne_xb_ob : xb ≠ ob := Nat.ne_of_lt (Nat.lt_of_lt_of_le lt_xb_76 sz7)
  have ga_ob : n0 ≤ ob := Nat.le_trans hsz_76 sz7
  have sz_ob : h.size ≤ ob := Nat.le_trans K235.1 sz7
  have ne_a_r0 : a ≠ r0 := Nat.ne_of_lt (Nat.lt_of_lt_of_le lt_a_76 sz7r0)
  have ne_sb_r0 : sb ≠ r0 := Nat.ne_of_lt (Nat.lt_of_lt_of_le lt_sb_76 sz7r0)
  have ne_mb_r0 : mb ≠ r0 := Nat.ne_of_lt (Nat.lt_of_lt_of_le lt_mb_76 sz7r0)
  have ne_mc_r0 : mc ≠ r0 := Nat.ne_of_lt (Nat.lt_of_lt_of_le lt_mc_76 sz7r0)
  have ne_xb_r0 : xb ≠ r0 := Nat.ne_of_lt (Nat.lt_of_lt_of_le lt_xb_76 sz7r0)
  have ga_r0 : n0 ≤ r0 := Nat.le_trans hsz_76 sz7r0
  have sz_r0 : h.size ≤ r0 := Nat.le_trans K235.1 sz7r0
  have ne_a_r1 : a ≠ r1 := Nat.ne_of_lt (Nat.lt_of_lt_of_le lt_a_76 sz7r1)
  have ne_sb_r1 : sb ≠ r1 := Nat.ne_of_lt (Nat.lt_of_lt_of_le lt_sb_76 sz7r1)
  have ne_mb_r1 : mb ≠ r1 := Nat.ne_of_lt (Nat.lt_of_lt_of_le lt_mb_76 sz7r1)
  have ne_mc_r1 : mc ≠ r1 := Nat.ne_of_lt (Nat.lt_of_lt_of_le lt_mc_76 sz7r1)
  have ne_xb_r1 : xb ≠ r1 := Nat.ne_of_lt (Nat.lt_of_lt_of_le lt_xb_76 sz7r1)
  have ga_r1 : n0 ≤ r1 := Nat.le_trans hsz_76 sz7r1
  have sz_r1 : h.size ≤ r1 := Nat.le_trans K235.1 sz7r1
  have ne_a_r2 : a ≠ r2 := Nat.ne_of_lt (Nat.lt_of_lt_of_le lt_a_76 sz7r2)
  have ne_sb_r2 : sb ≠ r2 := Nat.ne_of_lt (Nat.lt_of_lt_of_le lt_sb_76 sz7r2)
  have ne_mb_r2 : mb ≠ r2 := Nat.ne_of_lt (Nat.lt_of_lt_of_le lt_mb_76 sz7r2)
  have ne_mc_r2 : mc ≠ r2 := Nat.ne_of_lt (Nat.lt_of_lt_of_le lt_mc_76 sz7r2)
  have ne_xb_r2 : xb ≠ r2 := Nat.ne_of_lt (Nat.lt_of_lt_of_le lt_xb_76 sz7r2)
  have ga_r2 : n0 ≤ r2 := Nat.le_trans hsz_76 sz7r2
  have sz_r2 : h.size ≤ r2 := Nat.le_trans K235.1 sz7r2
  have ne_a_r3 : a ≠ r3 := Nat.ne_of_lt (Nat.lt_of_lt_of_le lt_a_76 sz7r3)
  have ne_sb_r3 : sb ≠ r3 := Nat.ne_of_lt (Nat.lt_of_lt_of_le lt_sb_76 sz7r3)
  have ne_mb_r3 : mb ≠ r3 := Nat.ne_of_lt (Nat.lt_of_lt_of_le lt_mb_76 sz7r3)
  have ne_mc_r3 : mc ≠ r3 := Nat.ne_of_lt (Nat.lt_of_lt_of_le lt_mc_76 sz7r3)
  have ne_xb_r3 : xb ≠ r3 := Nat.ne_of_lt (Nat.lt_of_lt_of_le lt_xb_76 sz7r3)
  have ga_r3 : n0 ≤ r3 := Nat.le_trans hsz_76 sz7r3
  have sz_r3 : h.size ≤ r3 := Nat.le_trans K235.1 sz7r3
  have E239 := E222.keep K7
  have F240 := F223.keep K7 nin0
  have F241 := F224.keep K7 nin0
  have F242 := F225.keep K7 nin0
  have F243 := F226.keep K7 nin0
  have F244 := F221.keep K7 nin0
  have F245 := F227.keep K7 nin0
  have F246 := F228.keep K7 nin0
  have A247 := A229.keep K7 nin0
  have A248 := A230.keep K7 nin0
  have E249 := E231.keep K7
  have A250 := A232.keep K7 nin0
  have E251 := E233.keep K7
  have A252 := A234.keep K7 nin0
  have K253 := K235.trans K7 all0
  refine go_putF C X237 (C.w 49 rfl) Via.refl F245 E239 (Or.inr ⟨C.w 50 rfl, rfl, C.nmE⟩) (C.w 8 rfl) ga (ty := (.array (.array .long))) (by decide) rfl rfl (pc' := 82) rfl d2_79 (fun T254 h256 W257 X255 => ?_)
  have F258 := F245.same W257
  have E259 := E239.wr W257
  have F260 := F240.other W257 (Or.inr (slot_ne (Or.inr (C.w 17 rfl)) (Or.inr (C.w 50 rfl)) (by decide) (t := (.array .int)) (t' := (.array (.array .long))) (by decide) (by decide)))
  have F261 := F241.other W257 (Or.inr (slot_ne (Or.inr (C.w 28 rfl)) (Or.inr (C.w 50 rfl)) (by decide) (t := (.array .int)) (t' := (.array (.array .long))) (by decide) (by decide)))
  have F262 := F242.other W257 (Or.inr (slot_ne (Or.inr (C.w 30 rfl)) (Or.inr (C.w 50 rfl)) (by decide) (t := (.array .int)) (t' := (.array (.array .long))) (by decide) (by decide)))
  have F263 := F243.other W257 (Or.inr (slot_ne (Or.inr (C.w 36 rfl)) (Or.inr (C.w 50 rfl)) (by decide) (t := .int) (t' := (.array (.array .long))) (by decide) (by decide)))
  have F264 := F244.other W257 (Or.inr (slot_ne (Or.inr (C.w 38 rfl)) (Or.inr (C.w 50 rfl)) (by decide) (t := .long) (t' := (.array (.array .long))) (by decide) (by decide)))
  have F265 := F246.other W257 (Or.inr (slot_ne (Or.inr (C.w 52 rfl)) (Or.inr (C.w 50 rfl)) (by decide) (t := .long) (t' := (.array (.array .long))) (by decide) (by decide)))
  have A266 := A247.other W257 (Ne.symm nas)
  have A267 := A248.other W257 (Ne.symm nam)
  have E268 := E249.wr W257
  have A269 := A250.other W257 (Ne.symm ne_a_mc)
  have E270 := E251.wr W257
  have A271 := A252.other W257 (Ne.symm ne_a_xb)
  have A272 := A7.other W257 (Ne.symm ne_a_ob)
  have A273 := A7r0.other W257 (Ne.symm ne_a_r0)
  have A274 := A7r1.other W257 (Ne.symm ne_a_r1)
  have A275 := A7r2.other W257 (Ne.symm ne_a_r2)
  have A276 := A7r3.other W257 (Ne.symm ne_a_r3)
  have K277 := K253.wr W257 (Or.inl (List.mem_of_getElem? (i := 0) rfl))
  refine go_aloadN C X255 83 rfl d2_82 rfl rfl ?_
  refine go_aloadN C X255 84 rfl d2_83 rfl rfl ?_
  refine go_getF C X255 (C.w 49 rfl) Via.refl F258 (pc' := 87) rfl d2_84 (fun T278 X279 => ?_)
  refine go_iloadN C X279 88 rfl d2_87 rfl ?_
  refine go_aaload C X279 A272 rfl (by decide) (v := (.ref r3)) rfl (pc' := 89) rfl d2_88 ?_
  refine go_iconst C X279 90 rfl d2_89 (z := 0) rfl ?_
  refine go_laload C X279 A276 (by decide) (v := (.long (((((0 : Int64) + (s3.toInt64 * (0 : Int64))) + (s2.toInt64 * ((0 : Int64) + (s3.toInt64 * (0 : Int64))))) + (s1.toInt64 * (((0 : Int64) + (s3.toInt64 * (0 : Int64))) + (s2.toInt64 * ((0 : Int64) + (s3.toInt64 * (1 : Int64))))))) + (s0.toInt64 * ((((0 : Int64) + (s3.toInt64 * (0 : Int64))) + (s2.toInt64 * ((0 : Int64) + (s3.toInt64 * (1 : Int64))))) + (s1.toInt64 * (((0 : Int64) + (s3.toInt64 * (1 : Int64))) + (s2.toInt64 * (1 : Int64))))))))) rfl (pc' := 91) rfl d2_90 ?_
  refine go_putF C X279 (C.w 51 rfl) Via.refl F265 E259 (Or.inr ⟨C.w 52 rfl, rfl, C.nmE⟩) (C.w 8 rfl) ga (ty := .long) (by decide) rfl rfl (pc' := 94) rfl d2_91 (fun T280 h282 W283 X281 => ?_)
  have F284 := F265.same W283
  have E285 := E259.wr W283
  have F286 := F260.other W283 (Or.inr (slot_ne (Or.inr (C.w 17 rfl)) (Or.inr (C.w 52 rfl)) (by decide) (t := (.array .int)) (t' := .long) (by decide) (by decide)))
  have F287 := F261.other W283 (Or.inr (slot_ne (Or.inr (C.w 28 rfl)) (Or.inr (C.w 52 rfl)) (by decide) (t := (.array .int)) (t' := .long) (by decide) (by decide)))
  have F288 := F262.other W283 (Or.inr (slot_ne (Or.inr (C.w 30 rfl)) (Or.inr (C.w 52 rfl)) (by decide) (t := (.array .int)) (t' := .long) (by decide) (by decide)))
  have F289 := F263.other W283 (Or.inr (slot_ne (Or.inr (C.w 36 rfl)) (Or.inr (C.w 52 rfl)) (by decide) (t := .int) (t' := .long) (by decide) (by decide)))
  have F290 := F264.other W283 (Or.inr (slot_ne (Or.inr (C.w 38 rfl)) (Or.inr (C.w 52 rfl)) (by decide) (t := .long) (t' := .long) (by decide) (by decide)))
  have F291 := F258.other W283 (Or.inr (slot_ne (Or.inr (C.w 50 rfl)) (Or.inr (C.w 52 rfl)) (by decide) (t := (.array (.array .long))) (t' := .long) (by decide) (by decide)))
  have A292 := A266.other W283 (Ne.symm nas)
  have A293 := A267.other W283 (Ne.symm nam)
  have E294 := E268.wr W283
  have A295 := A269.other W283 (Ne.symm ne_a_mc)
  have E296 := E270.wr W283
  have A297 := A271.other W283 (Ne.symm ne_a_xb)
  have A298 := A272.other W283 (Ne.symm ne_a_ob)
  have A299 := A273.other W283 (Ne.symm ne_a_r0)
  have A300 := A274.other W283 (Ne.symm ne_a_r1)
  have A301 := A275.other W283 (Ne.symm ne_a_r2)
  have A302 := A276.other W283 (Ne.symm ne_a_r3)
  have K303 := K277.wr W283 (Or.inl (List.mem_of_getElem? (i := 0) rfl))
  exact go_ret0 C X281 d2_94 ⟨rfl, xb, ob, r0, r1, r2, r3, K303, E285, F286, F288, F290, F291, sz_xb, sz_ob, sz_r0, sz_r1, sz_r2, sz_r3, A297, A298, A299, A300, A301, A302⟩ (by decide) (by decide)
theorem ef_own_init_4 (m : MethodId) (a : Addr) (sb : Addr) (mb : Addr) (st : Int64)  : entryFrame m #[(.ref a), (.ref sb), (.ref mb), (.int (4 : Int32)), (.long st)] 7 = mkF m 0 #[rv a, rv sb, rv mb, iv (4 : Int32), jv st, sc, un] [] := by
  first | (simp [entryFrame, mkF, argsToLocals, Value.category]; done) | rfl
set_option maxRecDepth 65536 in
set_option maxHeartbeats 40000000 in
theorem own_init_4 (l : Launch) (Z : State) (a0 : Array Value) (hw : ∀ d ∈ tables_1, d.before a0 Z = true) (a : Addr) (sb : Addr) (mb : Addr) (st : Int64) (sz : List Int32) (m0 m1 m2 m3 s0 s1 s2 s3 : Int32) (h : Heap) (n0 : Nat) (hn0 : Old Z n0 h) (E0 : Exa Z h a "com/example/covertide/covertide/engine/ParameterSets") (F0 : Fld Z h a "com/example/covertide/covertide/engine/ParameterSets" "sizes" "[I" .null) (F1 : Fld Z h a "com/example/covertide/covertide/engine/ParameterSets" "members" "[I" .null) (F2 : Fld Z h a "com/example/covertide/covertide/engine/ParameterSets" "indexOf" "[I" .null) (F3 : Fld Z h a "com/example/covertide/covertide/engine/ParameterSets" "size" "I" (.int (0 : Int32))) (F4 : Fld Z h a "com/example/covertide/covertide/engine/ParameterSets" "start" "J" (.long (0 : Int64))) (F5 : Fld Z h a "com/example/covertide/covertide/engine/ParameterSets" "suffixSums" "[[J" .null) (F6 : Fld Z h a "com/example/covertide/covertide/engine/ParameterSets" "combinations" "J" (.long (0 : Int64))) (A1 : La Z h sb .int (ia sz)) (A2 : La Z h mb .int [(.int m0), (.int m1), (.int m2), (.int m3)]) (EM : Exa Z h mb "[I") (ga : n0 ≤ a) (nas : a ≠ sb) (nam : a ≠ mb) (hl : sz.length = 5) (b0 : 0 ≤ m0.toInt ∧ m0.toInt < (5 : Nat)) (z0 : at32 sz m0 = s0) (b1 : 0 ≤ m1.toInt ∧ m1.toInt < (5 : Nat)) (z1 : at32 sz m1 = s1) (b2 : 0 ≤ m2.toInt ∧ m2.toInt < (5 : Nat)) (z2 : at32 sz m2 = s2) (b3 : 0 ≤ m3.toInt ∧ m3.toInt < (5 : Nat)) (z3 : at32 sz m3 = s3) :
    Con l Z (⟨"com/example/covertide/covertide/engine/ParameterSets", "<init>", "([I[IIJ)V"⟩ : MethodName) prog_10_method_1_code 7 none ({ frames := 2, cells := 8, slots := 39, locals := 33 } : Room) #[(.ref a), (.ref sb), (.ref mb), (.int (4 : Int32)), (.long st)] h n0 (fun v h' => v = none ∧ ∃ xb ob r0 r1 r2 r3 r4 : Addr, Keep h h' [a] ∧ Exa Z h' a "com/example/covertide/covertide/engine/ParameterSets" ∧ Fld Z h' a "com/example/covertide/covertide/engine/ParameterSets" "sizes" "[I" (.ref sb) ∧ Fld Z h' a "com/example/covertide/covertide/engine/ParameterSets" "indexOf" "[I" (.ref xb) ∧ Fld Z h' a "com/example/covertide/covertide/engine/ParameterSets" "start" "J" (.long st) ∧ Fld Z h' a "com/example/covertide/covertide/engine/ParameterSets" "suffixSums" "[[J" (.ref ob) ∧ h.size ≤ xb ∧ h.size ≤ ob ∧ h.size ≤ r0 ∧ h.size ≤ r1 ∧ h.size ≤ r2 ∧ h.size ≤ r3 ∧ h.size ≤ r4 ∧ La Z h' xb .int (ia (put32 (put32 (put32 (put32 [-1, -1, -1, -1, -1] m0 0) m1 1) m2 2) m3 3)) ∧ La Z h' ob (.array .long) [(.ref r0), (.ref r1), (.ref r2), (.ref r3), (.ref r4)] ∧ La Z h' r0 .long [(.long (1 : Int64)), (.long (1 : Int64)), (.long (1 : Int64)), (.long (1 : Int64)), (.long (1 : Int64))] ∧ La Z h' r1 .long [(.long (0 : Int64)), (.long (0 : Int64)), (.long (0 : Int64)), (.long ((0 : Int64) + (s3.toInt64 * (1 : Int64)))), (.long (0 : Int64))] ∧ La Z h' r2 .long [(.long (0 : Int64)), (.long (0 : Int64)), (.long (((0 : Int64) + (s3.toInt64 * (0 : Int64))) + (s2.toInt64 * ((0 : Int64) + (s3.toInt64 * (1 : Int64)))))), (.long ((0 : Int64) + (s3.toInt64 * (0 : Int64)))), (.long (0 : Int64))] ∧ La Z h' r3 .long [(.long (0 : Int64)), (.long ((((0 : Int64) + (s3.toInt64 * (0 : Int64))) + (s2.toInt64 * ((0 : Int64) + (s3.toInt64 * (0 : Int64))))) + (s1.toInt64 * (((0 : Int64) + (s3.toInt64 * (0 : Int64))) + (s2.toInt64 * ((0 : Int64) + (s3.toInt64 * (1 : Int64)))))))), (.long (((0 : Int64) + (s3.toInt64 * (0 : Int64))) + (s2.toInt64 * ((0 : Int64) + (s3.toInt64 * (0 : Int64)))))), (.long ((0 : Int64) + (s3.toInt64 * (0 : Int64)))), (.long (0 : Int64))] ∧ La Z h' r4 .long [(.long (((((0 : Int64) + (s3.toInt64 * (0 : Int64))) + (s2.toInt64 * ((0 : Int64) + (s3.toInt64 * (0 : Int64))))) + (s1.toInt64 * (((0 : Int64) + (s3.toInt64 * (0 : Int64))) + (s2.toInt64 * ((0 : Int64) + (s3.toInt64 * (0 : Int64))))))) + (s0.toInt64 * ((((0 : Int64) + (s3.toInt64 * (0 : Int64))) + (s2.toInt64 * ((0 : Int64) + (s3.toInt64 * (0 : Int64))))) + (s1.toInt64 * (((0 : Int64) + (s3.toInt64 * (0 : Int64))) + (s2.toInt64 * ((0 : Int64) + (s3.toInt64 * (1 : Int64)))))))))), (.long ((((0 : Int64) + (s3.toInt64 * (0 : Int64))) + (s2.toInt64 * ((0 : Int64) + (s3.toInt64 * (0 : Int64))))) + (s1.toInt64 * (((0 : Int64) + (s3.toInt64 * (0 : Int64))) + (s2.toInt64 * ((0 : Int64) + (s3.toInt64 * (0 : Int64)))))))), (.long (((0 : Int64) + (s3.toInt64 * (0 : Int64))) + (s2.toInt64 * ((0 : Int64) + (s3.toInt64 * (0 : Int64)))))), (.long ((0 : Int64) + (s3.toInt64 * (0 : Int64)))), (.long (0 : Int64))]) := by
  refine con_of hw (plainFor_of_name pn_com_example_covertide_covertide_engine_ParameterSets) hn0 ?_
  intro p e s m below meth c T0 C X0
  refine Go.cast (congrArg T0.setTop (ef_own_init_4 m a sb mb st)) ?_
  refine go_aloadN C X0 1 rfl d2_0 rfl rfl ?_
  refine go_initO C X0 (C.w 13 rfl) (C.w 14 rfl) (C.w 15 rfl) (by decide) (Nat.le_of_ble_eq_true rfl) rfl (pc' := 4) rfl d2_1 (fun T1 X2 => ?_)
  refine go_aloadN C X2 5 rfl d2_4 rfl rfl ?_
  refine go_aloadN C X2 6 rfl d2_5 rfl rfl ?_
  refine go_putF C X2 (C.w 16 rfl) Via.refl F0 E0 (Or.inr ⟨C.w 17 rfl, rfl, C.nmE⟩) (C.w 8 rfl) ga (ty := (.array .int)) (by decide) rfl rfl (pc' := 9) rfl d2_6 (fun T3 h5 W6 X4 => ?_)
  have F7 := F0.same W6
  have E8 := E0.wr W6
  have F9 := F1.other W6 (Or.inr (slot_ne (Or.inr (C.w 28 rfl)) (Or.inr (C.w 17 rfl)) (by decide) (t := (.array .int)) (t' := (.array .int)) (by decide) (by decide)))
  have F10 := F2.other W6 (Or.inr (slot_ne (Or.inr (C.w 30 rfl)) (Or.inr (C.w 17 rfl)) (by decide) (t := (.array .int)) (t' := (.array .int)) (by decide) (by decide)))
  have F11 := F3.other W6 (Or.inr (slot_ne (Or.inr (C.w 36 rfl)) (Or.inr (C.w 17 rfl)) (by decide) (t := .int) (t' := (.array .int)) (by decide) (by decide)))
  have F12 := F4.other W6 (Or.inr (slot_ne (Or.inr (C.w 38 rfl)) (Or.inr (C.w 17 rfl)) (by decide) (t := .long) (t' := (.array .int)) (by decide) (by decide)))
  have F13 := F5.other W6 (Or.inr (slot_ne (Or.inr (C.w 50 rfl)) (Or.inr (C.w 17 rfl)) (by decide) (t := (.array (.array .long))) (t' := (.array .int)) (by decide) (by decide)))
  have F14 := F6.other W6 (Or.inr (slot_ne (Or.inr (C.w 52 rfl)) (Or.inr (C.w 17 rfl)) (by decide) (t := .long) (t' := (.array .int)) (by decide) (by decide)))
  have A15 := A1.other W6 (Ne.symm nas)
  have A16 := A2.other W6 (Ne.symm nam)
  have E17 := EM.wr W6
  have K18 := (Keep.refl h [a]).wr W6 (Or.inl (List.mem_of_getElem? (i := 0) rfl))
  refine go_aloadN C X4 10 rfl d2_9 rfl rfl ?_
  refine go_aloadN C X4 11 rfl d2_10 rfl rfl ?_
  refine go_clone C X4 (cap := 4) (C.w 18 rfl) (C.w 19 rfl) (C.w 23 rfl) (C.w 21 rfl) (C.w 22 rfl) (C.w 24 rfl) A16 E17 (by first | decide | exact Nat.le_of_ble_eq_true rfl) (by first | decide | exact Nat.le_of_ble_eq_true rfl) (by first | decide | exact Nat.le_of_ble_eq_true rfl) (by first | decide | exact Nat.le_of_ble_eq_true rfl) (by first | decide | exact Nat.le_of_ble_eq_true rfl) rfl (pc' := 14) rfl d2_11 (fun T19 h21 mc ha_mc ga_mc E22 A23 E24 X20 => ?_)
  have ne_a_mc : a ≠ mc := Nat.ne_of_lt (Nat.lt_of_lt_of_le E8.lt (Nat.le_of_eq ha_mc.symm))
  have ne_sb_mc : sb ≠ mc := Nat.ne_of_lt (Nat.lt_of_lt_of_le A15.lt (Nat.le_of_eq ha_mc.symm))
  have ne_mb_mc : mb ≠ mc := Nat.ne_of_lt (Nat.lt_of_lt_of_le A16.lt (Nat.le_of_eq ha_mc.symm))
  have sz_mc : h.size ≤ mc := Nat.le_trans K18.1 (Nat.le_of_eq ha_mc.symm)
  have E25 := E8.ext E22
  have F26 := F7.ext E22
  have F27 := F9.ext E22
  have F28 := F10.ext E22
  have F29 := F11.ext E22
  have F30 := F12.ext E22
  have F31 := F13.ext E22
  have F32 := F14.ext E22
  have A33 := A15.ext E22
  have A34 := A16.ext E22
  have E35 := E17.ext E22
  have K36 := K18.ext E22
  refine go_cast C X20 (C.w 25 rfl) (Ins.self E24) (pc' := 17) rfl d2_14 (fun T37 X38 => ?_)
  refine go_putF C X38 (C.w 27 rfl) Via.refl F27 E25 (Or.inr ⟨C.w 28 rfl, rfl, C.nmE⟩) (C.w 8 rfl) ga (ty := (.array .int)) (by decide) rfl rfl (pc' := 20) rfl d2_17 (fun T39 h41 W42 X40 => ?_)
  have F43 := F27.same W42
  have E44 := E25.wr W42
  have F45 := F26.other W42 (Or.inr (slot_ne (Or.inr (C.w 17 rfl)) (Or.inr (C.w 28 rfl)) (by decide) (t := (.array .int)) (t' := (.array .int)) (by decide) (by decide)))
  have F46 := F28.other W42 (Or.inr (slot_ne (Or.inr (C.w 30 rfl)) (Or.inr (C.w 28 rfl)) (by decide) (t := (.array .int)) (t' := (.array .int)) (by decide) (by decide)))
  have F47 := F29.other W42 (Or.inr (slot_ne (Or.inr (C.w 36 rfl)) (Or.inr (C.w 28 rfl)) (by decide) (t := .int) (t' := (.array .int)) (by decide) (by decide)))
  have F48 := F30.other W42 (Or.inr (slot_ne (Or.inr (C.w 38 rfl)) (Or.inr (C.w 28 rfl)) (by decide) (t := .long) (t' := (.array .int)) (by decide) (by decide)))
  have F49 := F31.other W42 (Or.inr (slot_ne (Or.inr (C.w 50 rfl)) (Or.inr (C.w 28 rfl)) (by decide) (t := (.array (.array .long))) (t' := (.array .int)) (by decide) (by decide)))
  have F50 := F32.other W42 (Or.inr (slot_ne (Or.inr (C.w 52 rfl)) (Or.inr (C.w 28 rfl)) (by decide) (t := .long) (t' := (.array .int)) (by decide) (by decide)))
  have A51 := A33.other W42 (Ne.symm nas)
  have A52 := A34.other W42 (Ne.symm nam)
  have E53 := E35.wr W42
  have A54 := A23.other W42 (Ne.symm ne_a_mc)
  have E55 := E24.wr W42
  have K56 := K36.wr W42 (Or.inl (List.mem_of_getElem? (i := 0) rfl))
  refine go_aloadN C X40 21 rfl d2_20 rfl rfl ?_
  refine go_aloadN C X40 22 rfl d2_21 rfl rfl ?_
  refine go_alen C X40 A51 (z := (5 : Int32)) (by rw [ia_len, hl]; rfl) (pc' := 23) rfl d2_22 ?_
  refine go_newarr C X40 (C.w 0 rfl) (cap := 5) (by decide) (by decide) (by decide) (by decide) (by decide) (pc' := 25) rfl d2_23 (fun T57 h59 xb ha_xb ga_xb E60 A61  X58 => ?_)
  have ne_a_xb : a ≠ xb := Nat.ne_of_lt (Nat.lt_of_lt_of_le E44.lt (Nat.le_of_eq ha_xb.symm))
  have ne_sb_xb : sb ≠ xb := Nat.ne_of_lt (Nat.lt_of_lt_of_le A51.lt (Nat.le_of_eq ha_xb.symm))
  have ne_mb_xb : mb ≠ xb := Nat.ne_of_lt (Nat.lt_of_lt_of_le A52.lt (Nat.le_of_eq ha_xb.symm))
  have ne_mc_xb : mc ≠ xb := Nat.ne_of_lt (Nat.lt_of_lt_of_le A54.lt (Nat.le_of_eq ha_xb.symm))
  have sz_xb : h.size ≤ xb := Nat.le_trans K56.1 (Nat.le_of_eq ha_xb.symm)
  have E62 := E44.ext E60
  have F63 := F45.ext E60
  have F64 := F43.ext E60
  have F65 := F46.ext E60
  have F66 := F47.ext E60
  have F67 := F48.ext E60
  have F68 := F49.ext E60
  have F69 := F50.ext E60
  have A70 := A51.ext E60
  have A71 := A52.ext E60
  have E72 := E53.ext E60
  have A73 := A54.ext E60
  have E74 := E55.ext E60
  have K75 := K56.ext E60
  replace A61 : La Z h59 xb .int ([(.int (0 : Int32)), (.int (0 : Int32)), (.int (0 : Int32)), (.int (0 : Int32)), (.int (0 : Int32))]) := A61
  refine go_putF C X58 (C.w 29 rfl) Via.refl F65 E62 (Or.inr ⟨C.w 30 rfl, rfl, C.nmE⟩) (C.w 8 rfl) ga (ty := (.array .int)) (by decide) rfl rfl (pc' := 28) rfl d2_25 (fun T76 h78 W79 X77 => ?_)
  have F80 := F65.same W79
  have E81 := E62.wr W79
  have F82 := F63.other W79 (Or.inr (slot_ne (Or.inr (C.w 17 rfl)) (Or.inr (C.w 30 rfl)) (by decide) (t := (.array .int)) (t' := (.array .int)) (by decide) (by decide)))
  have F83 := F64.other W79 (Or.inr (slot_ne (Or.inr (C.w 28 rfl)) (Or.inr (C.w 30 rfl)) (by decide) (t := (.array .int)) (t' := (.array .int)) (by decide) (by decide)))
  have F84 := F66.other W79 (Or.inr (slot_ne (Or.inr (C.w 36 rfl)) (Or.inr (C.w 30 rfl)) (by decide) (t := .int) (t' := (.array .int)) (by decide) (by decide)))
  have F85 := F67.other W79 (Or.inr (slot_ne (Or.inr (C.w 38 rfl)) (Or.inr (C.w 30 rfl)) (by decide) (t := .long) (t' := (.array .int)) (by decide) (by decide)))
  have F86 := F68.other W79 (Or.inr (slot_ne (Or.inr (C.w 50 rfl)) (Or.inr (C.w 30 rfl)) (by decide) (t := (.array (.array .long))) (t' := (.array .int)) (by decide) (by decide)))
  have F87 := F69.other W79 (Or.inr (slot_ne (Or.inr (C.w 52 rfl)) (Or.inr (C.w 30 rfl)) (by decide) (t := .long) (t' := (.array .int)) (by decide) (by decide)))
  have A88 := A70.other W79 (Ne.symm nas)
  have A89 := A71.other W79 (Ne.symm nam)
  have E90 := E72.wr W79
  have A91 := A73.other W79 (Ne.symm ne_a_mc)
  have E92 := E74.wr W79
  have A93 := A61.other W79 (Ne.symm ne_a_xb)
  have K94 := K75.wr W79 (Or.inl (List.mem_of_getElem? (i := 0) rfl))
  refine go_aloadN C X77 29 rfl d2_28 rfl rfl ?_
  refine go_getF C X77 (C.w 29 rfl) Via.refl F80 (pc' := 32) rfl d2_29 (fun T95 X96 => ?_)
  refine go_iconst C X96 33 rfl d2_32 (z := (-1)) rfl ?_
  refine go_callS C X96 (C.w 31 rfl) (C.w 32 rfl) (C.w 33 rfl) (C.w 34 rfl) (own_fillI l Z a0 C.ws xb (-1 : Int32) h78 n0 X96.old A93 ga_xb) (argsL := [(.ref xb), (.int (-1 : Int32))]) (rest := []) (lenOf pd_1 rfl) rfl (by decide) (by decide) (Nat.le_of_ble_eq_true rfl) (by decide) (by decide) rfl rfl (pc' := 36) rfl d2_33 ?_
  rintro T97 h99 _ ⟨rfl, K8, A8⟩ X98
  show Go p e below _ (T97.setTop (mkF m 36 #[rv a, rv sb, rv mb, iv (4 : Int32), jv st, sc, un] []))
  have E100 := E81.keep K8
  have F101 := F82.keep K8 (ninS ne_a_xb nin0)
  have F102 := F83.keep K8 (ninS ne_a_xb nin0)
  have F103 := F80.keep K8 (ninS ne_a_xb nin0)
  have F104 := F84.keep K8 (ninS ne_a_xb nin0)
  have F105 := F85.keep K8 (ninS ne_a_xb nin0)
  have F106 := F86.keep K8 (ninS ne_a_xb nin0)
  have F107 := F87.keep K8 (ninS ne_a_xb nin0)
  have A108 := A88.keep K8 (ninS ne_sb_xb nin0)
  have A109 := A89.keep K8 (ninS ne_mb_xb nin0)
  have E110 := E90.keep K8
  have A111 := A91.keep K8 (ninS ne_mc_xb nin0)
  have E112 := E92.keep K8
  have K113 := K94.trans K8 (allS (Or.inr sz_xb) all0)
  refine go_iconst C X98 37 rfl d2_36 (z := 0) rfl ?_
  refine go_istore C X98 39 rfl d2_37 #[rv a, rv sb, rv mb, iv (4 : Int32), jv st, sc, iv (0 : Int32)] rfl ?_
  replace A8 : La Z h99 xb .int (ia [-1, -1, -1, -1, -1]) := A8
  refine go_iload C X98 41 rfl d2_39 rfl ?_
  refine go_aloadN C X98 42 rfl d2_41 rfl rfl ?_
  refine go_alen C X98 A109 (z := (4 : Int32)) rfl (pc' := 43) rfl d2_42 ?_
  refine go_icmp_ge C X98 d2_43 (pc' := 46) (pc2 := 63) rfl (by decide) (by decide) (fun (c43 : 4 ≤ 0) => False.elim (by first | omega | exact absurd c43 (by decide))) (fun (c43 : 0 < 4) => ?_)
  refine go_aloadN C X98 47 rfl d2_46 rfl rfl ?_
  refine go_getF C X98 (C.w 29 rfl) Via.refl F103 (pc' := 50) rfl d2_47 (fun T114 X115 => ?_)
  refine go_aloadN C X115 51 rfl d2_50 rfl rfl ?_
  refine go_iload C X115 53 rfl d2_51 rfl ?_
  refine go_iaload C X115 A109 (by decide) (v := (.int m0)) rfl (pc' := 54) rfl d2_53 ?_
  refine go_iload C X115 56 rfl d2_54 rfl ?_
  refine go_iastore C X115 A8 b0.1 (by rw [ia_len]; exact b0.2) ga_xb (pc' := 57) rfl d2_56 (fun T116 h118 W119 A120 X117 => ?_)
  have E121 := E100.wr W119
  have F122 := F101.other W119 (Or.inl ne_a_xb)
  have F123 := F102.other W119 (Or.inl ne_a_xb)
  have F124 := F103.other W119 (Or.inl ne_a_xb)
  have F125 := F104.other W119 (Or.inl ne_a_xb)
  have F126 := F105.other W119 (Or.inl ne_a_xb)
  have F127 := F106.other W119 (Or.inl ne_a_xb)
  have F128 := F107.other W119 (Or.inl ne_a_xb)
  have A129 := A108.other W119 ne_sb_xb
  have A130 := A109.other W119 ne_mb_xb
  have E131 := E110.wr W119
  have A132 := A111.other W119 ne_mc_xb
  have E133 := E112.wr W119
  have K134 := K113.wr W119 (Or.inr sz_xb)
  rw [ia_put] at A120
  refine go_iinc C X117 60 rfl d2_57 rfl (z := 1) rfl #[rv a, rv sb, rv mb, iv (4 : Int32), jv st, sc, iv (1 : Int32)] rfl ?_
  refine go_goto C X117 d2_60 (pc' := 39) (by decide) (by decide) ?_
  refine go_iload C X117 41 rfl d2_39 rfl ?_
  refine go_aloadN C X117 42 rfl d2_41 rfl rfl ?_
  refine go_alen C X117 A130 (z := (4 : Int32)) rfl (pc' := 43) rfl d2_42 ?_
  refine go_icmp_ge C X117 d2_43 (pc' := 46) (pc2 := 63) rfl (by decide) (by decide) (fun (c43 : 4 ≤ 1) => False.elim (by first | omega | exact absurd c43 (by decide))) (fun (c43 : 1 < 4) => ?_)
  refine go_aloadN C X117 47 rfl d2_46 rfl rfl ?_
  refine go_getF C X117 (C.w 29 rfl) Via.refl F124 (pc' := 50) rfl d2_47 (fun T135 X136 => ?_)
  refine go_aloadN C X136 51 rfl d2_50 rfl rfl ?_
  refine go_iload C X136 53 rfl d2_51 rfl ?_
  refine go_iaload C X136 A130 (by decide) (v := (.int m1)) rfl (pc' := 54) rfl d2_53 ?_
  refine go_iload C X136 56 rfl d2_54 rfl ?_
  refine go_iastore C X136 A120 b1.1 (by rw [ia_len]; rw [put32_len]; exact b1.2) ga_xb (pc' := 57) rfl d2_56 (fun T137 h139 W140 A141 X138 => ?_)
  have E142 := E121.wr W140
  have F143 := F122.other W140 (Or.inl ne_a_xb)
  have F144 := F123.other W140 (Or.inl ne_a_xb)
  have F145 := F124.other W140 (Or.inl ne_a_xb)
  have F146 := F125.other W140 (Or.inl ne_a_xb)
  have F147 := F126.other W140 (Or.inl ne_a_xb)
  have F148 := F127.other W140 (Or.inl ne_a_xb)
  have F149 := F128.other W140 (Or.inl ne_a_xb)
  have A150 := A129.other W140 ne_sb_xb
  have A151 := A130.other W140 ne_mb_xb
  have E152 := E131.wr W140
  have A153 := A132.other W140 ne_mc_xb
  have E154 := E133.wr W140
  have K155 := K134.wr W140 (Or.inr sz_xb)
  rw [ia_put] at A141
  refine go_iinc C X138 60 rfl d2_57 rfl (z := 1) rfl #[rv a, rv sb, rv mb, iv (4 : Int32), jv st, sc, iv (2 : Int32)] rfl ?_
  refine go_goto C X138 d2_60 (pc' := 39) (by decide) (by decide) ?_
  refine go_iload C X138 41 rfl d2_39 rfl ?_
  refine go_aloadN C X138 42 rfl d2_41 rfl rfl ?_
  refine go_alen C X138 A151 (z := (4 : Int32)) rfl (pc' := 43) rfl d2_42 ?_
  refine go_icmp_ge C X138 d2_43 (pc' := 46) (pc2 := 63) rfl (by decide) (by decide) (fun (c43 : 4 ≤ 2) => False.elim (by first | omega | exact absurd c43 (by decide))) (fun (c43 : 2 < 4) => ?_)
  refine go_aloadN C X138 47 rfl d2_46 rfl rfl ?_
  refine go_getF C X138 (C.w 29 rfl) Via.refl F145 (pc' := 50) rfl d2_47 (fun T156 X157 => ?_)
  refine go_aloadN C X157 51 rfl d2_50 rfl rfl ?_
  refine go_iload C X157 53 rfl d2_51 rfl ?_
  refine go_iaload C X157 A151 (by decide) (v := (.int m2)) rfl (pc' := 54) rfl d2_53 ?_
  refine go_iload C X157 56 rfl d2_54 rfl ?_
  refine go_iastore C X157 A141 b2.1 (by rw [ia_len]; rw [put32_len]; rw [put32_len]; exact b2.2) ga_xb (pc' := 57) rfl d2_56 (fun T158 h160 W161 A162 X159 => ?_)
  have E163 := E142.wr W161
  have F164 := F143.other W161 (Or.inl ne_a_xb)
  have F165 := F144.other W161 (Or.inl ne_a_xb)
  have F166 := F145.other W161 (Or.inl ne_a_xb)
  have F167 := F146.other W161 (Or.inl ne_a_xb)
  have F168 := F147.other W161 (Or.inl ne_a_xb)
  have F169 := F148.other W161 (Or.inl ne_a_xb)
  have F170 := F149.other W161 (Or.inl ne_a_xb)
  have A171 := A150.other W161 ne_sb_xb
  have A172 := A151.other W161 ne_mb_xb
  have E173 := E152.wr W161
  have A174 := A153.other W161 ne_mc_xb
  have E175 := E154.wr W161
  have K176 := K155.wr W161 (Or.inr sz_xb)
  rw [ia_put] at A162
  refine go_iinc C X159 60 rfl d2_57 rfl (z := 1) rfl #[rv a, rv sb, rv mb, iv (4 : Int32), jv st, sc, iv (3 : Int32)] rfl ?_
  refine go_goto C X159 d2_60 (pc' := 39) (by decide) (by decide) ?_
  refine go_iload C X159 41 rfl d2_39 rfl ?_
  refine go_aloadN C X159 42 rfl d2_41 rfl rfl ?_
  refine go_alen C X159 A172 (z := (4 : Int32)) rfl (pc' := 43) rfl d2_42 ?_
  refine go_icmp_ge C X159 d2_43 (pc' := 46) (pc2 := 63) rfl (by decide) (by decide) (fun (c43 : 4 ≤ 3) => False.elim (by first | omega | exact absurd c43 (by decide))) (fun (c43 : 3 < 4) => ?_)
  refine go_aloadN C X159 47 rfl d2_46 rfl rfl ?_
  refine go_getF C X159 (C.w 29 rfl) Via.refl F166 (pc' := 50) rfl d2_47 (fun T177 X178 => ?_)
  refine go_aloadN C X178 51 rfl d2_50 rfl rfl ?_
  refine go_iload C X178 53 rfl d2_51 rfl ?_
  refine go_iaload C X178 A172 (by decide) (v := (.int m3)) rfl (pc' := 54) rfl d2_53 ?_
  refine go_iload C X178 56 rfl d2_54 rfl ?_
  refine go_iastore C X178 A162 b3.1 (by rw [ia_len]; rw [put32_len]; rw [put32_len]; rw [put32_len]; exact b3.2) ga_xb (pc' := 57) rfl d2_56 (fun T179 h181 W182 A183 X180 => ?_)
  have E184 := E163.wr W182
  have F185 := F164.other W182 (Or.inl ne_a_xb)
  have F186 := F165.other W182 (Or.inl ne_a_xb)
  have F187 := F166.other W182 (Or.inl ne_a_xb)
  have F188 := F167.other W182 (Or.inl ne_a_xb)
  have F189 := F168.other W182 (Or.inl ne_a_xb)
  have F190 := F169.other W182 (Or.inl ne_a_xb)
  have F191 := F170.other W182 (Or.inl ne_a_xb)
  have A192 := A171.other W182 ne_sb_xb
  have A193 := A172.other W182 ne_mb_xb
  have E194 := E173.wr W182
  have A195 := A174.other W182 ne_mc_xb
  have E196 := E175.wr W182
  have K197 := K176.wr W182 (Or.inr sz_xb)
  rw [ia_put] at A183
  refine go_iinc C X180 60 rfl d2_57 rfl (z := 1) rfl #[rv a, rv sb, rv mb, iv (4 : Int32), jv st, sc, iv (4 : Int32)] rfl ?_
  refine go_goto C X180 d2_60 (pc' := 39) (by decide) (by decide) ?_
  refine go_iload C X180 41 rfl d2_39 rfl ?_
  refine go_aloadN C X180 42 rfl d2_41 rfl rfl ?_
  refine go_alen C X180 A193 (z := (4 : Int32)) rfl (pc' := 43) rfl d2_42 ?_
  refine go_icmp_ge C X180 d2_43 (pc' := 46) (pc2 := 63) rfl (by decide) (by decide) (fun (c43 : 4 ≤ 4) => ?_) (fun (c43 : 4 < 4) => False.elim (by first | omega | exact absurd c43 (by decide)))
  refine go_aloadN C X180 64 rfl d2_63 rfl rfl ?_
  refine go_iloadN C X180 65 rfl d2_64 rfl ?_
  refine go_putF C X180 (C.w 35 rfl) Via.refl F188 E184 (Or.inr ⟨C.w 36 rfl, rfl, C.nmE⟩) (C.w 8 rfl) ga (ty := .int) (by decide) rfl rfl (pc' := 68) rfl d2_65 (fun T198 h200 W201 X199 => ?_)
  have F202 := F188.same W201
  have E203 := E184.wr W201
  have F204 := F185.other W201 (Or.inr (slot_ne (Or.inr (C.w 17 rfl)) (Or.inr (C.w 36 rfl)) (by decide) (t := (.array .int)) (t' := .int) (by decide) (by decide)))
  have F205 := F186.other W201 (Or.inr (slot_ne (Or.inr (C.w 28 rfl)) (Or.inr (C.w 36 rfl)) (by decide) (t := (.array .int)) (t' := .int) (by decide) (by decide)))
  have F206 := F187.other W201 (Or.inr (slot_ne (Or.inr (C.w 30 rfl)) (Or.inr (C.w 36 rfl)) (by decide) (t := (.array .int)) (t' := .int) (by decide) (by decide)))
  have F207 := F189.other W201 (Or.inr (slot_ne (Or.inr (C.w 38 rfl)) (Or.inr (C.w 36 rfl)) (by decide) (t := .long) (t' := .int) (by decide) (by decide)))
  have F208 := F190.other W201 (Or.inr (slot_ne (Or.inr (C.w 50 rfl)) (Or.inr (C.w 36 rfl)) (by decide) (t := (.array (.array .long))) (t' := .int) (by decide) (by decide)))
  have F209 := F191.other W201 (Or.inr (slot_ne (Or.inr (C.w 52 rfl)) (Or.inr (C.w 36 rfl)) (by decide) (t := .long) (t' := .int) (by decide) (by decide)))
  have A210 := A192.other W201 (Ne.symm nas)
  have A211 := A193.other W201 (Ne.symm nam)
  have E212 := E194.wr W201
  have A213 := A195.other W201 (Ne.symm ne_a_mc)
  have E214 := E196.wr W201
  have A215 := A183.other W201 (Ne.symm ne_a_xb)
  have K216 := K197.wr W201 (Or.inl (List.mem_of_getElem? (i := 0) rfl))
  refine go_aloadN C X199 69 rfl d2_68 rfl rfl ?_
  refine go_lload C X199 71 rfl d2_69 rfl ?_
  refine go_putF C X199 (C.w 37 rfl) Via.refl F207 E203 (Or.inr ⟨C.w 38 rfl, rfl, C.nmE⟩) (C.w 8 rfl) ga (ty := .long) (by decide) rfl rfl (pc' := 74) rfl d2_71 (fun T217 h219 W220 X218 => ?_)
  have F221 := F207.same W220
  have E222 := E203.wr W220
  have F223 := F204.other W220 (Or.inr (slot_ne (Or.inr (C.w 17 rfl)) (Or.inr (C.w 38 rfl)) (by decide) (t := (.array .int)) (t' := .long) (by decide) (by decide)))
  have F224 := F205.other W220 (Or.inr (slot_ne (Or.inr (C.w 28 rfl)) (Or.inr (C.w 38 rfl)) (by decide) (t := (.array .int)) (t' := .long) (by decide) (by decide)))
  have F225 := F206.other W220 (Or.inr (slot_ne (Or.inr (C.w 30 rfl)) (Or.inr (C.w 38 rfl)) (by decide) (t := (.array .int)) (t' := .long) (by decide) (by decide)))
  have F226 := F202.other W220 (Or.inr (slot_ne (Or.inr (C.w 36 rfl)) (Or.inr (C.w 38 rfl)) (by decide) (t := .int) (t' := .long) (by decide) (by decide)))
  have F227 := F208.other W220 (Or.inr (slot_ne (Or.inr (C.w 50 rfl)) (Or.inr (C.w 38 rfl)) (by decide) (t := (.array (.array .long))) (t' := .long) (by decide) (by decide)))
  have F228 := F209.other W220 (Or.inr (slot_ne (Or.inr (C.w 52 rfl)) (Or.inr (C.w 38 rfl)) (by decide) (t := .long) (t' := .long) (by decide) (by decide)))
  have A229 := A210.other W220 (Ne.symm nas)
  have A230 := A211.other W220 (Ne.symm nam)
  have E231 := E212.wr W220
  have A232 := A213.other W220 (Ne.symm ne_a_mc)
  have E233 := E214.wr W220
  have A234 := A215.other W220 (Ne.symm ne_a_xb)
  have K235 := K216.wr W220 (Or.inl (List.mem_of_getElem? (i := 0) rfl))
  refine go_aloadN C X218 75 rfl d2_74 rfl rfl ?_
  refine go_aloadN C X218 76 rfl d2_75 rfl rfl ?_
  have hsz_76 := X218.sz
  have lt_a_76 := E222.lt
  have lt_sb_76 := A229.lt
  have lt_mb_76 := A230.lt
  have lt_mc_76 := A232.lt
  have lt_xb_76 := A234.lt
  refine go_private C X218 E222 (C.w 39 rfl) (C.w 40 rfl) (Jvm.Kit.selects_private (by decide) (C.w 8 rfl) (C.w 41 rfl) (C.w 40 rfl)) (C.w 41 rfl) (C.w 9 rfl) (C.w 42 rfl) (own_suf_4 l Z a0 C.ws a sb mc sz m0 m1 m2 m3 s0 s1 s2 s3 h219 n0 X218.old E222 F223 F224 F226 A229 A232 hl b0 z0 b1 z1 b2 z2 b3 z3) (argsL := []) (rest := [(.ref a)]) (lenOf pd_2 rfl) rfl (by decide) (by decide) (Nat.le_of_ble_eq_true rfl) (by decide) (by decide) rfl rfl (pc' := 79) rfl d2_76 ?_
  rintro T236 h238 _ ⟨ob, r0, r1, r2, r3, r4, rfl, K7, sz7, sz7r0, sz7r1, sz7r2, sz7r3, sz7r4, A7, A7r0, A7r1, A7r2, A7r3, A7r4⟩ X237
  show Go p e below _ (T236.setTop (mkF m 79 #[rv a, rv sb, rv mb, iv (4 : Int32), jv st, sc, iv (4 : Int32)] [(.ref ob), (.ref a)]))
  have ne_a_ob : a ≠ ob := Nat.ne_of_lt (Nat.lt_of_lt_of_le lt_a_76 sz7)
  have ne_sb_ob : sb ≠ ob := Nat.ne_of_lt (Nat.lt_of_lt_of_le lt_sb_76 sz7)
  have ne_mb_ob : mb ≠ ob := Nat.ne_of_lt (Nat.lt_of_lt_of_le lt_mb_76 sz7)
  have ne_mc_ob : mc ≠ ob := Nat.ne_of_lt (Nat.lt_of_lt_of_le lt_mc_76 sz7)
  have ne_xb_ob : xb ≠ ob := Nat.ne_of_lt (Nat.lt_of_lt_of_le lt_xb_76 sz7)
  have ga_ob : n0 ≤ ob := Nat.le_trans hsz_76 sz7
  have sz_ob : h.size ≤ ob := Nat.le_trans K235.1 sz7
  have ne_a_r0 : a ≠ r0 := Nat.ne_of_lt (Nat.lt_of_lt_of_le lt_a_76 sz7r0)
  have ne_sb_r0 : sb ≠ r0 := Nat.ne_of_lt (Nat.lt_of_lt_of_le lt_sb_76 sz7r0)
  have ne_mb_r0 : mb ≠ r0 := Nat.ne_of_lt (Nat.lt_of_lt_of_le lt_mb_76 sz7r0)
  have ne_mc_r0 : mc ≠ r0 := Nat.ne_of_lt (Nat.lt_of_lt_of_le lt_mc_76 sz7r0)
  have ne_xb_r0 : xb ≠ r0 := Nat.ne_of_lt (Nat.lt_of_lt_of_le lt_xb_76 sz7r0)
  have ga_r0 : n0 ≤ r0 := Nat.le_trans hsz_76 sz7r0
  have sz_r0 : h.size ≤ r0 := Nat.le_trans K235.1 sz7r0
  have ne_a_r1 : a ≠ r1 := Nat.ne_of_lt (Nat.lt_of_lt_of_le lt_a_76 sz7r1)
  have ne_sb_r1 : sb ≠ r1 := Nat.ne_of_lt (Nat.lt_of_lt_of_le lt_sb_76 sz7r1)
  have ne_mb_r1 : mb ≠ r1 := Nat.ne_of_lt (Nat.lt_of_lt_of_le lt_mb_76 sz7r1)
  have ne_mc_r1 : mc ≠ r1 := Nat.ne_of_lt (Nat.lt_of_lt_of_le lt_mc_76 sz7r1)
  have ne_xb_r1 : xb ≠ r1 := Nat.ne_of_lt (Nat.lt_of_lt_of_le lt_xb_76 sz7r1)
  have ga_r1 : n0 ≤ r1 := Nat.le_trans hsz_76 sz7r1
  have sz_r1 : h.size ≤ r1 := Nat.le_trans K235.1 sz7r1
  have ne_a_r2 : a ≠ r2 := Nat.ne_of_lt (Nat.lt_of_lt_of_le lt_a_76 sz7r2)
  have ne_sb_r2 : sb ≠ r2 := Nat.ne_of_lt (Nat.lt_of_lt_of_le lt_sb_76 sz7r2)
  have ne_mb_r2 : mb ≠ r2 := Nat.ne_of_lt (Nat.lt_of_lt_of_le lt_mb_76 sz7r2)
  have ne_mc_r2 : mc ≠ r2 := Nat.ne_of_lt (Nat.lt_of_lt_of_le lt_mc_76 sz7r2)
  have ne_xb_r2 : xb ≠ r2 := Nat.ne_of_lt (Nat.lt_of_lt_of_le lt_xb_76 sz7r2)
  have ga_r2 : n0 ≤ r2 := Nat.le_trans hsz_76 sz7r2
  have sz_r2 : h.size ≤ r2 := Nat.le_trans K235.1 sz7r2
  have ne_a_r3 : a ≠ r3 := Nat.ne_of_lt (Nat.lt_of_lt_of_le lt_a_76 sz7r3)
  have ne_sb_r3 : sb ≠ r3 := Nat.ne_of_lt (Nat.lt_of_lt_of_le lt_sb_76 sz7r3)
  have ne_mb_r3 : mb ≠ r3 := Nat.ne_of_lt (Nat.lt_of_lt_of_le lt_mb_76 sz7r3)
  have ne_mc_r3 : mc ≠ r3 := Nat.ne_of_lt (Nat.lt_of_lt_of_le lt_mc_76 sz7r3)
  have ne_xb_r3 : xb ≠ r3 := Nat.ne_of_lt (Nat.lt_of_lt_of_le lt_xb_76 sz7r3)
  have ga_r3 : n0 ≤ r3 := Nat.le_trans hsz_76 sz7r3
  have sz_r3 : h.size ≤ r3 := Nat.le_trans K235.1 sz7r3
  have ne_a_r4 : a ≠ r4 := Nat.ne_of_lt (Nat.lt_of_lt_of_le lt_a_76 sz7r4)
  have ne_sb_r4 : sb ≠ r4 := Nat.ne_of_lt (Nat.lt_of_lt_of_le lt_sb_76 sz7r4)
  have ne_mb_r4 : mb ≠ r4 := Nat.ne_of_lt (Nat.lt_of_lt_of_le lt_mb_76 sz7r4)
  have ne_mc_r4 : mc ≠ r4 := Nat.ne_of_lt (Nat.lt_of_lt_of_le lt_mc_76 sz7r4)
  have ne_xb_r4 : xb ≠ r4 := Nat.ne_of_lt (Nat.lt_of_lt_of_le lt_xb_76 sz7r4)
  have ga_r4 : n0 ≤ r4 := Nat.le_trans hsz_76 sz7r4
  have sz_r4 : h.size ≤ r4 := Nat.le_trans K235.1 sz7r4
  have E239 := E222.keep K7
  have F240 := F223.keep K7 nin0
  have F241 := F224.keep K7 nin0
  have F242 := F225.keep K7 nin0
  have F243 := F226.keep K7 nin0
  have F244 := F221.keep K7 nin0
  have F245 := F227.keep K7 nin0
  have F246 := F228.keep K7 nin0
  have A247 := A229.keep K7 nin0
  have A248 := A230.keep K7 nin0
  have E249 := E231.keep K7
  have A250 := A232.keep K7 nin0
  have E251 := E233.keep K7
  have A252 := A234.keep K7 nin0
  have K253 := K235.trans K7 all0
  refine go_putF C X237 (C.w 49 rfl) Via.refl F245 E239 (Or.inr ⟨C.w 50 rfl, rfl, C.nmE⟩) (C.w 8 rfl) ga (ty := (.array (.array .long))) (by decide) rfl rfl (pc' := 82) rfl d2_79 (fun T254 h256 W257 X255 => ?_)
  have F258 := F245.same W257
  have E259 := E239.wr W257
  have F260 := F240.other W257 (Or.inr (slot_ne (Or.inr (C.w 17 rfl)) (Or.inr (C.w 50 rfl)) (by decide) (t := (.array .int)) (t' := (.array (.array .long))) (by decide) (by decide)))
  have F261 := F241.other W257 (Or.inr (slot_ne (Or.inr (C.w 28 rfl)) (Or.inr (C.w 50 rfl)) (by decide) (t := (.array .int)) (t' := (.array (.array .long))) (by decide) (by decide)))
  have F262 := F242.other W257 (Or.inr (slot_ne (Or.inr (C.w 30 rfl)) (Or.inr (C.w 50 rfl)) (by decide) (t := (.array .int)) (t' := (.array (.array .long))) (by decide) (by decide)))
  have F263 := F243.other W257 (Or.inr (slot_ne (Or.inr (C.w 36 rfl)) (Or.inr (C.w 50 rfl)) (by decide) (t := .int) (t' := (.array (.array .long))) (by decide) (by decide)))
  have F264 := F244.other W257 (Or.inr (slot_ne (Or.inr (C.w 38 rfl)) (Or.inr (C.w 50 rfl)) (by decide) (t := .long) (t' := (.array (.array .long))) (by decide) (by decide)))
  have F265 := F246.other W257 (Or.inr (slot_ne (Or.inr (C.w 52 rfl)) (Or.inr (C.w 50 rfl)) (by decide) (t := .long) (t' := (.array (.array .long))) (by decide) (by decide)))
  have A266 := A247.other W257 (Ne.symm nas)
  have A267 := A248.other W257 (Ne.symm nam)
  have E268 := E249.wr W257
  have A269 := A250.other W257 (Ne.symm ne_a_mc)
  have E270 := E251.wr W257
  have A271 := A252.other W257 (Ne.symm ne_a_xb)
  have A272 := A7.other W257 (Ne.symm ne_a_ob)
  have A273 := A7r0.other W257 (Ne.symm ne_a_r0)
  have A274 := A7r1.other W257 (Ne.symm ne_a_r1)
  have A275 := A7r2.other W257 (Ne.symm ne_a_r2)
  have A276 := A7r3.other W257 (Ne.symm ne_a_r3)
  have A277 := A7r4.other W257 (Ne.symm ne_a_r4)
  have K278 := K253.wr W257 (Or.inl (List.mem_of_getElem? (i := 0) rfl))
  refine go_aloadN C X255 83 rfl d2_82 rfl rfl ?_
  refine go_aloadN C X255 84 rfl d2_83 rfl rfl ?_
  refine go_getF C X255 (C.w 49 rfl) Via.refl F258 (pc' := 87) rfl d2_84 (fun T279 X280 => ?_)
  refine go_iloadN C X280 88 rfl d2_87 rfl ?_
  refine go_aaload C X280 A272 rfl (by decide) (v := (.ref r4)) rfl (pc' := 89) rfl d2_88 ?_
  refine go_iconst C X280 90 rfl d2_89 (z := 0) rfl ?_
  refine go_laload C X280 A277 (by decide) (v := (.long (((((0 : Int64) + (s3.toInt64 * (0 : Int64))) + (s2.toInt64 * ((0 : Int64) + (s3.toInt64 * (0 : Int64))))) + (s1.toInt64 * (((0 : Int64) + (s3.toInt64 * (0 : Int64))) + (s2.toInt64 * ((0 : Int64) + (s3.toInt64 * (0 : Int64))))))) + (s0.toInt64 * ((((0 : Int64) + (s3.toInt64 * (0 : Int64))) + (s2.toInt64 * ((0 : Int64) + (s3.toInt64 * (0 : Int64))))) + (s1.toInt64 * (((0 : Int64) + (s3.toInt64 * (0 : Int64))) + (s2.toInt64 * ((0 : Int64) + (s3.toInt64 * (1 : Int64))))))))))) rfl (pc' := 91) rfl d2_90 ?_
  refine go_putF C X280 (C.w 51 rfl) Via.refl F265 E259 (Or.inr ⟨C.w 52 rfl, rfl, C.nmE⟩) (C.w 8 rfl) ga (ty := .long) (by decide) rfl rfl (pc' := 94) rfl d2_91 (fun T281 h283 W284 X282 => ?_)
  have F285 := F265.same W284
  have E286 := E259.wr W284
  have F287 := F260.other W284 (Or.inr (slot_ne (Or.inr (C.w 17 rfl)) (Or.inr (C.w 52 rfl)) (by decide) (t := (.array .int)) (t' := .long) (by decide) (by decide)))
  have F288 := F261.other W284 (Or.inr (slot_ne (Or.inr (C.w 28 rfl)) (Or.inr (C.w 52 rfl)) (by decide) (t := (.array .int)) (t' := .long) (by decide) (by decide)))
  have F289 := F262.other W284 (Or.inr (slot_ne (Or.inr (C.w 30 rfl)) (Or.inr (C.w 52 rfl)) (by decide) (t := (.array .int)) (t' := .long) (by decide) (by decide)))
  have F290 := F263.other W284 (Or.inr (slot_ne (Or.inr (C.w 36 rfl)) (Or.inr (C.w 52 rfl)) (by decide) (t := .int) (t' := .long) (by decide) (by decide)))
  have F291 := F264.other W284 (Or.inr (slot_ne (Or.inr (C.w 38 rfl)) (Or.inr (C.w 52 rfl)) (by decide) (t := .long) (t' := .long) (by decide) (by decide)))
  have F292 := F258.other W284 (Or.inr (slot_ne (Or.inr (C.w 50 rfl)) (Or.inr (C.w 52 rfl)) (by decide) (t := (.array (.array .long))) (t' := .long) (by decide) (by decide)))
  have A293 := A266.other W284 (Ne.symm nas)
  have A294 := A267.other W284 (Ne.symm nam)
  have E295 := E268.wr W284
  have A296 := A269.other W284 (Ne.symm ne_a_mc)
  have E297 := E270.wr W284
  have A298 := A271.other W284 (Ne.symm ne_a_xb)
  have A299 := A272.other W284 (Ne.symm ne_a_ob)
  have A300 := A273.other W284 (Ne.symm ne_a_r0)
  have A301 := A274.other W284 (Ne.symm ne_a_r1)
  have A302 := A275.other W284 (Ne.symm ne_a_r2)
  have A303 := A276.other W284 (Ne.symm ne_a_r3)
  have A304 := A277.other W284 (Ne.symm ne_a_r4)
  have K305 := K278.wr W284 (Or.inl (List.mem_of_getElem? (i := 0) rfl))
  exact go_ret0 C X282 d2_94 ⟨rfl, xb, ob, r0, r1, r2, r3, r4, K305, E286, F287, F289, F291, F292, sz_xb, sz_ob, sz_r0, sz_r1, sz_r2, sz_r3, sz_r4, A298, A299, A300, A301, A302, A303, A304⟩ (by decide) (by decide)
theorem d7_0 : decode prog_10_method_12_code 0 = .ok (.lconst 0, 1) := by decide +kernel
theorem d7_1 : decode prog_10_method_12_code 1 = .ok (.lstore_n 2, 1) := by decide +kernel
theorem d7_2 : decode prog_10_method_12_code 2 = .ok (.lconst 1, 1) := by decide +kernel
theorem d7_3 : decode prog_10_method_12_code 3 = .ok (.lstore 4, 2) := by decide +kernel
theorem d7_5 : decode prog_10_method_12_code 5 = .ok (.iconst 0, 1) := by decide +kernel
theorem d7_6 : decode prog_10_method_12_code 6 = .ok (.istore 6, 2) := by decide +kernel
theorem d7_8 : decode prog_10_method_12_code 8 = .ok (.iconst 0, 1) := by decide +kernel
theorem d7_9 : decode prog_10_method_12_code 9 = .ok (.istore 7, 2) := by decide +kernel
theorem d7_11 : decode prog_10_method_12_code 11 = .ok (.iload 7, 2) := by decide +kernel
theorem d7_13 : decode prog_10_method_12_code 13 = .ok (.aload_n 1, 1) := by decide +kernel
theorem d7_14 : decode prog_10_method_12_code 14 = .ok (.arraylength, 1) := by decide +kernel
theorem d7_15 : decode prog_10_method_12_code 15 = .ok (.if_icmp .ge 75, 3) := by decide +kernel
theorem d7_18 : decode prog_10_method_12_code 18 = .ok (.aload_n 1, 1) := by decide +kernel
theorem d7_19 : decode prog_10_method_12_code 19 = .ok (.arraylength, 1) := by decide +kernel
theorem d7_20 : decode prog_10_method_12_code 20 = .ok (.iload 7, 2) := by decide +kernel
theorem d7_22 : decode prog_10_method_12_code 22 = .ok (.isub, 1) := by decide +kernel
theorem d7_23 : decode prog_10_method_12_code 23 = .ok (.istore 8, 2) := by decide +kernel
theorem d7_25 : decode prog_10_method_12_code 25 = .ok (.aload_n 0, 1) := by decide +kernel
theorem d7_26 : decode prog_10_method_12_code 26 = .ok (.getfield 21, 3) := by decide +kernel
theorem d7_29 : decode prog_10_method_12_code 29 = .ok (.aload_n 1, 1) := by decide +kernel
theorem d7_30 : decode prog_10_method_12_code 30 = .ok (.iload 7, 2) := by decide +kernel
theorem d7_32 : decode prog_10_method_12_code 32 = .ok (.iaload, 1) := by decide +kernel
theorem d7_33 : decode prog_10_method_12_code 33 = .ok (.iaload, 1) := by decide +kernel
theorem d7_34 : decode prog_10_method_12_code 34 = .ok (.istore 9, 2) := by decide +kernel
theorem d7_36 : decode prog_10_method_12_code 36 = .ok (.lload_n 2, 1) := by decide +kernel
theorem d7_37 : decode prog_10_method_12_code 37 = .ok (.lload 4, 2) := by decide +kernel
theorem d7_39 : decode prog_10_method_12_code 39 = .ok (.aload_n 0, 1) := by decide +kernel
theorem d7_40 : decode prog_10_method_12_code 40 = .ok (.getfield 42, 3) := by decide +kernel
theorem d7_43 : decode prog_10_method_12_code 43 = .ok (.iload 8, 2) := by decide +kernel
theorem d7_45 : decode prog_10_method_12_code 45 = .ok (.aaload, 1) := by decide +kernel
theorem d7_46 : decode prog_10_method_12_code 46 = .ok (.iload 6, 2) := by decide +kernel
theorem d7_48 : decode prog_10_method_12_code 48 = .ok (.laload, 1) := by decide +kernel
theorem d7_49 : decode prog_10_method_12_code 49 = .ok (.aload_n 0, 1) := by decide +kernel
theorem d7_50 : decode prog_10_method_12_code 50 = .ok (.getfield 42, 3) := by decide +kernel
theorem d7_53 : decode prog_10_method_12_code 53 = .ok (.iload 8, 2) := by decide +kernel
theorem d7_55 : decode prog_10_method_12_code 55 = .ok (.aaload, 1) := by decide +kernel
theorem d7_56 : decode prog_10_method_12_code 56 = .ok (.iload 9, 2) := by decide +kernel
theorem d7_58 : decode prog_10_method_12_code 58 = .ok (.laload, 1) := by decide +kernel
theorem d7_59 : decode prog_10_method_12_code 59 = .ok (.lsub, 1) := by decide +kernel
theorem d7_60 : decode prog_10_method_12_code 60 = .ok (.lmul, 1) := by decide +kernel
theorem d7_61 : decode prog_10_method_12_code 61 = .ok (.ladd, 1) := by decide +kernel
theorem d7_62 : decode prog_10_method_12_code 62 = .ok (.lstore_n 2, 1) := by decide +kernel
theorem d7_63 : decode prog_10_method_12_code 63 = .ok (.lload 4, 2) := by decide +kernel
theorem d7_65 : decode prog_10_method_12_code 65 = .ok (.aload_n 0, 1) := by decide +kernel
theorem d7_66 : decode prog_10_method_12_code 66 = .ok (.getfield 7, 3) := by decide +kernel
theorem d7_69 : decode prog_10_method_12_code 69 = .ok (.aload_n 1, 1) := by decide +kernel
theorem d7_70 : decode prog_10_method_12_code 70 = .ok (.iload 7, 2) := by decide +kernel
theorem d7_72 : decode prog_10_method_12_code 72 = .ok (.iaload, 1) := by decide +kernel
theorem d7_73 : decode prog_10_method_12_code 73 = .ok (.iaload, 1) := by decide +kernel
theorem d7_74 : decode prog_10_method_12_code 74 = .ok (.i2l, 1) := by decide +kernel
theorem d7_75 : decode prog_10_method_12_code 75 = .ok (.lmul, 1) := by decide +kernel
theorem d7_76 : decode prog_10_method_12_code 76 = .ok (.lstore 4, 2) := by decide +kernel
theorem d7_78 : decode prog_10_method_12_code 78 = .ok (.iload 9, 2) := by decide +kernel
theorem d7_80 : decode prog_10_method_12_code 80 = .ok (.iconst 1, 1) := by decide +kernel
theorem d7_81 : decode prog_10_method_12_code 81 = .ok (.iadd, 1) := by decide +kernel
theorem d7_82 : decode prog_10_method_12_code 82 = .ok (.istore 6, 2) := by decide +kernel
theorem d7_84 : decode prog_10_method_12_code 84 = .ok (.iinc 7 1, 3) := by decide +kernel
theorem d7_87 : decode prog_10_method_12_code 87 = .ok (.goto (-76), 3) := by decide +kernel
theorem d7_90 : decode prog_10_method_12_code 90 = .ok (.aload_n 0, 1) := by decide +kernel
theorem d7_91 : decode prog_10_method_12_code 91 = .ok (.getfield 34, 3) := by decide +kernel
theorem d7_94 : decode prog_10_method_12_code 94 = .ok (.lload_n 2, 1) := by decide +kernel
theorem d7_95 : decode prog_10_method_12_code 95 = .ok (.ladd, 1) := by decide +kernel
theorem d7_96 : decode prog_10_method_12_code 96 = .ok (.lreturn, 1) := by decide +kernel
theorem ef_own_bit_1_0 (m : MethodId) (a : Addr) (qb : Addr)  : entryFrame m #[(.ref a), (.ref qb)] 10 = mkF m 0 #[rv a, rv qb, un, un, un, un, un, un, un, un] [] := by
  first | (simp [entryFrame, mkF, argsToLocals, Value.category]; done) | rfl
set_option maxRecDepth 65536 in
set_option maxHeartbeats 40000000 in
theorem own_bit_1_0 (l : Launch) (Z : State) (a0 : Array Value) (hw : ∀ d ∈ tables_1, d.before a0 Z = true) (a : Addr) (qb : Addr) (sb xb ob r0 r1 : Addr) (sz ix : List Int32) (m0 m1 m2 m3 s0 s1 s2 s3 : Int32) (st t00 t01 t02 t03 t04 t10 t11 t12 t13 t14 : Int64) (h : Heap) (n0 : Nat) (hn0 : Old Z n0 h) (F1 : Fld Z h a "com/example/covertide/covertide/engine/ParameterSets" "sizes" "[I" (.ref sb)) (F2 : Fld Z h a "com/example/covertide/covertide/engine/ParameterSets" "indexOf" "[I" (.ref xb)) (F3 : Fld Z h a "com/example/covertide/covertide/engine/ParameterSets" "start" "J" (.long st)) (F4 : Fld Z h a "com/example/covertide/covertide/engine/ParameterSets" "suffixSums" "[[J" (.ref ob)) (A1 : La Z h sb .int (ia sz)) (A2 : La Z h xb .int (ia ix)) (A3 : La Z h ob (.array .long) [(.ref r0), (.ref r1)]) (AR0 : La Z h r0 .long [(.long t00), (.long t01), (.long t02), (.long t03), (.long t04)]) (AR1 : La Z h r1 .long [(.long t10), (.long t11), (.long t12), (.long t13), (.long t14)]) (AQ : La Z h qb .int [(.int m0)]) (hl : sz.length = 5) (xl : ix.length = 5) (b0 : 0 ≤ m0.toInt ∧ m0.toInt < (5 : Nat)) (z0 : at32 sz m0 = s0) (b1 : 0 ≤ m1.toInt ∧ m1.toInt < (5 : Nat)) (z1 : at32 sz m1 = s1) (b2 : 0 ≤ m2.toInt ∧ m2.toInt < (5 : Nat)) (z2 : at32 sz m2 = s2) (b3 : 0 ≤ m3.toInt ∧ m3.toInt < (5 : Nat)) (z3 : at32 sz m3 = s3) (x0 : at32 ix m0 = 0) (x1 : at32 ix m1 = 1) (x2 : at32 ix m2 = 2) (x3 : at32 ix m3 = 3) :
    Con l Z (⟨"com/example/covertide/covertide/engine/ParameterSets", "bitOf", "([I)J"⟩ : MethodName) prog_10_method_12_code 10 (some .long) ({ frames := 0, cells := 0, slots := 0, locals := 0 } : Room) #[(.ref a), (.ref qb)] h n0 (fun v h' => v = some (.long (st + ((0 : Int64) + ((1 : Int64) * (t10 - t10))))) ∧ h = h') := by
  refine con_of hw (plainFor_of_name pn_com_example_covertide_covertide_engine_ParameterSets) hn0 ?_
  intro p e s m below meth c T0 C X0
  refine Go.cast (congrArg T0.setTop (ef_own_bit_1_0 m a qb)) ?_
  refine go_lconst C X0 1 rfl d7_0 (z := 0) rfl ?_
  refine go_lstoreN C X0 2 rfl d7_1 #[rv a, rv qb, jv (0 : Int64), sc, un, un, un, un, un, un] rfl ?_
  refine go_lconst C X0 3 rfl d7_2 (z := 1) rfl ?_
  refine go_lstore C X0 5 rfl d7_3 #[rv a, rv qb, jv (0 : Int64), sc, jv (1 : Int64), sc, un, un, un, un] rfl ?_
  refine go_iconst C X0 6 rfl d7_5 (z := 0) rfl ?_
  refine go_istore C X0 8 rfl d7_6 #[rv a, rv qb, jv (0 : Int64), sc, jv (1 : Int64), sc, iv (0 : Int32), un, un, un] rfl ?_
  refine go_iconst C X0 9 rfl d7_8 (z := 0) rfl ?_
  refine go_istore C X0 11 rfl d7_9 #[rv a, rv qb, jv (0 : Int64), sc, jv (1 : Int64), sc, iv (0 : Int32), iv (0 : Int32), un, un] rfl ?_
  refine go_iload C X0 13 rfl d7_11 rfl ?_
  refine go_aloadN C X0 14 rfl d7_13 rfl rfl ?_
  refine go_alen C X0 AQ (z := (1 : Int32)) rfl (pc' := 15) rfl d7_14 ?_
  refine go_icmp_ge C X0 d7_15 (pc' := 18) (pc2 := 90) rfl (by decide) (by decide) (fun (c15 : 1 ≤ 0) => False.elim (by first | omega | exact absurd c15 (by decide))) (fun (c15 : 0 < 1) => ?_)
  refine go_aloadN C X0 19 rfl d7_18 rfl rfl ?_
  refine go_alen C X0 AQ (z := (1 : Int32)) rfl (pc' := 20) rfl d7_19 ?_
  refine go_iload C X0 22 rfl d7_20 rfl ?_
  refine go_isubL C X0 23 rfl d7_22 (z := (1)) rfl ?_
  refine go_istore C X0 25 rfl d7_23 #[rv a, rv qb, jv (0 : Int64), sc, jv (1 : Int64), sc, iv (0 : Int32), iv (0 : Int32), iv (1 : Int32), un] rfl ?_
  refine go_aloadN C X0 26 rfl d7_25 rfl rfl ?_
  refine go_getF C X0 (C.w 29 rfl) Via.refl F2 (pc' := 29) rfl d7_26 (fun T1 X2 => ?_)
  refine go_aloadN C X2 30 rfl d7_29 rfl rfl ?_
  refine go_iload C X2 32 rfl d7_30 rfl ?_
  refine go_iaload C X2 AQ (by decide) (v := (.int m0)) rfl (pc' := 33) rfl d7_32 ?_
  refine go_iaload C X2 A2 b0.1 (v := (.int (at32 ix m0))) (ia_at b0.1 (by rw [xl]; exact b0.2)) (pc' := 34) rfl d7_33 ?_
  rw [x0]
  refine go_istore C X2 36 rfl d7_34 #[rv a, rv qb, jv (0 : Int64), sc, jv (1 : Int64), sc, iv (0 : Int32), iv (0 : Int32), iv (1 : Int32), iv (0 : Int32)] rfl ?_
  refine go_lloadN C X2 37 rfl d7_36 rfl ?_
  refine go_lload C X2 39 rfl d7_37 rfl ?_
  refine go_aloadN C X2 40 rfl d7_39 rfl rfl ?_
  refine go_getF C X2 (C.w 49 rfl) Via.refl F4 (pc' := 43) rfl d7_40 (fun T3 X4 => ?_)
  refine go_iload C X4 45 rfl d7_43 rfl ?_
  refine go_aaload C X4 A3 rfl (by decide) (v := (.ref r1)) rfl (pc' := 46) rfl d7_45 ?_
  refine go_iload C X4 48 rfl d7_46 rfl ?_
  refine go_laload C X4 AR1 (by decide) (v := (.long t10)) rfl (pc' := 49) rfl d7_48 ?_
  refine go_aloadN C X4 50 rfl d7_49 rfl rfl ?_
  refine go_getF C X4 (C.w 49 rfl) Via.refl F4 (pc' := 53) rfl d7_50 (fun T5 X6 => ?_)
  refine go_iload C X6 55 rfl d7_53 rfl ?_
  refine go_aaload C X6 A3 rfl (by decide) (v := (.ref r1)) rfl (pc' := 56) rfl d7_55 ?_
  refine go_iload C X6 58 rfl d7_56 rfl ?_
  refine go_laload C X6 AR1 (by decide) (v := (.long t10)) rfl (pc' := 59) rfl d7_58 ?_
  refine go_lsub C X6 60 rfl d7_59 ?_
  refine go_lmul C X6 61 rfl d7_60 ?_
  refine go_ladd C X6 62 rfl d7_61 ?_
  refine go_lstoreN C X6 63 rfl d7_62 #[rv a, rv qb, jv ((0 : Int64) + ((1 : Int64) * (t10 - t10))), sc, jv (1 : Int64), sc, iv (0 : Int32), iv (0 : Int32), iv (1 : Int32), iv (0 : Int32)] rfl ?_
  refine go_lload C X6 65 rfl d7_63 rfl ?_
  refine go_aloadN C X6 66 rfl d7_65 rfl rfl ?_
  refine go_getF C X6 (C.w 16 rfl) Via.refl F1 (pc' := 69) rfl d7_66 (fun T7 X8 => ?_)
  refine go_aloadN C X8 70 rfl d7_69 rfl rfl ?_
  refine go_iload C X8 72 rfl d7_70 rfl ?_
  refine go_iaload C X8 AQ (by decide) (v := (.int m0)) rfl (pc' := 73) rfl d7_72 ?_
  refine go_iaload C X8 A1 b0.1 (v := (.int (at32 sz m0))) (ia_at b0.1 (by rw [hl]; exact b0.2)) (pc' := 74) rfl d7_73 ?_
  rw [z0]
  refine go_i2l C X8 75 rfl d7_74 ?_
  refine go_lmul C X8 76 rfl d7_75 ?_
  refine go_lstore C X8 78 rfl d7_76 #[rv a, rv qb, jv ((0 : Int64) + ((1 : Int64) * (t10 - t10))), sc, jv ((1 : Int64) * (s0.toInt64)), sc, iv (0 : Int32), iv (0 : Int32), iv (1 : Int32), iv (0 : Int32)] rfl ?_
  refine go_iload C X8 80 rfl d7_78 rfl ?_
  refine go_iconst C X8 81 rfl d7_80 (z := 1) rfl ?_
  refine go_iaddL C X8 82 rfl d7_81 (z := (1)) rfl ?_
  refine go_istore C X8 84 rfl d7_82 #[rv a, rv qb, jv ((0 : Int64) + ((1 : Int64) * (t10 - t10))), sc, jv ((1 : Int64) * (s0.toInt64)), sc, iv (1 : Int32), iv (0 : Int32), iv (1 : Int32), iv (0 : Int32)] rfl ?_
  refine go_iinc C X8 87 rfl d7_84 rfl (z := 1) rfl #[rv a, rv qb, jv ((0 : Int64) + ((1 : Int64) * (t10 - t10))), sc, jv ((1 : Int64) * (s0.toInt64)), sc, iv (1 : Int32), iv (1 : Int32), iv (1 : Int32), iv (0 : Int32)] rfl ?_
  refine go_goto C X8 d7_87 (pc' := 11) (by decide) (by decide) ?_
  refine go_iload C X8 13 rfl d7_11 rfl ?_
  refine go_aloadN C X8 14 rfl d7_13 rfl rfl ?_
  refine go_alen C X8 AQ (z := (1 : Int32)) rfl (pc' := 15) rfl d7_14 ?_
  refine go_icmp_ge C X8 d7_15 (pc' := 18) (pc2 := 90) rfl (by decide) (by decide) (fun (c15 : 1 ≤ 1) => ?_) (fun (c15 : 1 < 1) => False.elim (by first | omega | exact absurd c15 (by decide)))
  refine go_aloadN C X8 91 rfl d7_90 rfl rfl ?_
  refine go_getF C X8 (C.w 37 rfl) Via.refl F3 (pc' := 94) rfl d7_91 (fun T9 X10 => ?_)
  refine go_lloadN C X10 95 rfl d7_94 rfl ?_
  refine go_ladd C X10 96 rfl d7_95 ?_
  exact go_retJ C X10 d7_96 ⟨rfl, rfl⟩ (by decide) (by decide)
theorem ef_own_bit_1_1 (m : MethodId) (a : Addr) (qb : Addr)  : entryFrame m #[(.ref a), (.ref qb)] 10 = mkF m 0 #[rv a, rv qb, un, un, un, un, un, un, un, un] [] := by
  first | (simp [entryFrame, mkF, argsToLocals, Value.category]; done) | rfl
set_option maxRecDepth 65536 in
set_option maxHeartbeats 40000000 in
theorem own_bit_1_1 (l : Launch) (Z : State) (a0 : Array Value) (hw : ∀ d ∈ tables_1, d.before a0 Z = true) (a : Addr) (qb : Addr) (sb xb ob r0 r1 : Addr) (sz ix : List Int32) (m0 m1 m2 m3 s0 s1 s2 s3 : Int32) (st t00 t01 t02 t03 t04 t10 t11 t12 t13 t14 : Int64) (h : Heap) (n0 : Nat) (hn0 : Old Z n0 h) (F1 : Fld Z h a "com/example/covertide/covertide/engine/ParameterSets" "sizes" "[I" (.ref sb)) (F2 : Fld Z h a "com/example/covertide/covertide/engine/ParameterSets" "indexOf" "[I" (.ref xb)) (F3 : Fld Z h a "com/example/covertide/covertide/engine/ParameterSets" "start" "J" (.long st)) (F4 : Fld Z h a "com/example/covertide/covertide/engine/ParameterSets" "suffixSums" "[[J" (.ref ob)) (A1 : La Z h sb .int (ia sz)) (A2 : La Z h xb .int (ia ix)) (A3 : La Z h ob (.array .long) [(.ref r0), (.ref r1)]) (AR0 : La Z h r0 .long [(.long t00), (.long t01), (.long t02), (.long t03), (.long t04)]) (AR1 : La Z h r1 .long [(.long t10), (.long t11), (.long t12), (.long t13), (.long t14)]) (AQ : La Z h qb .int [(.int m1)]) (hl : sz.length = 5) (xl : ix.length = 5) (b0 : 0 ≤ m0.toInt ∧ m0.toInt < (5 : Nat)) (z0 : at32 sz m0 = s0) (b1 : 0 ≤ m1.toInt ∧ m1.toInt < (5 : Nat)) (z1 : at32 sz m1 = s1) (b2 : 0 ≤ m2.toInt ∧ m2.toInt < (5 : Nat)) (z2 : at32 sz m2 = s2) (b3 : 0 ≤ m3.toInt ∧ m3.toInt < (5 : Nat)) (z3 : at32 sz m3 = s3) (x0 : at32 ix m0 = 0) (x1 : at32 ix m1 = 1) (x2 : at32 ix m2 = 2) (x3 : at32 ix m3 = 3) :
    Con l Z (⟨"com/example/covertide/covertide/engine/ParameterSets", "bitOf", "([I)J"⟩ : MethodName) prog_10_method_12_code 10 (some .long) ({ frames := 0, cells := 0, slots := 0, locals := 0 } : Room) #[(.ref a), (.ref qb)] h n0 (fun v h' => v = some (.long (st + ((0 : Int64) + ((1 : Int64) * (t10 - t11))))) ∧ h = h') := by
  refine con_of hw (plainFor_of_name pn_com_example_covertide_covertide_engine_ParameterSets) hn0 ?_
  intro p e s m below meth c T0 C X0
  refine Go.cast (congrArg T0.setTop (ef_own_bit_1_1 m a qb)) ?_
  refine go_lconst C X0 1 rfl d7_0 (z := 0) rfl ?_
  refine go_lstoreN C X0 2 rfl d7_1 #[rv a, rv qb, jv (0 : Int64), sc, un, un, un, un, un, un] rfl ?_
  refine go_lconst C X0 3 rfl d7_2 (z := 1) rfl ?_
  refine go_lstore C X0 5 rfl d7_3 #[rv a, rv qb, jv (0 : Int64), sc, jv (1 : Int64), sc, un, un, un, un] rfl ?_
  refine go_iconst C X0 6 rfl d7_5 (z := 0) rfl ?_
  refine go_istore C X0 8 rfl d7_6 #[rv a, rv qb, jv (0 : Int64), sc, jv (1 : Int64), sc, iv (0 : Int32), un, un, un] rfl ?_
  refine go_iconst C X0 9 rfl d7_8 (z := 0) rfl ?_
  refine go_istore C X0 11 rfl d7_9 #[rv a, rv qb, jv (0 : Int64), sc, jv (1 : Int64), sc, iv (0 : Int32), iv (0 : Int32), un, un] rfl ?_
  refine go_iload C X0 13 rfl d7_11 rfl ?_
  refine go_aloadN C X0 14 rfl d7_13 rfl rfl ?_
  refine go_alen C X0 AQ (z := (1 : Int32)) rfl (pc' := 15) rfl d7_14 ?_
  refine go_icmp_ge C X0 d7_15 (pc' := 18) (pc2 := 90) rfl (by decide) (by decide) (fun (c15 : 1 ≤ 0) => False.elim (by first | omega | exact absurd c15 (by decide))) (fun (c15 : 0 < 1) => ?_)
  refine go_aloadN C X0 19 rfl d7_18 rfl rfl ?_
  refine go_alen C X0 AQ (z := (1 : Int32)) rfl (pc' := 20) rfl d7_19 ?_
  refine go_iload C X0 22 rfl d7_20 rfl ?_
  refine go_isubL C X0 23 rfl d7_22 (z := (1)) rfl ?_
  refine go_istore C X0 25 rfl d7_23 #[rv a, rv qb, jv (0 : Int64), sc, jv (1 : Int64), sc, iv (0 : Int32), iv (0 : Int32), iv (1 : Int32), un] rfl ?_
  refine go_aloadN C X0 26 rfl d7_25 rfl rfl ?_
  refine go_getF C X0 (C.w 29 rfl) Via.refl F2 (pc' := 29) rfl d7_26 (fun T1 X2 => ?_)
  refine go_aloadN C X2 30 rfl d7_29 rfl rfl ?_
  refine go_iload C X2 32 rfl d7_30 rfl ?_
  refine go_iaload C X2 AQ (by decide) (v := (.int m1)) rfl (pc' := 33) rfl d7_32 ?_
  refine go_iaload C X2 A2 b1.1 (v := (.int (at32 ix m1))) (ia_at b1.1 (by rw [xl]; exact b1.2)) (pc' := 34) rfl d7_33 ?_
  rw [x1]
  refine go_istore C X2 36 rfl d7_34 #[rv a, rv qb, jv (0 : Int64), sc, jv (1 : Int64), sc, iv (0 : Int32), iv (0 : Int32), iv (1 : Int32), iv (1 : Int32)] rfl ?_
  refine go_lloadN C X2 37 rfl d7_36 rfl ?_
  refine go_lload C X2 39 rfl d7_37 rfl ?_
  refine go_aloadN C X2 40 rfl d7_39 rfl rfl ?_
  refine go_getF C X2 (C.w 49 rfl) Via.refl F4 (pc' := 43) rfl d7_40 (fun T3 X4 => ?_)
  refine go_iload C X4 45 rfl d7_43 rfl ?_
  refine go_aaload C X4 A3 rfl (by decide) (v := (.ref r1)) rfl (pc' := 46) rfl d7_45 ?_
  refine go_iload C X4 48 rfl d7_46 rfl ?_
  refine go_laload C X4 AR1 (by decide) (v := (.long t10)) rfl (pc' := 49) rfl d7_48 ?_
  refine go_aloadN C X4 50 rfl d7_49 rfl rfl ?_
  refine go_getF C X4 (C.w 49 rfl) Via.refl F4 (pc' := 53) rfl d7_50 (fun T5 X6 => ?_)
  refine go_iload C X6 55 rfl d7_53 rfl ?_
  refine go_aaload C X6 A3 rfl (by decide) (v := (.ref r1)) rfl (pc' := 56) rfl d7_55 ?_
  refine go_iload C X6 58 rfl d7_56 rfl ?_
  refine go_laload C X6 AR1 (by decide) (v := (.long t11)) rfl (pc' := 59) rfl d7_58 ?_
  refine go_lsub C X6 60 rfl d7_59 ?_
  refine go_lmul C X6 61 rfl d7_60 ?_
  refine go_ladd C X6 62 rfl d7_61 ?_
  refine go_lstoreN C X6 63 rfl d7_62 #[rv a, rv qb, jv ((0 : Int64) + ((1 : Int64) * (t10 - t11))), sc, jv (1 : Int64), sc, iv (0 : Int32), iv (0 : Int32), iv (1 : Int32), iv (1 : Int32)] rfl ?_
  refine go_lload C X6 65 rfl d7_63 rfl ?_
  refine go_aloadN C X6 66 rfl d7_65 rfl rfl ?_
  refine go_getF C X6 (C.w 16 rfl) Via.refl F1 (pc' := 69) rfl d7_66 (fun T7 X8 => ?_)
  refine go_aloadN C X8 70 rfl d7_69 rfl rfl ?_
  refine go_iload C X8 72 rfl d7_70 rfl ?_
  refine go_iaload C X8 AQ (by decide) (v := (.int m1)) rfl (pc' := 73) rfl d7_72 ?_
  refine go_iaload C X8 A1 b1.1 (v := (.int (at32 sz m1))) (ia_at b1.1 (by rw [hl]; exact b1.2)) (pc' := 74) rfl d7_73 ?_
  rw [z1]
  refine go_i2l C X8 75 rfl d7_74 ?_
  refine go_lmul C X8 76 rfl d7_75 ?_
  refine go_lstore C X8 78 rfl d7_76 #[rv a, rv qb, jv ((0 : Int64) + ((1 : Int64) * (t10 - t11))), sc, jv ((1 : Int64) * (s1.toInt64)), sc, iv (0 : Int32), iv (0 : Int32), iv (1 : Int32), iv (1 : Int32)] rfl ?_
  refine go_iload C X8 80 rfl d7_78 rfl ?_
  refine go_iconst C X8 81 rfl d7_80 (z := 1) rfl ?_
  refine go_iaddL C X8 82 rfl d7_81 (z := (2)) rfl ?_
  refine go_istore C X8 84 rfl d7_82 #[rv a, rv qb, jv ((0 : Int64) + ((1 : Int64) * (t10 - t11))), sc, jv ((1 : Int64) * (s1.toInt64)), sc, iv (2 : Int32), iv (0 : Int32), iv (1 : Int32), iv (1 : Int32)] rfl ?_
  refine go_iinc C X8 87 rfl d7_84 rfl (z := 1) rfl #[rv a, rv qb, jv ((0 : Int64) + ((1 : Int64) * (t10 - t11))), sc, jv ((1 : Int64) * (s1.toInt64)), sc, iv (2 : Int32), iv (1 : Int32), iv (1 : Int32), iv (1 : Int32)] rfl ?_
  refine go_goto C X8 d7_87 (pc' := 11) (by decide) (by decide) ?_
  refine go_iload C X8 13 rfl d7_11 rfl ?_
  refine go_aloadN C X8 14 rfl d7_13 rfl rfl ?_
  refine go_alen C X8 AQ (z := (1 : Int32)) rfl (pc' := 15) rfl d7_14 ?_
  refine go_icmp_ge C X8 d7_15 (pc' := 18) (pc2 := 90) rfl (by decide) (by decide) (fun (c15 : 1 ≤ 1) => ?_) (fun (c15 : 1 < 1) => False.elim (by first | omega | exact absurd c15 (by decide)))
  refine go_aloadN C X8 91 rfl d7_90 rfl rfl ?_
  refine go_getF C X8 (C.w 37 rfl) Via.refl F3 (pc' := 94) rfl d7_91 (fun T9 X10 => ?_)
  refine go_lloadN C X10 95 rfl d7_94 rfl ?_
  refine go_ladd C X10 96 rfl d7_95 ?_
  exact go_retJ C X10 d7_96 ⟨rfl, rfl⟩ (by decide) (by decide)
theorem ef_own_bit_1_2 (m : MethodId) (a : Addr) (qb : Addr)  : entryFrame m #[(.ref a), (.ref qb)] 10 = mkF m 0 #[rv a, rv qb, un, un, un, un, un, un, un, un] [] := by
  first | (simp [entryFrame, mkF, argsToLocals, Value.category]; done) | rfl
set_option maxRecDepth 65536 in
set_option maxHeartbeats 40000000 in
theorem own_bit_1_2 (l : Launch) (Z : State) (a0 : Array Value) (hw : ∀ d ∈ tables_1, d.before a0 Z = true) (a : Addr) (qb : Addr) (sb xb ob r0 r1 : Addr) (sz ix : List Int32) (m0 m1 m2 m3 s0 s1 s2 s3 : Int32) (st t00 t01 t02 t03 t04 t10 t11 t12 t13 t14 : Int64) (h : Heap) (n0 : Nat) (hn0 : Old Z n0 h) (F1 : Fld Z h a "com/example/covertide/covertide/engine/ParameterSets" "sizes" "[I" (.ref sb)) (F2 : Fld Z h a "com/example/covertide/covertide/engine/ParameterSets" "indexOf" "[I" (.ref xb)) (F3 : Fld Z h a "com/example/covertide/covertide/engine/ParameterSets" "start" "J" (.long st)) (F4 : Fld Z h a "com/example/covertide/covertide/engine/ParameterSets" "suffixSums" "[[J" (.ref ob)) (A1 : La Z h sb .int (ia sz)) (A2 : La Z h xb .int (ia ix)) (A3 : La Z h ob (.array .long) [(.ref r0), (.ref r1)]) (AR0 : La Z h r0 .long [(.long t00), (.long t01), (.long t02), (.long t03), (.long t04)]) (AR1 : La Z h r1 .long [(.long t10), (.long t11), (.long t12), (.long t13), (.long t14)]) (AQ : La Z h qb .int [(.int m2)]) (hl : sz.length = 5) (xl : ix.length = 5) (b0 : 0 ≤ m0.toInt ∧ m0.toInt < (5 : Nat)) (z0 : at32 sz m0 = s0) (b1 : 0 ≤ m1.toInt ∧ m1.toInt < (5 : Nat)) (z1 : at32 sz m1 = s1) (b2 : 0 ≤ m2.toInt ∧ m2.toInt < (5 : Nat)) (z2 : at32 sz m2 = s2) (b3 : 0 ≤ m3.toInt ∧ m3.toInt < (5 : Nat)) (z3 : at32 sz m3 = s3) (x0 : at32 ix m0 = 0) (x1 : at32 ix m1 = 1) (x2 : at32 ix m2 = 2) (x3 : at32 ix m3 = 3) :
    Con l Z (⟨"com/example/covertide/covertide/engine/ParameterSets", "bitOf", "([I)J"⟩ : MethodName) prog_10_method_12_code 10 (some .long) ({ frames := 0, cells := 0, slots := 0, locals := 0 } : Room) #[(.ref a), (.ref qb)] h n0 (fun v h' => v = some (.long (st + ((0 : Int64) + ((1 : Int64) * (t10 - t12))))) ∧ h = h') := by
  refine con_of hw (plainFor_of_name pn_com_example_covertide_covertide_engine_ParameterSets) hn0 ?_
  intro p e s m below meth c T0 C X0
  refine Go.cast (congrArg T0.setTop (ef_own_bit_1_2 m a qb)) ?_
  refine go_lconst C X0 1 rfl d7_0 (z := 0) rfl ?_
  refine go_lstoreN C X0 2 rfl d7_1 #[rv a, rv qb, jv (0 : Int64), sc, un, un, un, un, un, un] rfl ?_
  refine go_lconst C X0 3 rfl d7_2 (z := 1) rfl ?_
  refine go_lstore C X0 5 rfl d7_3 #[rv a, rv qb, jv (0 : Int64), sc, jv (1 : Int64), sc, un, un, un, un] rfl ?_
  refine go_iconst C X0 6 rfl d7_5 (z := 0) rfl ?_
  refine go_istore C X0 8 rfl d7_6 #[rv a, rv qb, jv (0 : Int64), sc, jv (1 : Int64), sc, iv (0 : Int32), un, un, un] rfl ?_
  refine go_iconst C X0 9 rfl d7_8 (z := 0) rfl ?_
  refine go_istore C X0 11 rfl d7_9 #[rv a, rv qb, jv (0 : Int64), sc, jv (1 : Int64), sc, iv (0 : Int32), iv (0 : Int32), un, un] rfl ?_
  refine go_iload C X0 13 rfl d7_11 rfl ?_
  refine go_aloadN C X0 14 rfl d7_13 rfl rfl ?_
  refine go_alen C X0 AQ (z := (1 : Int32)) rfl (pc' := 15) rfl d7_14 ?_
  refine go_icmp_ge C X0 d7_15 (pc' := 18) (pc2 := 90) rfl (by decide) (by decide) (fun (c15 : 1 ≤ 0) => False.elim (by first | omega | exact absurd c15 (by decide))) (fun (c15 : 0 < 1) => ?_)
  refine go_aloadN C X0 19 rfl d7_18 rfl rfl ?_
  refine go_alen C X0 AQ (z := (1 : Int32)) rfl (pc' := 20) rfl d7_19 ?_
  refine go_iload C X0 22 rfl d7_20 rfl ?_
  refine go_isubL C X0 23 rfl d7_22 (z := (1)) rfl ?_
  refine go_istore C X0 25 rfl d7_23 #[rv a, rv qb, jv (0 : Int64), sc, jv (1 : Int64), sc, iv (0 : Int32), iv (0 : Int32), iv (1 : Int32), un] rfl ?_
  refine go_aloadN C X0 26 rfl d7_25 rfl rfl ?_
  refine go_getF C X0 (C.w 29 rfl) Via.refl F2 (pc' := 29) rfl d7_26 (fun T1 X2 => ?_)
  refine go_aloadN C X2 30 rfl d7_29 rfl rfl ?_
  refine go_iload C X2 32 rfl d7_30 rfl ?_
  refine go_iaload C X2 AQ (by decide) (v := (.int m2)) rfl (pc' := 33) rfl d7_32 ?_
  refine go_iaload C X2 A2 b2.1 (v := (.int (at32 ix m2))) (ia_at b2.1 (by rw [xl]; exact b2.2)) (pc' := 34) rfl d7_33 ?_
  rw [x2]
  refine go_istore C X2 36 rfl d7_34 #[rv a, rv qb, jv (0 : Int64), sc, jv (1 : Int64), sc, iv (0 : Int32), iv (0 : Int32), iv (1 : Int32), iv (2 : Int32)] rfl ?_
  refine go_lloadN C X2 37 rfl d7_36 rfl ?_
  refine go_lload C X2 39 rfl d7_37 rfl ?_
  refine go_aloadN C X2 40 rfl d7_39 rfl rfl ?_
  refine go_getF C X2 (C.w 49 rfl) Via.refl F4 (pc' := 43) rfl d7_40 (fun T3 X4 => ?_)
  refine go_iload C X4 45 rfl d7_43 rfl ?_
  refine go_aaload C X4 A3 rfl (by decide) (v := (.ref r1)) rfl (pc' := 46) rfl d7_45 ?_
  refine go_iload C X4 48 rfl d7_46 rfl ?_
  refine go_laload C X4 AR1 (by decide) (v := (.long t10)) rfl (pc' := 49) rfl d7_48 ?_
  refine go_aloadN C X4 50 rfl d7_49 rfl rfl ?_
  refine go_getF C X4 (C.w 49 rfl) Via.refl F4 (pc' := 53) rfl d7_50 (fun T5 X6 => ?_)
  refine go_iload C X6 55 rfl d7_53 rfl ?_
  refine go_aaload C X6 A3 rfl (by decide) (v := (.ref r1)) rfl (pc' := 56) rfl d7_55 ?_
  refine go_iload C X6 58 rfl d7_56 rfl ?_
  refine go_laload C X6 AR1 (by decide) (v := (.long t12)) rfl (pc' := 59) rfl d7_58 ?_
  refine go_lsub C X6 60 rfl d7_59 ?_
  refine go_lmul C X6 61 rfl d7_60 ?_
  refine go_ladd C X6 62 rfl d7_61 ?_
  refine go_lstoreN C X6 63 rfl d7_62 #[rv a, rv qb, jv ((0 : Int64) + ((1 : Int64) * (t10 - t12))), sc, jv (1 : Int64), sc, iv (0 : Int32), iv (0 : Int32), iv (1 : Int32), iv (2 : Int32)] rfl ?_
  refine go_lload C X6 65 rfl d7_63 rfl ?_
  refine go_aloadN C X6 66 rfl d7_65 rfl rfl ?_
  refine go_getF C X6 (C.w 16 rfl) Via.refl F1 (pc' := 69) rfl d7_66 (fun T7 X8 => ?_)
  refine go_aloadN C X8 70 rfl d7_69 rfl rfl ?_
  refine go_iload C X8 72 rfl d7_70 rfl ?_
  refine go_iaload C X8 AQ (by decide) (v := (.int m2)) rfl (pc' := 73) rfl d7_72 ?_
  refine go_iaload C X8 A1 b2.1 (v := (.int (at32 sz m2))) (ia_at b2.1 (by rw [hl]; exact b2.2)) (pc' := 74) rfl d7_73 ?_
  rw [z2]
  refine go_i2l C X8 75 rfl d7_74 ?_
  refine go_lmul C X8 76 rfl d7_75 ?_
  refine go_lstore C X8 78 rfl d7_76 #[rv a, rv qb, jv ((0 : Int64) + ((1 : Int64) * (t10 - t12))), sc, jv ((1 : Int64) * (s2.toInt64)), sc, iv (0 : Int32), iv (0 : Int32), iv (1 : Int32), iv (2 : Int32)] rfl ?_
  refine go_iload C X8 80 rfl d7_78 rfl ?_
  refine go_iconst C X8 81 rfl d7_80 (z := 1) rfl ?_
  refine go_iaddL C X8 82 rfl d7_81 (z := (3)) rfl ?_
  refine go_istore C X8 84 rfl d7_82 #[rv a, rv qb, jv ((0 : Int64) + ((1 : Int64) * (t10 - t12))), sc, jv ((1 : Int64) * (s2.toInt64)), sc, iv (3 : Int32), iv (0 : Int32), iv (1 : Int32), iv (2 : Int32)] rfl ?_
  refine go_iinc C X8 87 rfl d7_84 rfl (z := 1) rfl #[rv a, rv qb, jv ((0 : Int64) + ((1 : Int64) * (t10 - t12))), sc, jv ((1 : Int64) * (s2.toInt64)), sc, iv (3 : Int32), iv (1 : Int32), iv (1 : Int32), iv (2 : Int32)] rfl ?_
  refine go_goto C X8 d7_87 (pc' := 11) (by decide) (by decide) ?_
  refine go_iload C X8 13 rfl d7_11 rfl ?_
  refine go_aloadN C X8 14 rfl d7_13 rfl rfl ?_
  refine go_alen C X8 AQ (z := (1 : Int32)) rfl (pc' := 15) rfl d7_14 ?_
  refine go_icmp_ge C X8 d7_15 (pc' := 18) (pc2 := 90) rfl (by decide) (by decide) (fun (c15 : 1 ≤ 1) => ?_) (fun (c15 : 1 < 1) => False.elim (by first | omega | exact absurd c15 (by decide)))
  refine go_aloadN C X8 91 rfl d7_90 rfl rfl ?_
  refine go_getF C X8 (C.w 37 rfl) Via.refl F3 (pc' := 94) rfl d7_91 (fun T9 X10 => ?_)
  refine go_lloadN C X10 95 rfl d7_94 rfl ?_
  refine go_ladd C X10 96 rfl d7_95 ?_
  exact go_retJ C X10 d7_96 ⟨rfl, rfl⟩ (by decide) (by decide)
theorem ef_own_bit_1_3 (m : MethodId) (a : Addr) (qb : Addr)  : entryFrame m #[(.ref a), (.ref qb)] 10 = mkF m 0 #[rv a, rv qb, un, un, un, un, un, un, un, un] [] := by
  first | (simp [entryFrame, mkF, argsToLocals, Value.category]; done) | rfl
set_option maxRecDepth 65536 in
set_option maxHeartbeats 40000000 in
theorem own_bit_1_3 (l : Launch) (Z : State) (a0 : Array Value) (hw : ∀ d ∈ tables_1, d.before a0 Z = true) (a : Addr) (qb : Addr) (sb xb ob r0 r1 : Addr) (sz ix : List Int32) (m0 m1 m2 m3 s0 s1 s2 s3 : Int32) (st t00 t01 t02 t03 t04 t10 t11 t12 t13 t14 : Int64) (h : Heap) (n0 : Nat) (hn0 : Old Z n0 h) (F1 : Fld Z h a "com/example/covertide/covertide/engine/ParameterSets" "sizes" "[I" (.ref sb)) (F2 : Fld Z h a "com/example/covertide/covertide/engine/ParameterSets" "indexOf" "[I" (.ref xb)) (F3 : Fld Z h a "com/example/covertide/covertide/engine/ParameterSets" "start" "J" (.long st)) (F4 : Fld Z h a "com/example/covertide/covertide/engine/ParameterSets" "suffixSums" "[[J" (.ref ob)) (A1 : La Z h sb .int (ia sz)) (A2 : La Z h xb .int (ia ix)) (A3 : La Z h ob (.array .long) [(.ref r0), (.ref r1)]) (AR0 : La Z h r0 .long [(.long t00), (.long t01), (.long t02), (.long t03), (.long t04)]) (AR1 : La Z h r1 .long [(.long t10), (.long t11), (.long t12), (.long t13), (.long t14)]) (AQ : La Z h qb .int [(.int m3)]) (hl : sz.length = 5) (xl : ix.length = 5) (b0 : 0 ≤ m0.toInt ∧ m0.toInt < (5 : Nat)) (z0 : at32 sz m0 = s0) (b1 : 0 ≤ m1.toInt ∧ m1.toInt < (5 : Nat)) (z1 : at32 sz m1 = s1) (b2 : 0 ≤ m2.toInt ∧ m2.toInt < (5 : Nat)) (z2 : at32 sz m2 = s2) (b3 : 0 ≤ m3.toInt ∧ m3.toInt < (5 : Nat)) (z3 : at32 sz m3 = s3) (x0 : at32 ix m0 = 0) (x1 : at32 ix m1 = 1) (x2 : at32 ix m2 = 2) (x3 : at32 ix m3 = 3) :
    Con l Z (⟨"com/example/covertide/covertide/engine/ParameterSets", "bitOf", "([I)J"⟩ : MethodName) prog_10_method_12_code 10 (some .long) ({ frames := 0, cells := 0, slots := 0, locals := 0 } : Room) #[(.ref a), (.ref qb)] h n0 (fun v h' => v = some (.long (st + ((0 : Int64) + ((1 : Int64) * (t10 - t13))))) ∧ h = h') := by
  refine con_of hw (plainFor_of_name pn_com_example_covertide_covertide_engine_ParameterSets) hn0 ?_
  intro p e s m below meth c T0 C X0
  refine Go.cast (congrArg T0.setTop (ef_own_bit_1_3 m a qb)) ?_
  refine go_lconst C X0 1 rfl d7_0 (z := 0) rfl ?_
  refine go_lstoreN C X0 2 rfl d7_1 #[rv a, rv qb, jv (0 : Int64), sc, un, un, un, un, un, un] rfl ?_
  refine go_lconst C X0 3 rfl d7_2 (z := 1) rfl ?_
  refine go_lstore C X0 5 rfl d7_3 #[rv a, rv qb, jv (0 : Int64), sc, jv (1 : Int64), sc, un, un, un, un] rfl ?_
  refine go_iconst C X0 6 rfl d7_5 (z := 0) rfl ?_
  refine go_istore C X0 8 rfl d7_6 #[rv a, rv qb, jv (0 : Int64), sc, jv (1 : Int64), sc, iv (0 : Int32), un, un, un] rfl ?_
  refine go_iconst C X0 9 rfl d7_8 (z := 0) rfl ?_
  refine go_istore C X0 11 rfl d7_9 #[rv a, rv qb, jv (0 : Int64), sc, jv (1 : Int64), sc, iv (0 : Int32), iv (0 : Int32), un, un] rfl ?_
  refine go_iload C X0 13 rfl d7_11 rfl ?_
  refine go_aloadN C X0 14 rfl d7_13 rfl rfl ?_
  refine go_alen C X0 AQ (z := (1 : Int32)) rfl (pc' := 15) rfl d7_14 ?_
  refine go_icmp_ge C X0 d7_15 (pc' := 18) (pc2 := 90) rfl (by decide) (by decide) (fun (c15 : 1 ≤ 0) => False.elim (by first | omega | exact absurd c15 (by decide))) (fun (c15 : 0 < 1) => ?_)
  refine go_aloadN C X0 19 rfl d7_18 rfl rfl ?_
  refine go_alen C X0 AQ (z := (1 : Int32)) rfl (pc' := 20) rfl d7_19 ?_
  refine go_iload C X0 22 rfl d7_20 rfl ?_
  refine go_isubL C X0 23 rfl d7_22 (z := (1)) rfl ?_
  refine go_istore C X0 25 rfl d7_23 #[rv a, rv qb, jv (0 : Int64), sc, jv (1 : Int64), sc, iv (0 : Int32), iv (0 : Int32), iv (1 : Int32), un] rfl ?_
  refine go_aloadN C X0 26 rfl d7_25 rfl rfl ?_
  refine go_getF C X0 (C.w 29 rfl) Via.refl F2 (pc' := 29) rfl d7_26 (fun T1 X2 => ?_)
  refine go_aloadN C X2 30 rfl d7_29 rfl rfl ?_
  refine go_iload C X2 32 rfl d7_30 rfl ?_
  refine go_iaload C X2 AQ (by decide) (v := (.int m3)) rfl (pc' := 33) rfl d7_32 ?_
  refine go_iaload C X2 A2 b3.1 (v := (.int (at32 ix m3))) (ia_at b3.1 (by rw [xl]; exact b3.2)) (pc' := 34) rfl d7_33 ?_
  rw [x3]
  refine go_istore C X2 36 rfl d7_34 #[rv a, rv qb, jv (0 : Int64), sc, jv (1 : Int64), sc, iv (0 : Int32), iv (0 : Int32), iv (1 : Int32), iv (3 : Int32)] rfl ?_
  refine go_lloadN C X2 37 rfl d7_36 rfl ?_
  refine go_lload C X2 39 rfl d7_37 rfl ?_
  refine go_aloadN C X2 40 rfl d7_39 rfl rfl ?_
  refine go_getF C X2 (C.w 49 rfl) Via.refl F4 (pc' := 43) rfl d7_40 (fun T3 X4 => ?_)
  refine go_iload C X4 45 rfl d7_43 rfl ?_
  refine go_aaload C X4 A3 rfl (by decide) (v := (.ref r1)) rfl (pc' := 46) rfl d7_45 ?_
  refine go_iload C X4 48 rfl d7_46 rfl ?_
  refine go_laload C X4 AR1 (by decide) (v := (.long t10)) rfl (pc' := 49) rfl d7_48 ?_
  refine go_aloadN C X4 50 rfl d7_49 rfl rfl ?_
  refine go_getF C X4 (C.w 49 rfl) Via.refl F4 (pc' := 53) rfl d7_50 (fun T5 X6 => ?_)
  refine go_iload C X6 55 rfl d7_53 rfl ?_
  refine go_aaload C X6 A3 rfl (by decide) (v := (.ref r1)) rfl (pc' := 56) rfl d7_55 ?_
  refine go_iload C X6 58 rfl d7_56 rfl ?_
  refine go_laload C X6 AR1 (by decide) (v := (.long t13)) rfl (pc' := 59) rfl d7_58 ?_
  refine go_lsub C X6 60 rfl d7_59 ?_
  refine go_lmul C X6 61 rfl d7_60 ?_
  refine go_ladd C X6 62 rfl d7_61 ?_
  refine go_lstoreN C X6 63 rfl d7_62 #[rv a, rv qb, jv ((0 : Int64) + ((1 : Int64) * (t10 - t13))), sc, jv (1 : Int64), sc, iv (0 : Int32), iv (0 : Int32), iv (1 : Int32), iv (3 : Int32)] rfl ?_
  refine go_lload C X6 65 rfl d7_63 rfl ?_
  refine go_aloadN C X6 66 rfl d7_65 rfl rfl ?_
  refine go_getF C X6 (C.w 16 rfl) Via.refl F1 (pc' := 69) rfl d7_66 (fun T7 X8 => ?_)
  refine go_aloadN C X8 70 rfl d7_69 rfl rfl ?_
  refine go_iload C X8 72 rfl d7_70 rfl ?_
  refine go_iaload C X8 AQ (by decide) (v := (.int m3)) rfl (pc' := 73) rfl d7_72 ?_
  refine go_iaload C X8 A1 b3.1 (v := (.int (at32 sz m3))) (ia_at b3.1 (by rw [hl]; exact b3.2)) (pc' := 74) rfl d7_73 ?_
  rw [z3]
  refine go_i2l C X8 75 rfl d7_74 ?_
  refine go_lmul C X8 76 rfl d7_75 ?_
  refine go_lstore C X8 78 rfl d7_76 #[rv a, rv qb, jv ((0 : Int64) + ((1 : Int64) * (t10 - t13))), sc, jv ((1 : Int64) * (s3.toInt64)), sc, iv (0 : Int32), iv (0 : Int32), iv (1 : Int32), iv (3 : Int32)] rfl ?_
  refine go_iload C X8 80 rfl d7_78 rfl ?_
  refine go_iconst C X8 81 rfl d7_80 (z := 1) rfl ?_
  refine go_iaddL C X8 82 rfl d7_81 (z := (4)) rfl ?_
  refine go_istore C X8 84 rfl d7_82 #[rv a, rv qb, jv ((0 : Int64) + ((1 : Int64) * (t10 - t13))), sc, jv ((1 : Int64) * (s3.toInt64)), sc, iv (4 : Int32), iv (0 : Int32), iv (1 : Int32), iv (3 : Int32)] rfl ?_
  refine go_iinc C X8 87 rfl d7_84 rfl (z := 1) rfl #[rv a, rv qb, jv ((0 : Int64) + ((1 : Int64) * (t10 - t13))), sc, jv ((1 : Int64) * (s3.toInt64)), sc, iv (4 : Int32), iv (1 : Int32), iv (1 : Int32), iv (3 : Int32)] rfl ?_
  refine go_goto C X8 d7_87 (pc' := 11) (by decide) (by decide) ?_
  refine go_iload C X8 13 rfl d7_11 rfl ?_
  refine go_aloadN C X8 14 rfl d7_13 rfl rfl ?_
  refine go_alen C X8 AQ (z := (1 : Int32)) rfl (pc' := 15) rfl d7_14 ?_
  refine go_icmp_ge C X8 d7_15 (pc' := 18) (pc2 := 90) rfl (by decide) (by decide) (fun (c15 : 1 ≤ 1) => ?_) (fun (c15 : 1 < 1) => False.elim (by first | omega | exact absurd c15 (by decide)))
  refine go_aloadN C X8 91 rfl d7_90 rfl rfl ?_
  refine go_getF C X8 (C.w 37 rfl) Via.refl F3 (pc' := 94) rfl d7_91 (fun T9 X10 => ?_)
  refine go_lloadN C X10 95 rfl d7_94 rfl ?_
  refine go_ladd C X10 96 rfl d7_95 ?_
  exact go_retJ C X10 d7_96 ⟨rfl, rfl⟩ (by decide) (by decide)
theorem ef_own_bit_2_0 (m : MethodId) (a : Addr) (qb : Addr)  : entryFrame m #[(.ref a), (.ref qb)] 10 = mkF m 0 #[rv a, rv qb, un, un, un, un, un, un, un, un] [] := by
  first | (simp [entryFrame, mkF, argsToLocals, Value.category]; done) | rfl
set_option maxRecDepth 65536 in
set_option maxHeartbeats 40000000 in
theorem own_bit_2_0 (l : Launch) (Z : State) (a0 : Array Value) (hw : ∀ d ∈ tables_1, d.before a0 Z = true) (a : Addr) (qb : Addr) (sb xb ob r0 r1 r2 : Addr) (sz ix : List Int32) (m0 m1 m2 m3 s0 s1 s2 s3 : Int32) (st t00 t01 t02 t03 t04 t10 t11 t12 t13 t14 t20 t21 t22 t23 t24 : Int64) (h : Heap) (n0 : Nat) (hn0 : Old Z n0 h) (F1 : Fld Z h a "com/example/covertide/covertide/engine/ParameterSets" "sizes" "[I" (.ref sb)) (F2 : Fld Z h a "com/example/covertide/covertide/engine/ParameterSets" "indexOf" "[I" (.ref xb)) (F3 : Fld Z h a "com/example/covertide/covertide/engine/ParameterSets" "start" "J" (.long st)) (F4 : Fld Z h a "com/example/covertide/covertide/engine/ParameterSets" "suffixSums" "[[J" (.ref ob)) (A1 : La Z h sb .int (ia sz)) (A2 : La Z h xb .int (ia ix)) (A3 : La Z h ob (.array .long) [(.ref r0), (.ref r1), (.ref r2)]) (AR0 : La Z h r0 .long [(.long t00), (.long t01), (.long t02), (.long t03), (.long t04)]) (AR1 : La Z h r1 .long [(.long t10), (.long t11), (.long t12), (.long t13), (.long t14)]) (AR2 : La Z h r2 .long [(.long t20), (.long t21), (.long t22), (.long t23), (.long t24)]) (AQ : La Z h qb .int [(.int m0), (.int m1)]) (hl : sz.length = 5) (xl : ix.length = 5) (b0 : 0 ≤ m0.toInt ∧ m0.toInt < (5 : Nat)) (z0 : at32 sz m0 = s0) (b1 : 0 ≤ m1.toInt ∧ m1.toInt < (5 : Nat)) (z1 : at32 sz m1 = s1) (b2 : 0 ≤ m2.toInt ∧ m2.toInt < (5 : Nat)) (z2 : at32 sz m2 = s2) (b3 : 0 ≤ m3.toInt ∧ m3.toInt < (5 : Nat)) (z3 : at32 sz m3 = s3) (x0 : at32 ix m0 = 0) (x1 : at32 ix m1 = 1) (x2 : at32 ix m2 = 2) (x3 : at32 ix m3 = 3) :
    Con l Z (⟨"com/example/covertide/covertide/engine/ParameterSets", "bitOf", "([I)J"⟩ : MethodName) prog_10_method_12_code 10 (some .long) ({ frames := 0, cells := 0, slots := 0, locals := 0 } : Room) #[(.ref a), (.ref qb)] h n0 (fun v h' => v = some (.long (st + (((0 : Int64) + ((1 : Int64) * (t20 - t20))) + (((1 : Int64) * s0.toInt64) * (t11 - t11))))) ∧ h = h') := by
  refine con_of hw (plainFor_of_name pn_com_example_covertide_covertide_engine_ParameterSets) hn0 ?_
  intro p e s m below meth c T0 C X0
  refine Go.cast (congrArg T0.setTop (ef_own_bit_2_0 m a qb)) ?_
  refine go_lconst C X0 1 rfl d7_0 (z := 0) rfl ?_
  refine go_lstoreN C X0 2 rfl d7_1 #[rv a, rv qb, jv (0 : Int64), sc, un, un, un, un, un, un] rfl ?_
  refine go_lconst C X0 3 rfl d7_2 (z := 1) rfl ?_
  refine go_lstore C X0 5 rfl d7_3 #[rv a, rv qb, jv (0 : Int64), sc, jv (1 : Int64), sc, un, un, un, un] rfl ?_
  refine go_iconst C X0 6 rfl d7_5 (z := 0) rfl ?_
  refine go_istore C X0 8 rfl d7_6 #[rv a, rv qb, jv (0 : Int64), sc, jv (1 : Int64), sc, iv (0 : Int32), un, un, un] rfl ?_
  refine go_iconst C X0 9 rfl d7_8 (z := 0) rfl ?_
  refine go_istore C X0 11 rfl d7_9 #[rv a, rv qb, jv (0 : Int64), sc, jv (1 : Int64), sc, iv (0 : Int32), iv (0 : Int32), un, un] rfl ?_
  refine go_iload C X0 13 rfl d7_11 rfl ?_
  refine go_aloadN C X0 14 rfl d7_13 rfl rfl ?_
  refine go_alen C X0 AQ (z := (2 : Int32)) rfl (pc' := 15) rfl d7_14 ?_
  refine go_icmp_ge C X0 d7_15 (pc' := 18) (pc2 := 90) rfl (by decide) (by decide) (fun (c15 : 2 ≤ 0) => False.elim (by first | omega | exact absurd c15 (by decide))) (fun (c15 : 0 < 2) => ?_)
  refine go_aloadN C X0 19 rfl d7_18 rfl rfl ?_
  refine go_alen C X0 AQ (z := (2 : Int32)) rfl (pc' := 20) rfl d7_19 ?_
  refine go_iload C X0 22 rfl d7_20 rfl ?_
  refine go_isubL C X0 23 rfl d7_22 (z := (2)) rfl ?_
  refine go_istore C X0 25 rfl d7_23 #[rv a, rv qb, jv (0 : Int64), sc, jv (1 : Int64), sc, iv (0 : Int32), iv (0 : Int32), iv (2 : Int32), un] rfl ?_
  refine go_aloadN C X0 26 rfl d7_25 rfl rfl ?_
  refine go_getF C X0 (C.w 29 rfl) Via.refl F2 (pc' := 29) rfl d7_26 (fun T1 X2 => ?_)
  refine go_aloadN C X2 30 rfl d7_29 rfl rfl ?_
  refine go_iload C X2 32 rfl d7_30 rfl ?_
  refine go_iaload C X2 AQ (by decide) (v := (.int m0)) rfl (pc' := 33) rfl d7_32 ?_
  refine go_iaload C X2 A2 b0.1 (v := (.int (at32 ix m0))) (ia_at b0.1 (by rw [xl]; exact b0.2)) (pc' := 34) rfl d7_33 ?_
  rw [x0]
  refine go_istore C X2 36 rfl d7_34 #[rv a, rv qb, jv (0 : Int64), sc, jv (1 : Int64), sc, iv (0 : Int32), iv (0 : Int32), iv (2 : Int32), iv (0 : Int32)] rfl ?_
  refine go_lloadN C X2 37 rfl d7_36 rfl ?_
  refine go_lload C X2 39 rfl d7_37 rfl ?_
  refine go_aloadN C X2 40 rfl d7_39 rfl rfl ?_
  refine go_getF C X2 (C.w 49 rfl) Via.refl F4 (pc' := 43) rfl d7_40 (fun T3 X4 => ?_)
  refine go_iload C X4 45 rfl d7_43 rfl ?_
  refine go_aaload C X4 A3 rfl (by decide) (v := (.ref r2)) rfl (pc' := 46) rfl d7_45 ?_
  refine go_iload C X4 48 rfl d7_46 rfl ?_
  refine go_laload C X4 AR2 (by decide) (v := (.long t20)) rfl (pc' := 49) rfl d7_48 ?_
  refine go_aloadN C X4 50 rfl d7_49 rfl rfl ?_
  refine go_getF C X4 (C.w 49 rfl) Via.refl F4 (pc' := 53) rfl d7_50 (fun T5 X6 => ?_)
  refine go_iload C X6 55 rfl d7_53 rfl ?_
  refine go_aaload C X6 A3 rfl (by decide) (v := (.ref r2)) rfl (pc' := 56) rfl d7_55 ?_
  refine go_iload C X6 58 rfl d7_56 rfl ?_
  refine go_laload C X6 AR2 (by decide) (v := (.long t20)) rfl (pc' := 59) rfl d7_58 ?_
  refine go_lsub C X6 60 rfl d7_59 ?_
  refine go_lmul C X6 61 rfl d7_60 ?_
  refine go_ladd C X6 62 rfl d7_61 ?_
  refine go_lstoreN C X6 63 rfl d7_62 #[rv a, rv qb, jv ((0 : Int64) + ((1 : Int64) * (t20 - t20))), sc, jv (1 : Int64), sc, iv (0 : Int32), iv (0 : Int32), iv (2 : Int32), iv (0 : Int32)] rfl ?_
  refine go_lload C X6 65 rfl d7_63 rfl ?_
  refine go_aloadN C X6 66 rfl d7_65 rfl rfl ?_
  refine go_getF C X6 (C.w 16 rfl) Via.refl F1 (pc' := 69) rfl d7_66 (fun T7 X8 => ?_)
  refine go_aloadN C X8 70 rfl d7_69 rfl rfl ?_
  refine go_iload C X8 72 rfl d7_70 rfl ?_
  refine go_iaload C X8 AQ (by decide) (v := (.int m0)) rfl (pc' := 73) rfl d7_72 ?_
  refine go_iaload C X8 A1 b0.1 (v := (.int (at32 sz m0))) (ia_at b0.1 (by rw [hl]; exact b0.2)) (pc' := 74) rfl d7_73 ?_
  rw [z0]
  refine go_i2l C X8 75 rfl d7_74 ?_
  refine go_lmul C X8 76 rfl d7_75 ?_
  refine go_lstore C X8 78 rfl d7_76 #[rv a, rv qb, jv ((0 : Int64) + ((1 : Int64) * (t20 - t20))), sc, jv ((1 : Int64) * (s0.toInt64)), sc, iv (0 : Int32), iv (0 : Int32), iv (2 : Int32), iv (0 : Int32)] rfl ?_
  refine go_iload C X8 80 rfl d7_78 rfl ?_
  refine go_iconst C X8 81 rfl d7_80 (z := 1) rfl ?_
  refine go_iaddL C X8 82 rfl d7_81 (z := (1)) rfl ?_
  refine go_istore C X8 84 rfl d7_82 #[rv a, rv qb, jv ((0 : Int64) + ((1 : Int64) * (t20 - t20))), sc, jv ((1 : Int64) * (s0.toInt64)), sc, iv (1 : Int32), iv (0 : Int32), iv (2 : Int32), iv (0 : Int32)] rfl ?_
  refine go_iinc C X8 87 rfl d7_84 rfl (z := 1) rfl #[rv a, rv qb, jv ((0 : Int64) + ((1 : Int64) * (t20 - t20))), sc, jv ((1 : Int64) * (s0.toInt64)), sc, iv (1 : Int32), iv (1 : Int32), iv (2 : Int32), iv (0 : Int32)] rfl ?_
  refine go_goto C X8 d7_87 (pc' := 11) (by decide) (by decide) ?_
  refine go_iload C X8 13 rfl d7_11 rfl ?_
  refine go_aloadN C X8 14 rfl d7_13 rfl rfl ?_
  refine go_alen C X8 AQ (z := (2 : Int32)) rfl (pc' := 15) rfl d7_14 ?_
  refine go_icmp_ge C X8 d7_15 (pc' := 18) (pc2 := 90) rfl (by decide) (by decide) (fun (c15 : 2 ≤ 1) => False.elim (by first | omega | exact absurd c15 (by decide))) (fun (c15 : 1 < 2) => ?_)
  refine go_aloadN C X8 19 rfl d7_18 rfl rfl ?_
  refine go_alen C X8 AQ (z := (2 : Int32)) rfl (pc' := 20) rfl d7_19 ?_
  refine go_iload C X8 22 rfl d7_20 rfl ?_
  refine go_isubL C X8 23 rfl d7_22 (z := (1)) rfl ?_
  refine go_istore C X8 25 rfl d7_23 #[rv a, rv qb, jv ((0 : Int64) + ((1 : Int64) * (t20 - t20))), sc, jv ((1 : Int64) * (s0.toInt64)), sc, iv (1 : Int32), iv (1 : Int32), iv (1 : Int32), iv (0 : Int32)] rfl ?_
  refine go_aloadN C X8 26 rfl d7_25 rfl rfl ?_
  refine go_getF C X8 (C.w 29 rfl) Via.refl F2 (pc' := 29) rfl d7_26 (fun T9 X10 => ?_)
  refine go_aloadN C X10 30 rfl d7_29 rfl rfl ?_
  refine go_iload C X10 32 rfl d7_30 rfl ?_
  refine go_iaload C X10 AQ (by decide) (v := (.int m1)) rfl (pc' := 33) rfl d7_32 ?_
  refine go_iaload C X10 A2 b1.1 (v := (.int (at32 ix m1))) (ia_at b1.1 (by rw [xl]; exact b1.2)) (pc' := 34) rfl d7_33 ?_
  rw [x1]
  refine go_istore C X10 36 rfl d7_34 #[rv a, rv qb, jv ((0 : Int64) + ((1 : Int64) * (t20 - t20))), sc, jv ((1 : Int64) * (s0.toInt64)), sc, iv (1 : Int32), iv (1 : Int32), iv (1 : Int32), iv (1 : Int32)] rfl ?_
  refine go_lloadN C X10 37 rfl d7_36 rfl ?_
  refine go_lload C X10 39 rfl d7_37 rfl ?_
  refine go_aloadN C X10 40 rfl d7_39 rfl rfl ?_
  refine go_getF C X10 (C.w 49 rfl) Via.refl F4 (pc' := 43) rfl d7_40 (fun T11 X12 => ?_)
  refine go_iload C X12 45 rfl d7_43 rfl ?_
  refine go_aaload C X12 A3 rfl (by decide) (v := (.ref r1)) rfl (pc' := 46) rfl d7_45 ?_
  refine go_iload C X12 48 rfl d7_46 rfl ?_
  refine go_laload C X12 AR1 (by decide) (v := (.long t11)) rfl (pc' := 49) rfl d7_48 ?_
  refine go_aloadN C X12 50 rfl d7_49 rfl rfl ?_
  refine go_getF C X12 (C.w 49 rfl) Via.refl F4 (pc' := 53) rfl d7_50 (fun T13 X14 => ?_)
  refine go_iload C X14 55 rfl d7_53 rfl ?_
  refine go_aaload C X14 A3 rfl (by decide) (v := (.ref r1)) rfl (pc' := 56) rfl d7_55 ?_
  refine go_iload C X14 58 rfl d7_56 rfl ?_
  refine go_laload C X14 AR1 (by decide) (v := (.long t11)) rfl (pc' := 59) rfl d7_58 ?_
  refine go_lsub C X14 60 rfl d7_59 ?_
  refine go_lmul C X14 61 rfl d7_60 ?_
  refine go_ladd C X14 62 rfl d7_61 ?_
  refine go_lstoreN C X14 63 rfl d7_62 #[rv a, rv qb, jv (((0 : Int64) + ((1 : Int64) * (t20 - t20))) + (((1 : Int64) * (s0.toInt64)) * (t11 - t11))), sc, jv ((1 : Int64) * (s0.toInt64)), sc, iv (1 : Int32), iv (1 : Int32), iv (1 : Int32), iv (1 : Int32)] rfl ?_
  refine go_lload C X14 65 rfl d7_63 rfl ?_
  refine go_aloadN C X14 66 rfl d7_65 rfl rfl ?_
  refine go_getF C X14 (C.w 16 rfl) Via.refl F1 (pc' := 69) rfl d7_66 (fun T15 X16 => ?_)
  refine go_aloadN C X16 70 rfl d7_69 rfl rfl ?_
  refine go_iload C X16 72 rfl d7_70 rfl ?_
  refine go_iaload C X16 AQ (by decide) (v := (.int m1)) rfl (pc' := 73) rfl d7_72 ?_
  refine go_iaload C X16 A1 b1.1 (v := (.int (at32 sz m1))) (ia_at b1.1 (by rw [hl]; exact b1.2)) (pc' := 74) rfl d7_73 ?_
  rw [z1]
  refine go_i2l C X16 75 rfl d7_74 ?_
  refine go_lmul C X16 76 rfl d7_75 ?_
  refine go_lstore C X16 78 rfl d7_76 #[rv a, rv qb, jv (((0 : Int64) + ((1 : Int64) * (t20 - t20))) + (((1 : Int64) * (s0.toInt64)) * (t11 - t11))), sc, jv (((1 : Int64) * (s0.toInt64)) * (s1.toInt64)), sc, iv (1 : Int32), iv (1 : Int32), iv (1 : Int32), iv (1 : Int32)] rfl ?_
  refine go_iload C X16 80 rfl d7_78 rfl ?_
  refine go_iconst C X16 81 rfl d7_80 (z := 1) rfl ?_
  refine go_iaddL C X16 82 rfl d7_81 (z := (2)) rfl ?_
  refine go_istore C X16 84 rfl d7_82 #[rv a, rv qb, jv (((0 : Int64) + ((1 : Int64) * (t20 - t20))) + (((1 : Int64) * (s0.toInt64)) * (t11 - t11))), sc, jv (((1 : Int64) * (s0.toInt64)) * (s1.toInt64)), sc, iv (2 : Int32), iv (1 : Int32), iv (1 : Int32), iv (1 : Int32)] rfl ?_
  refine go_iinc C X16 87 rfl d7_84 rfl (z := 1) rfl #[rv a, rv qb, jv (((0 : Int64) + ((1 : Int64) * (t20 - t20))) + (((1 : Int64) * (s0.toInt64)) * (t11 - t11))), sc, jv (((1 : Int64) * (s0.toInt64)) * (s1.toInt64)), sc, iv (2 : Int32), iv (2 : Int32), iv (1 : Int32), iv (1 : Int32)] rfl ?_
  refine go_goto C X16 d7_87 (pc' := 11) (by decide) (by decide) ?_
  refine go_iload C X16 13 rfl d7_11 rfl ?_
  refine go_aloadN C X16 14 rfl d7_13 rfl rfl ?_
  refine go_alen C X16 AQ (z := (2 : Int32)) rfl (pc' := 15) rfl d7_14 ?_
  refine go_icmp_ge C X16 d7_15 (pc' := 18) (pc2 := 90) rfl (by decide) (by decide) (fun (c15 : 2 ≤ 2) => ?_) (fun (c15 : 2 < 2) => False.elim (by first | omega | exact absurd c15 (by decide)))
  refine go_aloadN C X16 91 rfl d7_90 rfl rfl ?_
  refine go_getF C X16 (C.w 37 rfl) Via.refl F3 (pc' := 94) rfl d7_91 (fun T17 X18 => ?_)
  refine go_lloadN C X18 95 rfl d7_94 rfl ?_
  refine go_ladd C X18 96 rfl d7_95 ?_
  exact go_retJ C X18 d7_96 ⟨rfl, rfl⟩ (by decide) (by decide)
theorem ef_own_bit_2_1 (m : MethodId) (a : Addr) (qb : Addr)  : entryFrame m #[(.ref a), (.ref qb)] 10 = mkF m 0 #[rv a, rv qb, un, un, un, un, un, un, un, un] [] := by
  first | (simp [entryFrame, mkF, argsToLocals, Value.category]; done) | rfl
set_option maxRecDepth 65536 in
set_option maxHeartbeats 40000000 in
theorem own_bit_2_1 (l : Launch) (Z : State) (a0 : Array Value) (hw : ∀ d ∈ tables_1, d.before a0 Z = true) (a : Addr) (qb : Addr) (sb xb ob r0 r1 r2 : Addr) (sz ix : List Int32) (m0 m1 m2 m3 s0 s1 s2 s3 : Int32) (st t00 t01 t02 t03 t04 t10 t11 t12 t13 t14 t20 t21 t22 t23 t24 : Int64) (h : Heap) (n0 : Nat) (hn0 : Old Z n0 h) (F1 : Fld Z h a "com/example/covertide/covertide/engine/ParameterSets" "sizes" "[I" (.ref sb)) (F2 : Fld Z h a "com/example/covertide/covertide/engine/ParameterSets" "indexOf" "[I" (.ref xb)) (F3 : Fld Z h a "com/example/covertide/covertide/engine/ParameterSets" "start" "J" (.long st)) (F4 : Fld Z h a "com/example/covertide/covertide/engine/ParameterSets" "suffixSums" "[[J" (.ref ob)) (A1 : La Z h sb .int (ia sz)) (A2 : La Z h xb .int (ia ix)) (A3 : La Z h ob (.array .long) [(.ref r0), (.ref r1), (.ref r2)]) (AR0 : La Z h r0 .long [(.long t00), (.long t01), (.long t02), (.long t03), (.long t04)]) (AR1 : La Z h r1 .long [(.long t10), (.long t11), (.long t12), (.long t13), (.long t14)]) (AR2 : La Z h r2 .long [(.long t20), (.long t21), (.long t22), (.long t23), (.long t24)]) (AQ : La Z h qb .int [(.int m0), (.int m2)]) (hl : sz.length = 5) (xl : ix.length = 5) (b0 : 0 ≤ m0.toInt ∧ m0.toInt < (5 : Nat)) (z0 : at32 sz m0 = s0) (b1 : 0 ≤ m1.toInt ∧ m1.toInt < (5 : Nat)) (z1 : at32 sz m1 = s1) (b2 : 0 ≤ m2.toInt ∧ m2.toInt < (5 : Nat)) (z2 : at32 sz m2 = s2) (b3 : 0 ≤ m3.toInt ∧ m3.toInt < (5 : Nat)) (z3 : at32 sz m3 = s3) (x0 : at32 ix m0 = 0) (x1 : at32 ix m1 = 1) (x2 : at32 ix m2 = 2) (x3 : at32 ix m3 = 3) :
    Con l Z (⟨"com/example/covertide/covertide/engine/ParameterSets", "bitOf", "([I)J"⟩ : MethodName) prog_10_method_12_code 10 (some .long) ({ frames := 0, cells := 0, slots := 0, locals := 0 } : Room) #[(.ref a), (.ref qb)] h n0 (fun v h' => v = some (.long (st + (((0 : Int64) + ((1 : Int64) * (t20 - t20))) + (((1 : Int64) * s0.toInt64) * (t11 - t12))))) ∧ h = h') := by
  refine con_of hw (plainFor_of_name pn_com_example_covertide_covertide_engine_ParameterSets) hn0 ?_
  intro p e s m below meth c T0 C X0
  refine Go.cast (congrArg T0.setTop (ef_own_bit_2_1 m a qb)) ?_
  refine go_lconst C X0 1 rfl d7_0 (z := 0) rfl ?_
  refine go_lstoreN C X0 2 rfl d7_1 #[rv a, rv qb, jv (0 : Int64), sc, un, un, un, un, un, un] rfl ?_
  refine go_lconst C X0 3 rfl d7_2 (z := 1) rfl ?_
  refine go_lstore C X0 5 rfl d7_3 #[rv a, rv qb, jv (0 : Int64), sc, jv (1 : Int64), sc, un, un, un, un] rfl ?_
  refine go_iconst C X0 6 rfl d7_5 (z := 0) rfl ?_
  refine go_istore C X0 8 rfl d7_6 #[rv a, rv qb, jv (0 : Int64), sc, jv (1 : Int64), sc, iv (0 : Int32), un, un, un] rfl ?_
  refine go_iconst C X0 9 rfl d7_8 (z := 0) rfl ?_
  refine go_istore C X0 11 rfl d7_9 #[rv a, rv qb, jv (0 : Int64), sc, jv (1 : Int64), sc, iv (0 : Int32), iv (0 : Int32), un, un] rfl ?_
  refine go_iload C X0 13 rfl d7_11 rfl ?_
  refine go_aloadN C X0 14 rfl d7_13 rfl rfl ?_
  refine go_alen C X0 AQ (z := (2 : Int32)) rfl (pc' := 15) rfl d7_14 ?_
  refine go_icmp_ge C X0 d7_15 (pc' := 18) (pc2 := 90) rfl (by decide) (by decide) (fun (c15 : 2 ≤ 0) => False.elim (by first | omega | exact absurd c15 (by decide))) (fun (c15 : 0 < 2) => ?_)
  refine go_aloadN C X0 19 rfl d7_18 rfl rfl ?_
  refine go_alen C X0 AQ (z := (2 : Int32)) rfl (pc' := 20) rfl d7_19 ?_
  refine go_iload C X0 22 rfl d7_20 rfl ?_
  refine go_isubL C X0 23 rfl d7_22 (z := (2)) rfl ?_
  refine go_istore C X0 25 rfl d7_23 #[rv a, rv qb, jv (0 : Int64), sc, jv (1 : Int64), sc, iv (0 : Int32), iv (0 : Int32), iv (2 : Int32), un] rfl ?_
  refine go_aloadN C X0 26 rfl d7_25 rfl rfl ?_
  refine go_getF C X0 (C.w 29 rfl) Via.refl F2 (pc' := 29) rfl d7_26 (fun T1 X2 => ?_)
  refine go_aloadN C X2 30 rfl d7_29 rfl rfl ?_
  refine go_iload C X2 32 rfl d7_30 rfl ?_
  refine go_iaload C X2 AQ (by decide) (v := (.int m0)) rfl (pc' := 33) rfl d7_32 ?_
  refine go_iaload C X2 A2 b0.1 (v := (.int (at32 ix m0))) (ia_at b0.1 (by rw [xl]; exact b0.2)) (pc' := 34) rfl d7_33 ?_
  rw [x0]
  refine go_istore C X2 36 rfl d7_34 #[rv a, rv qb, jv (0 : Int64), sc, jv (1 : Int64), sc, iv (0 : Int32), iv (0 : Int32), iv (2 : Int32), iv (0 : Int32)] rfl ?_
  refine go_lloadN C X2 37 rfl d7_36 rfl ?_
  refine go_lload C X2 39 rfl d7_37 rfl ?_
  refine go_aloadN C X2 40 rfl d7_39 rfl rfl ?_
  refine go_getF C X2 (C.w 49 rfl) Via.refl F4 (pc' := 43) rfl d7_40 (fun T3 X4 => ?_)
  refine go_iload C X4 45 rfl d7_43 rfl ?_
  refine go_aaload C X4 A3 rfl (by decide) (v := (.ref r2)) rfl (pc' := 46) rfl d7_45 ?_
  refine go_iload C X4 48 rfl d7_46 rfl ?_
  refine go_laload C X4 AR2 (by decide) (v := (.long t20)) rfl (pc' := 49) rfl d7_48 ?_
  refine go_aloadN C X4 50 rfl d7_49 rfl rfl ?_
  refine go_getF C X4 (C.w 49 rfl) Via.refl F4 (pc' := 53) rfl d7_50 (fun T5 X6 => ?_)
  refine go_iload C X6 55 rfl d7_53 rfl ?_
  refine go_aaload C X6 A3 rfl (by decide) (v := (.ref r2)) rfl (pc' := 56) rfl d7_55 ?_
  refine go_iload C X6 58 rfl d7_56 rfl ?_
  refine go_laload C X6 AR2 (by decide) (v := (.long t20)) rfl (pc' := 59) rfl d7_58 ?_
  refine go_lsub C X6 60 rfl d7_59 ?_
  refine go_lmul C X6 61 rfl d7_60 ?_
  refine go_ladd C X6 62 rfl d7_61 ?_
  refine go_lstoreN C X6 63 rfl d7_62 #[rv a, rv qb, jv ((0 : Int64) + ((1 : Int64) * (t20 - t20))), sc, jv (1 : Int64), sc, iv (0 : Int32), iv (0 : Int32), iv (2 : Int32), iv (0 : Int32)] rfl ?_
  refine go_lload C X6 65 rfl d7_63 rfl ?_
  refine go_aloadN C X6 66 rfl d7_65 rfl rfl ?_
  refine go_getF C X6 (C.w 16 rfl) Via.refl F1 (pc' := 69) rfl d7_66 (fun T7 X8 => ?_)
  refine go_aloadN C X8 70 rfl d7_69 rfl rfl ?_
  refine go_iload C X8 72 rfl d7_70 rfl ?_
  refine go_iaload C X8 AQ (by decide) (v := (.int m0)) rfl (pc' := 73) rfl d7_72 ?_
  refine go_iaload C X8 A1 b0.1 (v := (.int (at32 sz m0))) (ia_at b0.1 (by rw [hl]; exact b0.2)) (pc' := 74) rfl d7_73 ?_
  rw [z0]
  refine go_i2l C X8 75 rfl d7_74 ?_
  refine go_lmul C X8 76 rfl d7_75 ?_
  refine go_lstore C X8 78 rfl d7_76 #[rv a, rv qb, jv ((0 : Int64) + ((1 : Int64) * (t20 - t20))), sc, jv ((1 : Int64) * (s0.toInt64)), sc, iv (0 : Int32), iv (0 : Int32), iv (2 : Int32), iv (0 : Int32)] rfl ?_
  refine go_iload C X8 80 rfl d7_78 rfl ?_
  refine go_iconst C X8 81 rfl d7_80 (z := 1) rfl ?_
  refine go_iaddL C X8 82 rfl d7_81 (z := (1)) rfl ?_
  refine go_istore C X8 84 rfl d7_82 #[rv a, rv qb, jv ((0 : Int64) + ((1 : Int64) * (t20 - t20))), sc, jv ((1 : Int64) * (s0.toInt64)), sc, iv (1 : Int32), iv (0 : Int32), iv (2 : Int32), iv (0 : Int32)] rfl ?_
  refine go_iinc C X8 87 rfl d7_84 rfl (z := 1) rfl #[rv a, rv qb, jv ((0 : Int64) + ((1 : Int64) * (t20 - t20))), sc, jv ((1 : Int64) * (s0.toInt64)), sc, iv (1 : Int32), iv (1 : Int32), iv (2 : Int32), iv (0 : Int32)] rfl ?_
  refine go_goto C X8 d7_87 (pc' := 11) (by decide) (by decide) ?_
  refine go_iload C X8 13 rfl d7_11 rfl ?_
  refine go_aloadN C X8 14 rfl d7_13 rfl rfl ?_
  refine go_alen C X8 AQ (z := (2 : Int32)) rfl (pc' := 15) rfl d7_14 ?_
  refine go_icmp_ge C X8 d7_15 (pc' := 18) (pc2 := 90) rfl (by decide) (by decide) (fun (c15 : 2 ≤ 1) => False.elim (by first | omega | exact absurd c15 (by decide))) (fun (c15 : 1 < 2) => ?_)
  refine go_aloadN C X8 19 rfl d7_18 rfl rfl ?_
  refine go_alen C X8 AQ (z := (2 : Int32)) rfl (pc' := 20) rfl d7_19 ?_
  refine go_iload C X8 22 rfl d7_20 rfl ?_
  refine go_isubL C X8 23 rfl d7_22 (z := (1)) rfl ?_
  refine go_istore C X8 25 rfl d7_23 #[rv a, rv qb, jv ((0 : Int64) + ((1 : Int64) * (t20 - t20))), sc, jv ((1 : Int64) * (s0.toInt64)), sc, iv (1 : Int32), iv (1 : Int32), iv (1 : Int32), iv (0 : Int32)] rfl ?_
  refine go_aloadN C X8 26 rfl d7_25 rfl rfl ?_
  refine go_getF C X8 (C.w 29 rfl) Via.refl F2 (pc' := 29) rfl d7_26 (fun T9 X10 => ?_)
  refine go_aloadN C X10 30 rfl d7_29 rfl rfl ?_
  refine go_iload C X10 32 rfl d7_30 rfl ?_
  refine go_iaload C X10 AQ (by decide) (v := (.int m2)) rfl (pc' := 33) rfl d7_32 ?_
  refine go_iaload C X10 A2 b2.1 (v := (.int (at32 ix m2))) (ia_at b2.1 (by rw [xl]; exact b2.2)) (pc' := 34) rfl d7_33 ?_
  rw [x2]
  refine go_istore C X10 36 rfl d7_34 #[rv a, rv qb, jv ((0 : Int64) + ((1 : Int64) * (t20 - t20))), sc, jv ((1 : Int64) * (s0.toInt64)), sc, iv (1 : Int32), iv (1 : Int32), iv (1 : Int32), iv (2 : Int32)] rfl ?_
  refine go_lloadN C X10 37 rfl d7_36 rfl ?_
  refine go_lload C X10 39 rfl d7_37 rfl ?_
  refine go_aloadN C X10 40 rfl d7_39 rfl rfl ?_
  refine go_getF C X10 (C.w 49 rfl) Via.refl F4 (pc' := 43) rfl d7_40 (fun T11 X12 => ?_)
  refine go_iload C X12 45 rfl d7_43 rfl ?_
  refine go_aaload C X12 A3 rfl (by decide) (v := (.ref r1)) rfl (pc' := 46) rfl d7_45 ?_
  refine go_iload C X12 48 rfl d7_46 rfl ?_
  refine go_laload C X12 AR1 (by decide) (v := (.long t11)) rfl (pc' := 49) rfl d7_48 ?_
  refine go_aloadN C X12 50 rfl d7_49 rfl rfl ?_
  refine go_getF C X12 (C.w 49 rfl) Via.refl F4 (pc' := 53) rfl d7_50 (fun T13 X14 => ?_)
  refine go_iload C X14 55 rfl d7_53 rfl ?_
  refine go_aaload C X14 A3 rfl (by decide) (v := (.ref r1)) rfl (pc' := 56) rfl d7_55 ?_
  refine go_iload C X14 58 rfl d7_56 rfl ?_
  refine go_laload C X14 AR1 (by decide) (v := (.long t12)) rfl (pc' := 59) rfl d7_58 ?_
  refine go_lsub C X14 60 rfl d7_59 ?_
  refine go_lmul C X14 61 rfl d7_60 ?_
  refine go_ladd C X14 62 rfl d7_61 ?_
  refine go_lstoreN C X14 63 rfl d7_62 #[rv a, rv qb, jv (((0 : Int64) + ((1 : Int64) * (t20 - t20))) + (((1 : Int64) * (s0.toInt64)) * (t11 - t12))), sc, jv ((1 : Int64) * (s0.toInt64)), sc, iv (1 : Int32), iv (1 : Int32), iv (1 : Int32), iv (2 : Int32)] rfl ?_
  refine go_lload C X14 65 rfl d7_63 rfl ?_
  refine go_aloadN C X14 66 rfl d7_65 rfl rfl ?_
  refine go_getF C X14 (C.w 16 rfl) Via.refl F1 (pc' := 69) rfl d7_66 (fun T15 X16 => ?_)
  refine go_aloadN C X16 70 rfl d7_69 rfl rfl ?_
  refine go_iload C X16 72 rfl d7_70 rfl ?_
  refine go_iaload C X16 AQ (by decide) (v := (.int m2)) rfl (pc' := 73) rfl d7_72 ?_
  refine go_iaload C X16 A1 b2.1 (v := (.int (at32 sz m2))) (ia_at b2.1 (by rw [hl]; exact b2.2)) (pc' := 74) rfl d7_73 ?_
  rw [z2]
  refine go_i2l C X16 75 rfl d7_74 ?_
  refine go_lmul C X16 76 rfl d7_75 ?_
  refine go_lstore C X16 78 rfl d7_76 #[rv a, rv qb, jv (((0 : Int64) + ((1 : Int64) * (t20 - t20))) + (((1 : Int64) * (s0.toInt64)) * (t11 - t12))), sc, jv (((1 : Int64) * (s0.toInt64)) * (s2.toInt64)), sc, iv (1 : Int32), iv (1 : Int32), iv (1 : Int32), iv (2 : Int32)] rfl ?_
  refine go_iload C X16 80 rfl d7_78 rfl ?_
  refine go_iconst C X16 81 rfl d7_80 (z := 1) rfl ?_
  refine go_iaddL C X16 82 rfl d7_81 (z := (3)) rfl ?_
  refine go_istore C X16 84 rfl d7_82 #[rv a, rv qb, jv (((0 : Int64) + ((1 : Int64) * (t20 - t20))) + (((1 : Int64) * (s0.toInt64)) * (t11 - t12))), sc, jv (((1 : Int64) * (s0.toInt64)) * (s2.toInt64)), sc, iv (3 : Int32), iv (1 : Int32), iv (1 : Int32), iv (2 : Int32)] rfl ?_
  refine go_iinc C X16 87 rfl d7_84 rfl (z := 1) rfl #[rv a, rv qb, jv (((0 : Int64) + ((1 : Int64) * (t20 - t20))) + (((1 : Int64) * (s0.toInt64)) * (t11 - t12))), sc, jv (((1 : Int64) * (s0.toInt64)) * (s2.toInt64)), sc, iv (3 : Int32), iv (2 : Int32), iv (1 : Int32), iv (2 : Int32)] rfl ?_
  refine go_goto C X16 d7_87 (pc' := 11) (by decide) (by decide) ?_
  refine go_iload C X16 13 rfl d7_11 rfl ?_
  refine go_aloadN C X16 14 rfl d7_13 rfl rfl ?_
  refine go_alen C X16 AQ (z := (2 : Int32)) rfl (pc' := 15) rfl d7_14 ?_
  refine go_icmp_ge C X16 d7_15 (pc' := 18) (pc2 := 90) rfl (by decide) (by decide) (fun (c15 : 2 ≤ 2) => ?_) (fun (c15 : 2 < 2) => False.elim (by first | omega | exact absurd c15 (by decide)))
  refine go_aloadN C X16 91 rfl d7_90 rfl rfl ?_
  refine go_getF C X16 (C.w 37 rfl) Via.refl F3 (pc' := 94) rfl d7_91 (fun T17 X18 => ?_)
  refine go_lloadN C X18 95 rfl d7_94 rfl ?_
  refine go_ladd C X18 96 rfl d7_95 ?_
  exact go_retJ C X18 d7_96 ⟨rfl, rfl⟩ (by decide) (by decide)
theorem ef_own_bit_2_2 (m : MethodId) (a : Addr) (qb : Addr)  : entryFrame m #[(.ref a), (.ref qb)] 10 = mkF m 0 #[rv a, rv qb, un, un, un, un, un, un, un, un] [] := by
  first | (simp [entryFrame, mkF, argsToLocals, Value.category]; done) | rfl
set_option maxRecDepth 65536 in
set_option maxHeartbeats 40000000 in
theorem own_bit_2_2 (l : Launch) (Z : State) (a0 : Array Value) (hw : ∀ d ∈ tables_1, d.before a0 Z = true) (a : Addr) (qb : Addr) (sb xb ob r0 r1 r2 : Addr) (sz ix : List Int32) (m0 m1 m2 m3 s0 s1 s2 s3 : Int32) (st t00 t01 t02 t03 t04 t10 t11 t12 t13 t14 t20 t21 t22 t23 t24 : Int64) (h : Heap) (n0 : Nat) (hn0 : Old Z n0 h) (F1 : Fld Z h a "com/example/covertide/covertide/engine/ParameterSets" "sizes" "[I" (.ref sb)) (F2 : Fld Z h a "com/example/covertide/covertide/engine/ParameterSets" "indexOf" "[I" (.ref xb)) (F3 : Fld Z h a "com/example/covertide/covertide/engine/ParameterSets" "start" "J" (.long st)) (F4 : Fld Z h a "com/example/covertide/covertide/engine/ParameterSets" "suffixSums" "[[J" (.ref ob)) (A1 : La Z h sb .int (ia sz)) (A2 : La Z h xb .int (ia ix)) (A3 : La Z h ob (.array .long) [(.ref r0), (.ref r1), (.ref r2)]) (AR0 : La Z h r0 .long [(.long t00), (.long t01), (.long t02), (.long t03), (.long t04)]) (AR1 : La Z h r1 .long [(.long t10), (.long t11), (.long t12), (.long t13), (.long t14)]) (AR2 : La Z h r2 .long [(.long t20), (.long t21), (.long t22), (.long t23), (.long t24)]) (AQ : La Z h qb .int [(.int m0), (.int m3)]) (hl : sz.length = 5) (xl : ix.length = 5) (b0 : 0 ≤ m0.toInt ∧ m0.toInt < (5 : Nat)) (z0 : at32 sz m0 = s0) (b1 : 0 ≤ m1.toInt ∧ m1.toInt < (5 : Nat)) (z1 : at32 sz m1 = s1) (b2 : 0 ≤ m2.toInt ∧ m2.toInt < (5 : Nat)) (z2 : at32 sz m2 = s2) (b3 : 0 ≤ m3.toInt ∧ m3.toInt < (5 : Nat)) (z3 : at32 sz m3 = s3) (x0 : at32 ix m0 = 0) (x1 : at32 ix m1 = 1) (x2 : at32 ix m2 = 2) (x3 : at32 ix m3 = 3) :
    Con l Z (⟨"com/example/covertide/covertide/engine/ParameterSets", "bitOf", "([I)J"⟩ : MethodName) prog_10_method_12_code 10 (some .long) ({ frames := 0, cells := 0, slots := 0, locals := 0 } : Room) #[(.ref a), (.ref qb)] h n0 (fun v h' => v = some (.long (st + (((0 : Int64) + ((1 : Int64) * (t20 - t20))) + (((1 : Int64) * s0.toInt64) * (t11 - t13))))) ∧ h = h') := by
  refine con_of hw (plainFor_of_name pn_com_example_covertide_covertide_engine_ParameterSets) hn0 ?_
  intro p e s m below meth c T0 C X0
  refine Go.cast (congrArg T0.setTop (ef_own_bit_2_2 m a qb)) ?_
  refine go_lconst C X0 1 rfl d7_0 (z := 0) rfl ?_
  refine go_lstoreN C X0 2 rfl d7_1 #[rv a, rv qb, jv (0 : Int64), sc, un, un, un, un, un, un] rfl ?_
  refine go_lconst C X0 3 rfl d7_2 (z := 1) rfl ?_
  refine go_lstore C X0 5 rfl d7_3 #[rv a, rv qb, jv (0 : Int64), sc, jv (1 : Int64), sc, un, un, un, un] rfl ?_
  refine go_iconst C X0 6 rfl d7_5 (z := 0) rfl ?_
  refine go_istore C X0 8 rfl d7_6 #[rv a, rv qb, jv (0 : Int64), sc, jv (1 : Int64), sc, iv (0 : Int32), un, un, un] rfl ?_
  refine go_iconst C X0 9 rfl d7_8 (z := 0) rfl ?_
  refine go_istore C X0 11 rfl d7_9 #[rv a, rv qb, jv (0 : Int64), sc, jv (1 : Int64), sc, iv (0 : Int32), iv (0 : Int32), un, un] rfl ?_
  refine go_iload C X0 13 rfl d7_11 rfl ?_
  refine go_aloadN C X0 14 rfl d7_13 rfl rfl ?_
  refine go_alen C X0 AQ (z := (2 : Int32)) rfl (pc' := 15) rfl d7_14 ?_
  refine go_icmp_ge C X0 d7_15 (pc' := 18) (pc2 := 90) rfl (by decide) (by decide) (fun (c15 : 2 ≤ 0) => False.elim (by first | omega | exact absurd c15 (by decide))) (fun (c15 : 0 < 2) => ?_)
  refine go_aloadN C X0 19 rfl d7_18 rfl rfl ?_
  refine go_alen C X0 AQ (z := (2 : Int32)) rfl (pc' := 20) rfl d7_19 ?_
  refine go_iload C X0 22 rfl d7_20 rfl ?_
  refine go_isubL C X0 23 rfl d7_22 (z := (2)) rfl ?_
  refine go_istore C X0 25 rfl d7_23 #[rv a, rv qb, jv (0 : Int64), sc, jv (1 : Int64), sc, iv (0 : Int32), iv (0 : Int32), iv (2 : Int32), un] rfl ?_
  refine go_aloadN C X0 26 rfl d7_25 rfl rfl ?_
  refine go_getF C X0 (C.w 29 rfl) Via.refl F2 (pc' := 29) rfl d7_26 (fun T1 X2 => ?_)
  refine go_aloadN C X2 30 rfl d7_29 rfl rfl ?_
  refine go_iload C X2 32 rfl d7_30 rfl ?_
  refine go_iaload C X2 AQ (by decide) (v := (.int m0)) rfl (pc' := 33) rfl d7_32 ?_
  refine go_iaload C X2 A2 b0.1 (v := (.int (at32 ix m0))) (ia_at b0.1 (by rw [xl]; exact b0.2)) (pc' := 34) rfl d7_33 ?_
  rw [x0]
  refine go_istore C X2 36 rfl d7_34 #[rv a, rv qb, jv (0 : Int64), sc, jv (1 : Int64), sc, iv (0 : Int32), iv (0 : Int32), iv (2 : Int32), iv (0 : Int32)] rfl ?_
  refine go_lloadN C X2 37 rfl d7_36 rfl ?_
  refine go_lload C X2 39 rfl d7_37 rfl ?_
  refine go_aloadN C X2 40 rfl d7_39 rfl rfl ?_
  refine go_getF C X2 (C.w 49 rfl) Via.refl F4 (pc' := 43) rfl d7_40 (fun T3 X4 => ?_)
  refine go_iload C X4 45 rfl d7_43 rfl ?_
  refine go_aaload C X4 A3 rfl (by decide) (v := (.ref r2)) rfl (pc' := 46) rfl d7_45 ?_
  refine go_iload C X4 48 rfl d7_46 rfl ?_
  refine go_laload C X4 AR2 (by decide) (v := (.long t20)) rfl (pc' := 49) rfl d7_48 ?_
  refine go_aloadN C X4 50 rfl d7_49 rfl rfl ?_
  refine go_getF C X4 (C.w 49 rfl) Via.refl F4 (pc' := 53) rfl d7_50 (fun T5 X6 => ?_)
  refine go_iload C X6 55 rfl d7_53 rfl ?_
  refine go_aaload C X6 A3 rfl (by decide) (v := (.ref r2)) rfl (pc' := 56) rfl d7_55 ?_
  refine go_iload C X6 58 rfl d7_56 rfl ?_
  refine go_laload C X6 AR2 (by decide) (v := (.long t20)) rfl (pc' := 59) rfl d7_58 ?_
  refine go_lsub C X6 60 rfl d7_59 ?_
  refine go_lmul C X6 61 rfl d7_60 ?_
  refine go_ladd C X6 62 rfl d7_61 ?_
  refine go_lstoreN C X6 63 rfl d7_62 #[rv a, rv qb, jv ((0 : Int64) + ((1 : Int64) * (t20 - t20))), sc, jv (1 : Int64), sc, iv (0 : Int32), iv (0 : Int32), iv (2 : Int32), iv (0 : Int32)] rfl ?_
  refine go_lload C X6 65 rfl d7_63 rfl ?_
  refine go_aloadN C X6 66 rfl d7_65 rfl rfl ?_
  refine go_getF C X6 (C.w 16 rfl) Via.refl F1 (pc' := 69) rfl d7_66 (fun T7 X8 => ?_)
  refine go_aloadN C X8 70 rfl d7_69 rfl rfl ?_
  refine go_iload C X8 72 rfl d7_70 rfl ?_
  refine go_iaload C X8 AQ (by decide) (v := (.int m0)) rfl (pc' := 73) rfl d7_72 ?_
  refine go_iaload C X8 A1 b0.1 (v := (.int (at32 sz m0))) (ia_at b0.1 (by rw [hl]; exact b0.2)) (pc' := 74) rfl d7_73 ?_
  rw [z0]
  refine go_i2l C X8 75 rfl d7_74 ?_
  refine go_lmul C X8 76 rfl d7_75 ?_
  refine go_lstore C X8 78 rfl d7_76 #[rv a, rv qb, jv ((0 : Int64) + ((1 : Int64) * (t20 - t20))), sc, jv ((1 : Int64) * (s0.toInt64)), sc, iv (0 : Int32), iv (0 : Int32), iv (2 : Int32), iv (0 : Int32)] rfl ?_
  refine go_iload C X8 80 rfl d7_78 rfl ?_
  refine go_iconst C X8 81 rfl d7_80 (z := 1) rfl ?_
  refine go_iaddL C X8 82 rfl d7_81 (z := (1)) rfl ?_
  refine go_istore C X8 84 rfl d7_82 #[rv a, rv qb, jv ((0 : Int64) + ((1 : Int64) * (t20 - t20))), sc, jv ((1 : Int64) * (s0.toInt64)), sc, iv (1 : Int32), iv (0 : Int32), iv (2 : Int32), iv (0 : Int32)] rfl ?_
  refine go_iinc C X8 87 rfl d7_84 rfl (z := 1) rfl #[rv a, rv qb, jv ((0 : Int64) + ((1 : Int64) * (t20 - t20))), sc, jv ((1 : Int64) * (s0.toInt64)), sc, iv (1 : Int32), iv (1 : Int32), iv (2 : Int32), iv (0 : Int32)] rfl ?_
  refine go_goto C X8 d7_87 (pc' := 11) (by decide) (by decide) ?_
  refine go_iload C X8 13 rfl d7_11 rfl ?_
  refine go_aloadN C X8 14 rfl d7_13 rfl rfl ?_
  refine go_alen C X8 AQ (z := (2 : Int32)) rfl (pc' := 15) rfl d7_14 ?_
  refine go_icmp_ge C X8 d7_15 (pc' := 18) (pc2 := 90) rfl (by decide) (by decide) (fun (c15 : 2 ≤ 1) => False.elim (by first | omega | exact absurd c15 (by decide))) (fun (c15 : 1 < 2) => ?_)
  refine go_aloadN C X8 19 rfl d7_18 rfl rfl ?_
  refine go_alen C X8 AQ (z := (2 : Int32)) rfl (pc' := 20) rfl d7_19 ?_
  refine go_iload C X8 22 rfl d7_20 rfl ?_
  refine go_isubL C X8 23 rfl d7_22 (z := (1)) rfl ?_
  refine go_istore C X8 25 rfl d7_23 #[rv a, rv qb, jv ((0 : Int64) + ((1 : Int64) * (t20 - t20))), sc, jv ((1 : Int64) * (s0.toInt64)), sc, iv (1 : Int32), iv (1 : Int32), iv (1 : Int32), iv (0 : Int32)] rfl ?_
  refine go_aloadN C X8 26 rfl d7_25 rfl rfl ?_
  refine go_getF C X8 (C.w 29 rfl) Via.refl F2 (pc' := 29) rfl d7_26 (fun T9 X10 => ?_)
  refine go_aloadN C X10 30 rfl d7_29 rfl rfl ?_
  refine go_iload C X10 32 rfl d7_30 rfl ?_
  refine go_iaload C X10 AQ (by decide) (v := (.int m3)) rfl (pc' := 33) rfl d7_32 ?_
  refine go_iaload C X10 A2 b3.1 (v := (.int (at32 ix m3))) (ia_at b3.1 (by rw [xl]; exact b3.2)) (pc' := 34) rfl d7_33 ?_
  rw [x3]
  refine go_istore C X10 36 rfl d7_34 #[rv a, rv qb, jv ((0 : Int64) + ((1 : Int64) * (t20 - t20))), sc, jv ((1 : Int64) * (s0.toInt64)), sc, iv (1 : Int32), iv (1 : Int32), iv (1 : Int32), iv (3 : Int32)] rfl ?_
  refine go_lloadN C X10 37 rfl d7_36 rfl ?_
  refine go_lload C X10 39 rfl d7_37 rfl ?_
  refine go_aloadN C X10 40 rfl d7_39 rfl rfl ?_
  refine go_getF C X10 (C.w 49 rfl) Via.refl F4 (pc' := 43) rfl d7_40 (fun T11 X12 => ?_)
  refine go_iload C X12 45 rfl d7_43 rfl ?_
  refine go_aaload C X12 A3 rfl (by decide) (v := (.ref r1)) rfl (pc' := 46) rfl d7_45 ?_
  refine go_iload C X12 48 rfl d7_46 rfl ?_
  refine go_laload C X12 AR1 (by decide) (v := (.long t11)) rfl (pc' := 49) rfl d7_48 ?_
  refine go_aloadN C X12 50 rfl d7_49 rfl rfl ?_
  refine go_getF C X12 (C.w 49 rfl) Via.refl F4 (pc' := 53) rfl d7_50 (fun T13 X14 => ?_)
  refine go_iload C X14 55 rfl d7_53 rfl ?_
  refine go_aaload C X14 A3 rfl (by decide) (v := (.ref r1)) rfl (pc' := 56) rfl d7_55 ?_
  refine go_iload C X14 58 rfl d7_56 rfl ?_
  refine go_laload C X14 AR1 (by decide) (v := (.long t13)) rfl (pc' := 59) rfl d7_58 ?_
  refine go_lsub C X14 60 rfl d7_59 ?_
  refine go_lmul C X14 61 rfl d7_60 ?_
  refine go_ladd C X14 62 rfl d7_61 ?_
  refine go_lstoreN C X14 63 rfl d7_62 #[rv a, rv qb, jv (((0 : Int64) + ((1 : Int64) * (t20 - t20))) + (((1 : Int64) * (s0.toInt64)) * (t11 - t13))), sc, jv ((1 : Int64) * (s0.toInt64)), sc, iv (1 : Int32), iv (1 : Int32), iv (1 : Int32), iv (3 : Int32)] rfl ?_
  refine go_lload C X14 65 rfl d7_63 rfl ?_
  refine go_aloadN C X14 66 rfl d7_65 rfl rfl ?_
  refine go_getF C X14 (C.w 16 rfl) Via.refl F1 (pc' := 69) rfl d7_66 (fun T15 X16 => ?_)
  refine go_aloadN C X16 70 rfl d7_69 rfl rfl ?_
  refine go_iload C X16 72 rfl d7_70 rfl ?_
  refine go_iaload C X16 AQ (by decide) (v := (.int m3)) rfl (pc' := 73) rfl d7_72 ?_
  refine go_iaload C X16 A1 b3.1 (v := (.int (at32 sz m3))) (ia_at b3.1 (by rw [hl]; exact b3.2)) (pc' := 74) rfl d7_73 ?_
  rw [z3]
  refine go_i2l C X16 75 rfl d7_74 ?_
  refine go_lmul C X16 76 rfl d7_75 ?_
  refine go_lstore C X16 78 rfl d7_76 #[rv a, rv qb, jv (((0 : Int64) + ((1 : Int64) * (t20 - t20))) + (((1 : Int64) * (s0.toInt64)) * (t11 - t13))), sc, jv (((1 : Int64) * (s0.toInt64)) * (s3.toInt64)), sc, iv (1 : Int32), iv (1 : Int32), iv (1 : Int32), iv (3 : Int32)] rfl ?_
  refine go_iload C X16 80 rfl d7_78 rfl ?_
  refine go_iconst C X16 81 rfl d7_80 (z := 1) rfl ?_
  refine go_iaddL C X16 82 rfl d7_81 (z := (4)) rfl ?_
  refine go_istore C X16 84 rfl d7_82 #[rv a, rv qb, jv (((0 : Int64) + ((1 : Int64) * (t20 - t20))) + (((1 : Int64) * (s0.toInt64)) * (t11 - t13))), sc, jv (((1 : Int64) * (s0.toInt64)) * (s3.toInt64)), sc, iv (4 : Int32), iv (1 : Int32), iv (1 : Int32), iv (3 : Int32)] rfl ?_
  refine go_iinc C X16 87 rfl d7_84 rfl (z := 1) rfl #[rv a, rv qb, jv (((0 : Int64) + ((1 : Int64) * (t20 - t20))) + (((1 : Int64) * (s0.toInt64)) * (t11 - t13))), sc, jv (((1 : Int64) * (s0.toInt64)) * (s3.toInt64)), sc, iv (4 : Int32), iv (2 : Int32), iv (1 : Int32), iv (3 : Int32)] rfl ?_
  refine go_goto C X16 d7_87 (pc' := 11) (by decide) (by decide) ?_
  refine go_iload C X16 13 rfl d7_11 rfl ?_
  refine go_aloadN C X16 14 rfl d7_13 rfl rfl ?_
  refine go_alen C X16 AQ (z := (2 : Int32)) rfl (pc' := 15) rfl d7_14 ?_
  refine go_icmp_ge C X16 d7_15 (pc' := 18) (pc2 := 90) rfl (by decide) (by decide) (fun (c15 : 2 ≤ 2) => ?_) (fun (c15 : 2 < 2) => False.elim (by first | omega | exact absurd c15 (by decide)))
  refine go_aloadN C X16 91 rfl d7_90 rfl rfl ?_
  refine go_getF C X16 (C.w 37 rfl) Via.refl F3 (pc' := 94) rfl d7_91 (fun T17 X18 => ?_)
  refine go_lloadN C X18 95 rfl d7_94 rfl ?_
  refine go_ladd C X18 96 rfl d7_95 ?_
  exact go_retJ C X18 d7_96 ⟨rfl, rfl⟩ (by decide) (by decide)
theorem ef_own_bit_2_3 (m : MethodId) (a : Addr) (qb : Addr)  : entryFrame m #[(.ref a), (.ref qb)] 10 = mkF m 0 #[rv a, rv qb, un, un, un, un, un, un, un, un] [] := by
  first | (simp [entryFrame, mkF, argsToLocals, Value.category]; done) | rfl
set_option maxRecDepth 65536 in
set_option maxHeartbeats 40000000 in
theorem own_bit_2_3 (l : Launch) (Z : State) (a0 : Array Value) (hw : ∀ d ∈ tables_1, d.before a0 Z = true) (a : Addr) (qb : Addr) (sb xb ob r0 r1 r2 : Addr) (sz ix : List Int32) (m0 m1 m2 m3 s0 s1 s2 s3 : Int32) (st t00 t01 t02 t03 t04 t10 t11 t12 t13 t14 t20 t21 t22 t23 t24 : Int64) (h : Heap) (n0 : Nat) (hn0 : Old Z n0 h) (F1 : Fld Z h a "com/example/covertide/covertide/engine/ParameterSets" "sizes" "[I" (.ref sb)) (F2 : Fld Z h a "com/example/covertide/covertide/engine/ParameterSets" "indexOf" "[I" (.ref xb)) (F3 : Fld Z h a "com/example/covertide/covertide/engine/ParameterSets" "start" "J" (.long st)) (F4 : Fld Z h a "com/example/covertide/covertide/engine/ParameterSets" "suffixSums" "[[J" (.ref ob)) (A1 : La Z h sb .int (ia sz)) (A2 : La Z h xb .int (ia ix)) (A3 : La Z h ob (.array .long) [(.ref r0), (.ref r1), (.ref r2)]) (AR0 : La Z h r0 .long [(.long t00), (.long t01), (.long t02), (.long t03), (.long t04)]) (AR1 : La Z h r1 .long [(.long t10), (.long t11), (.long t12), (.long t13), (.long t14)]) (AR2 : La Z h r2 .long [(.long t20), (.long t21), (.long t22), (.long t23), (.long t24)]) (AQ : La Z h qb .int [(.int m1), (.int m2)]) (hl : sz.length = 5) (xl : ix.length = 5) (b0 : 0 ≤ m0.toInt ∧ m0.toInt < (5 : Nat)) (z0 : at32 sz m0 = s0) (b1 : 0 ≤ m1.toInt ∧ m1.toInt < (5 : Nat)) (z1 : at32 sz m1 = s1) (b2 : 0 ≤ m2.toInt ∧ m2.toInt < (5 : Nat)) (z2 : at32 sz m2 = s2) (b3 : 0 ≤ m3.toInt ∧ m3.toInt < (5 : Nat)) (z3 : at32 sz m3 = s3) (x0 : at32 ix m0 = 0) (x1 : at32 ix m1 = 1) (x2 : at32 ix m2 = 2) (x3 : at32 ix m3 = 3) :
    Con l Z (⟨"com/example/covertide/covertide/engine/ParameterSets", "bitOf", "([I)J"⟩ : MethodName) prog_10_method_12_code 10 (some .long) ({ frames := 0, cells := 0, slots := 0, locals := 0 } : Room) #[(.ref a), (.ref qb)] h n0 (fun v h' => v = some (.long (st + (((0 : Int64) + ((1 : Int64) * (t20 - t21))) + (((1 : Int64) * s1.toInt64) * (t12 - t12))))) ∧ h = h') := by
  refine con_of hw (plainFor_of_name pn_com_example_covertide_covertide_engine_ParameterSets) hn0 ?_
  intro p e s m below meth c T0 C X0
  refine Go.cast (congrArg T0.setTop (ef_own_bit_2_3 m a qb)) ?_
  refine go_lconst C X0 1 rfl d7_0 (z := 0) rfl ?_
  refine go_lstoreN C X0 2 rfl d7_1 #[rv a, rv qb, jv (0 : Int64), sc, un, un, un, un, un, un] rfl ?_
  refine go_lconst C X0 3 rfl d7_2 (z := 1) rfl ?_
  refine go_lstore C X0 5 rfl d7_3 #[rv a, rv qb, jv (0 : Int64), sc, jv (1 : Int64), sc, un, un, un, un] rfl ?_
  refine go_iconst C X0 6 rfl d7_5 (z := 0) rfl ?_
  refine go_istore C X0 8 rfl d7_6 #[rv a, rv qb, jv (0 : Int64), sc, jv (1 : Int64), sc, iv (0 : Int32), un, un, un] rfl ?_
  refine go_iconst C X0 9 rfl d7_8 (z := 0) rfl ?_
  refine go_istore C X0 11 rfl d7_9 #[rv a, rv qb, jv (0 : Int64), sc, jv (1 : Int64), sc, iv (0 : Int32), iv (0 : Int32), un, un] rfl ?_
  refine go_iload C X0 13 rfl d7_11 rfl ?_
  refine go_aloadN C X0 14 rfl d7_13 rfl rfl ?_
  refine go_alen C X0 AQ (z := (2 : Int32)) rfl (pc' := 15) rfl d7_14 ?_
  refine go_icmp_ge C X0 d7_15 (pc' := 18) (pc2 := 90) rfl (by decide) (by decide) (fun (c15 : 2 ≤ 0) => False.elim (by first | omega | exact absurd c15 (by decide))) (fun (c15 : 0 < 2) => ?_)
  refine go_aloadN C X0 19 rfl d7_18 rfl rfl ?_
  refine go_alen C X0 AQ (z := (2 : Int32)) rfl (pc' := 20) rfl d7_19 ?_
  refine go_iload C X0 22 rfl d7_20 rfl ?_
  refine go_isubL C X0 23 rfl d7_22 (z := (2)) rfl ?_
  refine go_istore C X0 25 rfl d7_23 #[rv a, rv qb, jv (0 : Int64), sc, jv (1 : Int64), sc, iv (0 : Int32), iv (0 : Int32), iv (2 : Int32), un] rfl ?_
  refine go_aloadN C X0 26 rfl d7_25 rfl rfl ?_
  refine go_getF C X0 (C.w 29 rfl) Via.refl F2 (pc' := 29) rfl d7_26 (fun T1 X2 => ?_)
  refine go_aloadN C X2 30 rfl d7_29 rfl rfl ?_
  refine go_iload C X2 32 rfl d7_30 rfl ?_
  refine go_iaload C X2 AQ (by decide) (v := (.int m1)) rfl (pc' := 33) rfl d7_32 ?_
  refine go_iaload C X2 A2 b1.1 (v := (.int (at32 ix m1))) (ia_at b1.1 (by rw [xl]; exact b1.2)) (pc' := 34) rfl d7_33 ?_
  rw [x1]
  refine go_istore C X2 36 rfl d7_34 #[rv a, rv qb, jv (0 : Int64), sc, jv (1 : Int64), sc, iv (0 : Int32), iv (0 : Int32), iv (2 : Int32), iv (1 : Int32)] rfl ?_
  refine go_lloadN C X2 37 rfl d7_36 rfl ?_
  refine go_lload C X2 39 rfl d7_37 rfl ?_
  refine go_aloadN C X2 40 rfl d7_39 rfl rfl ?_
  refine go_getF C X2 (C.w 49 rfl) Via.refl F4 (pc' := 43) rfl d7_40 (fun T3 X4 => ?_)
  refine go_iload C X4 45 rfl d7_43 rfl ?_
  refine go_aaload C X4 A3 rfl (by decide) (v := (.ref r2)) rfl (pc' := 46) rfl d7_45 ?_
  refine go_iload C X4 48 rfl d7_46 rfl ?_
  refine go_laload C X4 AR2 (by decide) (v := (.long t20)) rfl (pc' := 49) rfl d7_48 ?_
  refine go_aloadN C X4 50 rfl d7_49 rfl rfl ?_
  refine go_getF C X4 (C.w 49 rfl) Via.refl F4 (pc' := 53) rfl d7_50 (fun T5 X6 => ?_)
  refine go_iload C X6 55 rfl d7_53 rfl ?_
  refine go_aaload C X6 A3 rfl (by decide) (v := (.ref r2)) rfl (pc' := 56) rfl d7_55 ?_
  refine go_iload C X6 58 rfl d7_56 rfl ?_
  refine go_laload C X6 AR2 (by decide) (v := (.long t21)) rfl (pc' := 59) rfl d7_58 ?_
  refine go_lsub C X6 60 rfl d7_59 ?_
  refine go_lmul C X6 61 rfl d7_60 ?_
  refine go_ladd C X6 62 rfl d7_61 ?_
  refine go_lstoreN C X6 63 rfl d7_62 #[rv a, rv qb, jv ((0 : Int64) + ((1 : Int64) * (t20 - t21))), sc, jv (1 : Int64), sc, iv (0 : Int32), iv (0 : Int32), iv (2 : Int32), iv (1 : Int32)] rfl ?_
  refine go_lload C X6 65 rfl d7_63 rfl ?_
  refine go_aloadN C X6 66 rfl d7_65 rfl rfl ?_
  refine go_getF C X6 (C.w 16 rfl) Via.refl F1 (pc' := 69) rfl d7_66 (fun T7 X8 => ?_)
  refine go_aloadN C X8 70 rfl d7_69 rfl rfl ?_
  refine go_iload C X8 72 rfl d7_70 rfl ?_
  refine go_iaload C X8 AQ (by decide) (v := (.int m1)) rfl (pc' := 73) rfl d7_72 ?_
  refine go_iaload C X8 A1 b1.1 (v := (.int (at32 sz m1))) (ia_at b1.1 (by rw [hl]; exact b1.2)) (pc' := 74) rfl d7_73 ?_
  rw [z1]
  refine go_i2l C X8 75 rfl d7_74 ?_
  refine go_lmul C X8 76 rfl d7_75 ?_
  refine go_lstore C X8 78 rfl d7_76 #[rv a, rv qb, jv ((0 : Int64) + ((1 : Int64) * (t20 - t21))), sc, jv ((1 : Int64) * (s1.toInt64)), sc, iv (0 : Int32), iv (0 : Int32), iv (2 : Int32), iv (1 : Int32)] rfl ?_
  refine go_iload C X8 80 rfl d7_78 rfl ?_
  refine go_iconst C X8 81 rfl d7_80 (z := 1) rfl ?_
  refine go_iaddL C X8 82 rfl d7_81 (z := (2)) rfl ?_
  refine go_istore C X8 84 rfl d7_82 #[rv a, rv qb, jv ((0 : Int64) + ((1 : Int64) * (t20 - t21))), sc, jv ((1 : Int64) * (s1.toInt64)), sc, iv (2 : Int32), iv (0 : Int32), iv (2 : Int32), iv (1 : Int32)] rfl ?_
  refine go_iinc C X8 87 rfl d7_84 rfl (z := 1) rfl #[rv a, rv qb, jv ((0 : Int64) + ((1 : Int64) * (t20 - t21))), sc, jv ((1 : Int64) * (s1.toInt64)), sc, iv (2 : Int32), iv (1 : Int32), iv (2 : Int32), iv (1 : Int32)] rfl ?_
  refine go_goto C X8 d7_87 (pc' := 11) (by decide) (by decide) ?_
  refine go_iload C X8 13 rfl d7_11 rfl ?_
  refine go_aloadN C X8 14 rfl d7_13 rfl rfl ?_
  refine go_alen C X8 AQ (z := (2 : Int32)) rfl (pc' := 15) rfl d7_14 ?_
  refine go_icmp_ge C X8 d7_15 (pc' := 18) (pc2 := 90) rfl (by decide) (by decide) (fun (c15 : 2 ≤ 1) => False.elim (by first | omega | exact absurd c15 (by decide))) (fun (c15 : 1 < 2) => ?_)
  refine go_aloadN C X8 19 rfl d7_18 rfl rfl ?_
  refine go_alen C X8 AQ (z := (2 : Int32)) rfl (pc' := 20) rfl d7_19 ?_
  refine go_iload C X8 22 rfl d7_20 rfl ?_
  refine go_isubL C X8 23 rfl d7_22 (z := (1)) rfl ?_
  refine go_istore C X8 25 rfl d7_23 #[rv a, rv qb, jv ((0 : Int64) + ((1 : Int64) * (t20 - t21))), sc, jv ((1 : Int64) * (s1.toInt64)), sc, iv (2 : Int32), iv (1 : Int32), iv (1 : Int32), iv (1 : Int32)] rfl ?_
  refine go_aloadN C X8 26 rfl d7_25 rfl rfl ?_
  refine go_getF C X8 (C.w 29 rfl) Via.refl F2 (pc' := 29) rfl d7_26 (fun T9 X10 => ?_)
  refine go_aloadN C X10 30 rfl d7_29 rfl rfl ?_
  refine go_iload C X10 32 rfl d7_30 rfl ?_
  refine go_iaload C X10 AQ (by decide) (v := (.int m2)) rfl (pc' := 33) rfl d7_32 ?_
  refine go_iaload C X10 A2 b2.1 (v := (.int (at32 ix m2))) (ia_at b2.1 (by rw [xl]; exact b2.2)) (pc' := 34) rfl d7_33 ?_
  rw [x2]
  refine go_istore C X10 36 rfl d7_34 #[rv a, rv qb, jv ((0 : Int64) + ((1 : Int64) * (t20 - t21))), sc, jv ((1 : Int64) * (s1.toInt64)), sc, iv (2 : Int32), iv (1 : Int32), iv (1 : Int32), iv (2 : Int32)] rfl ?_
  refine go_lloadN C X10 37 rfl d7_36 rfl ?_
  refine go_lload C X10 39 rfl d7_37 rfl ?_
  refine go_aloadN C X10 40 rfl d7_39 rfl rfl ?_
  refine go_getF C X10 (C.w 49 rfl) Via.refl F4 (pc' := 43) rfl d7_40 (fun T11 X12 => ?_)
  refine go_iload C X12 45 rfl d7_43 rfl ?_
  refine go_aaload C X12 A3 rfl (by decide) (v := (.ref r1)) rfl (pc' := 46) rfl d7_45 ?_
  refine go_iload C X12 48 rfl d7_46 rfl ?_
  refine go_laload C X12 AR1 (by decide) (v := (.long t12)) rfl (pc' := 49) rfl d7_48 ?_
  refine go_aloadN C X12 50 rfl d7_49 rfl rfl ?_
  refine go_getF C X12 (C.w 49 rfl) Via.refl F4 (pc' := 53) rfl d7_50 (fun T13 X14 => ?_)
  refine go_iload C X14 55 rfl d7_53 rfl ?_
  refine go_aaload C X14 A3 rfl (by decide) (v := (.ref r1)) rfl (pc' := 56) rfl d7_55 ?_
  refine go_iload C X14 58 rfl d7_56 rfl ?_
  refine go_laload C X14 AR1 (by decide) (v := (.long t12)) rfl (pc' := 59) rfl d7_58 ?_
  refine go_lsub C X14 60 rfl d7_59 ?_
  refine go_lmul C X14 61 rfl d7_60 ?_
  refine go_ladd C X14 62 rfl d7_61 ?_
  refine go_lstoreN C X14 63 rfl d7_62 #[rv a, rv qb, jv (((0 : Int64) + ((1 : Int64) * (t20 - t21))) + (((1 : Int64) * (s1.toInt64)) * (t12 - t12))), sc, jv ((1 : Int64) * (s1.toInt64)), sc, iv (2 : Int32), iv (1 : Int32), iv (1 : Int32), iv (2 : Int32)] rfl ?_
  refine go_lload C X14 65 rfl d7_63 rfl ?_
  refine go_aloadN C X14 66 rfl d7_65 rfl rfl ?_
  refine go_getF C X14 (C.w 16 rfl) Via.refl F1 (pc' := 69) rfl d7_66 (fun T15 X16 => ?_)
  refine go_aloadN C X16 70 rfl d7_69 rfl rfl ?_
  refine go_iload C X16 72 rfl d7_70 rfl ?_
  refine go_iaload C X16 AQ (by decide) (v := (.int m2)) rfl (pc' := 73) rfl d7_72 ?_
  refine go_iaload C X16 A1 b2.1 (v := (.int (at32 sz m2))) (ia_at b2.1 (by rw [hl]; exact b2.2)) (pc' := 74) rfl d7_73 ?_
  rw [z2]
  refine go_i2l C X16 75 rfl d7_74 ?_
  refine go_lmul C X16 76 rfl d7_75 ?_
  refine go_lstore C X16 78 rfl d7_76 #[rv a, rv qb, jv (((0 : Int64) + ((1 : Int64) * (t20 - t21))) + (((1 : Int64) * (s1.toInt64)) * (t12 - t12))), sc, jv (((1 : Int64) * (s1.toInt64)) * (s2.toInt64)), sc, iv (2 : Int32), iv (1 : Int32), iv (1 : Int32), iv (2 : Int32)] rfl ?_
  refine go_iload C X16 80 rfl d7_78 rfl ?_
  refine go_iconst C X16 81 rfl d7_80 (z := 1) rfl ?_
  refine go_iaddL C X16 82 rfl d7_81 (z := (3)) rfl ?_
  refine go_istore C X16 84 rfl d7_82 #[rv a, rv qb, jv (((0 : Int64) + ((1 : Int64) * (t20 - t21))) + (((1 : Int64) * (s1.toInt64)) * (t12 - t12))), sc, jv (((1 : Int64) * (s1.toInt64)) * (s2.toInt64)), sc, iv (3 : Int32), iv (1 : Int32), iv (1 : Int32), iv (2 : Int32)] rfl ?_
  refine go_iinc C X16 87 rfl d7_84 rfl (z := 1) rfl #[rv a, rv qb, jv (((0 : Int64) + ((1 : Int64) * (t20 - t21))) + (((1 : Int64) * (s1.toInt64)) * (t12 - t12))), sc, jv (((1 : Int64) * (s1.toInt64)) * (s2.toInt64)), sc, iv (3 : Int32), iv (2 : Int32), iv (1 : Int32), iv (2 : Int32)] rfl ?_
  refine go_goto C X16 d7_87 (pc' := 11) (by decide) (by decide) ?_
  refine go_iload C X16 13 rfl d7_11 rfl ?_
  refine go_aloadN C X16 14 rfl d7_13 rfl rfl ?_
  refine go_alen C X16 AQ (z := (2 : Int32)) rfl (pc' := 15) rfl d7_14 ?_
  refine go_icmp_ge C X16 d7_15 (pc' := 18) (pc2 := 90) rfl (by decide) (by decide) (fun (c15 : 2 ≤ 2) => ?_) (fun (c15 : 2 < 2) => False.elim (by first | omega | exact absurd c15 (by decide)))
  refine go_aloadN C X16 91 rfl d7_90 rfl rfl ?_
  refine go_getF C X16 (C.w 37 rfl) Via.refl F3 (pc' := 94) rfl d7_91 (fun T17 X18 => ?_)
  refine go_lloadN C X18 95 rfl d7_94 rfl ?_
  refine go_ladd C X18 96 rfl d7_95 ?_
  exact go_retJ C X18 d7_96 ⟨rfl, rfl⟩ (by decide) (by decide)
theorem ef_own_bit_2_4 (m : MethodId) (a : Addr) (qb : Addr)  : entryFrame m #[(.ref a), (.ref qb)] 10 = mkF m 0 #[rv a, rv qb, un, un, un, un, un, un, un, un] [] := by
  first | (simp [entryFrame, mkF, argsToLocals, Value.category]; done) | rfl
set_option maxRecDepth 65536 in
set_option maxHeartbeats 40000000 in
theorem own_bit_2_4 (l : Launch) (Z : State) (a0 : Array Value) (hw : ∀ d ∈ tables_1, d.before a0 Z = true) (a : Addr) (qb : Addr) (sb xb ob r0 r1 r2 : Addr) (sz ix : List Int32) (m0 m1 m2 m3 s0 s1 s2 s3 : Int32) (st t00 t01 t02 t03 t04 t10 t11 t12 t13 t14 t20 t21 t22 t23 t24 : Int64) (h : Heap) (n0 : Nat) (hn0 : Old Z n0 h) (F1 : Fld Z h a "com/example/covertide/covertide/engine/ParameterSets" "sizes" "[I" (.ref sb)) (F2 : Fld Z h a "com/example/covertide/covertide/engine/ParameterSets" "indexOf" "[I" (.ref xb)) (F3 : Fld Z h a "com/example/covertide/covertide/engine/ParameterSets" "start" "J" (.long st)) (F4 : Fld Z h a "com/example/covertide/covertide/engine/ParameterSets" "suffixSums" "[[J" (.ref ob)) (A1 : La Z h sb .int (ia sz)) (A2 : La Z h xb .int (ia ix)) (A3 : La Z h ob (.array .long) [(.ref r0), (.ref r1), (.ref r2)]) (AR0 : La Z h r0 .long [(.long t00), (.long t01), (.long t02), (.long t03), (.long t04)]) (AR1 : La Z h r1 .long [(.long t10), (.long t11), (.long t12), (.long t13), (.long t14)]) (AR2 : La Z h r2 .long [(.long t20), (.long t21), (.long t22), (.long t23), (.long t24)]) (AQ : La Z h qb .int [(.int m1), (.int m3)]) (hl : sz.length = 5) (xl : ix.length = 5) (b0 : 0 ≤ m0.toInt ∧ m0.toInt < (5 : Nat)) (z0 : at32 sz m0 = s0) (b1 : 0 ≤ m1.toInt ∧ m1.toInt < (5 : Nat)) (z1 : at32 sz m1 = s1) (b2 : 0 ≤ m2.toInt ∧ m2.toInt < (5 : Nat)) (z2 : at32 sz m2 = s2) (b3 : 0 ≤ m3.toInt ∧ m3.toInt < (5 : Nat)) (z3 : at32 sz m3 = s3) (x0 : at32 ix m0 = 0) (x1 : at32 ix m1 = 1) (x2 : at32 ix m2 = 2) (x3 : at32 ix m3 = 3) :
    Con l Z (⟨"com/example/covertide/covertide/engine/ParameterSets", "bitOf", "([I)J"⟩ : MethodName) prog_10_method_12_code 10 (some .long) ({ frames := 0, cells := 0, slots := 0, locals := 0 } : Room) #[(.ref a), (.ref qb)] h n0 (fun v h' => v = some (.long (st + (((0 : Int64) + ((1 : Int64) * (t20 - t21))) + (((1 : Int64) * s1.toInt64) * (t12 - t13))))) ∧ h = h') := by
  refine con_of hw (plainFor_of_name pn_com_example_covertide_covertide_engine_ParameterSets) hn0 ?_
  intro p e s m below meth c T0 C X0
  refine Go.cast (congrArg T0.setTop (ef_own_bit_2_4 m a qb)) ?_
  refine go_lconst C X0 1 rfl d7_0 (z := 0) rfl ?_
  refine go_lstoreN C X0 2 rfl d7_1 #[rv a, rv qb, jv (0 : Int64), sc, un, un, un, un, un, un] rfl ?_
  refine go_lconst C X0 3 rfl d7_2 (z := 1) rfl ?_
  refine go_lstore C X0 5 rfl d7_3 #[rv a, rv qb, jv (0 : Int64), sc, jv (1 : Int64), sc, un, un, un, un] rfl ?_
  refine go_iconst C X0 6 rfl d7_5 (z := 0) rfl ?_
  refine go_istore C X0 8 rfl d7_6 #[rv a, rv qb, jv (0 : Int64), sc, jv (1 : Int64), sc, iv (0 : Int32), un, un, un] rfl ?_
  refine go_iconst C X0 9 rfl d7_8 (z := 0) rfl ?_
  refine go_istore C X0 11 rfl d7_9 #[rv a, rv qb, jv (0 : Int64), sc, jv (1 : Int64), sc, iv (0 : Int32), iv (0 : Int32), un, un] rfl ?_
  refine go_iload C X0 13 rfl d7_11 rfl ?_
  refine go_aloadN C X0 14 rfl d7_13 rfl rfl ?_
  refine go_alen C X0 AQ (z := (2 : Int32)) rfl (pc' := 15) rfl d7_14 ?_
  refine go_icmp_ge C X0 d7_15 (pc' := 18) (pc2 := 90) rfl (by decide) (by decide) (fun (c15 : 2 ≤ 0) => False.elim (by first | omega | exact absurd c15 (by decide))) (fun (c15 : 0 < 2) => ?_)
  refine go_aloadN C X0 19 rfl d7_18 rfl rfl ?_
  refine go_alen C X0 AQ (z := (2 : Int32)) rfl (pc' := 20) rfl d7_19 ?_
  refine go_iload C X0 22 rfl d7_20 rfl ?_
  refine go_isubL C X0 23 rfl d7_22 (z := (2)) rfl ?_
  refine go_istore C X0 25 rfl d7_23 #[rv a, rv qb, jv (0 : Int64), sc, jv (1 : Int64), sc, iv (0 : Int32), iv (0 : Int32), iv (2 : Int32), un] rfl ?_
  refine go_aloadN C X0 26 rfl d7_25 rfl rfl ?_
  refine go_getF C X0 (C.w 29 rfl) Via.refl F2 (pc' := 29) rfl d7_26 (fun T1 X2 => ?_)
  refine go_aloadN C X2 30 rfl d7_29 rfl rfl ?_
  refine go_iload C X2 32 rfl d7_30 rfl ?_
  refine go_iaload C X2 AQ (by decide) (v := (.int m1)) rfl (pc' := 33) rfl d7_32 ?_
  refine go_iaload C X2 A2 b1.1 (v := (.int (at32 ix m1))) (ia_at b1.1 (by rw [xl]; exact b1.2)) (pc' := 34) rfl d7_33 ?_
  rw [x1]
  refine go_istore C X2 36 rfl d7_34 #[rv a, rv qb, jv (0 : Int64), sc, jv (1 : Int64), sc, iv (0 : Int32), iv (0 : Int32), iv (2 : Int32), iv (1 : Int32)] rfl ?_
  refine go_lloadN C X2 37 rfl d7_36 rfl ?_
  refine go_lload C X2 39 rfl d7_37 rfl ?_
  refine go_aloadN C X2 40 rfl d7_39 rfl rfl ?_
  refine go_getF C X2 (C.w 49 rfl) Via.refl F4 (pc' := 43) rfl d7_40 (fun T3 X4 => ?_)
  refine go_iload C X4 45 rfl d7_43 rfl ?_
  refine go_aaload C X4 A3 rfl (by decide) (v := (.ref r2)) rfl (pc' := 46) rfl d7_45 ?_
  refine go_iload C X4 48 rfl d7_46 rfl ?_
  refine go_laload C X4 AR2 (by decide) (v := (.long t20)) rfl (pc' := 49) rfl d7_48 ?_
  refine go_aloadN C X4 50 rfl d7_49 rfl rfl ?_
  refine go_getF C X4 (C.w 49 rfl) Via.refl F4 (pc' := 53) rfl d7_50 (fun T5 X6 => ?_)
  refine go_iload C X6 55 rfl d7_53 rfl ?_
  refine go_aaload C X6 A3 rfl (by decide) (v := (.ref r2)) rfl (pc' := 56) rfl d7_55 ?_
  refine go_iload C X6 58 rfl d7_56 rfl ?_
  refine go_laload C X6 AR2 (by decide) (v := (.long t21)) rfl (pc' := 59) rfl d7_58 ?_
  refine go_lsub C X6 60 rfl d7_59 ?_
  refine go_lmul C X6 61 rfl d7_60 ?_
  refine go_ladd C X6 62 rfl d7_61 ?_
  refine go_lstoreN C X6 63 rfl d7_62 #[rv a, rv qb, jv ((0 : Int64) + ((1 : Int64) * (t20 - t21))), sc, jv (1 : Int64), sc, iv (0 : Int32), iv (0 : Int32), iv (2 : Int32), iv (1 : Int32)] rfl ?_
  refine go_lload C X6 65 rfl d7_63 rfl ?_
  refine go_aloadN C X6 66 rfl d7_65 rfl rfl ?_
  refine go_getF C X6 (C.w 16 rfl) Via.refl F1 (pc' := 69) rfl d7_66 (fun T7 X8 => ?_)
  refine go_aloadN C X8 70 rfl d7_69 rfl rfl ?_
  refine go_iload C X8 72 rfl d7_70 rfl ?_
  refine go_iaload C X8 AQ (by decide) (v := (.int m1)) rfl (pc' := 73) rfl d7_72 ?_
  refine go_iaload C X8 A1 b1.1 (v := (.int (at32 sz m1))) (ia_at b1.1 (by rw [hl]; exact b1.2)) (pc' := 74) rfl d7_73 ?_
  rw [z1]
  refine go_i2l C X8 75 rfl d7_74 ?_
  refine go_lmul C X8 76 rfl d7_75 ?_
  refine go_lstore C X8 78 rfl d7_76 #[rv a, rv qb, jv ((0 : Int64) + ((1 : Int64) * (t20 - t21))), sc, jv ((1 : Int64) * (s1.toInt64)), sc, iv (0 : Int32), iv (0 : Int32), iv (2 : Int32), iv (1 : Int32)] rfl ?_
  refine go_iload C X8 80 rfl d7_78 rfl ?_
  refine go_iconst C X8 81 rfl d7_80 (z := 1) rfl ?_
  refine go_iaddL C X8 82 rfl d7_81 (z := (2)) rfl ?_
  refine go_istore C X8 84 rfl d7_82 #[rv a, rv qb, jv ((0 : Int64) + ((1 : Int64) * (t20 - t21))), sc, jv ((1 : Int64) * (s1.toInt64)), sc, iv (2 : Int32), iv (0 : Int32), iv (2 : Int32), iv (1 : Int32)] rfl ?_
  refine go_iinc C X8 87 rfl d7_84 rfl (z := 1) rfl #[rv a, rv qb, jv ((0 : Int64) + ((1 : Int64) * (t20 - t21))), sc, jv ((1 : Int64) * (s1.toInt64)), sc, iv (2 : Int32), iv (1 : Int32), iv (2 : Int32), iv (1 : Int32)] rfl ?_
  refine go_goto C X8 d7_87 (pc' := 11) (by decide) (by decide) ?_
  refine go_iload C X8 13 rfl d7_11 rfl ?_
  refine go_aloadN C X8 14 rfl d7_13 rfl rfl ?_
  refine go_alen C X8 AQ (z := (2 : Int32)) rfl (pc' := 15) rfl d7_14 ?_
  refine go_icmp_ge C X8 d7_15 (pc' := 18) (pc2 := 90) rfl (by decide) (by decide) (fun (c15 : 2 ≤ 1) => False.elim (by first | omega | exact absurd c15 (by decide))) (fun (c15 : 1 < 2) => ?_)
  refine go_aloadN C X8 19 rfl d7_18 rfl rfl ?_
  refine go_alen C X8 AQ (z := (2 : Int32)) rfl (pc' := 20) rfl d7_19 ?_
  refine go_iload C X8 22 rfl d7_20 rfl ?_
  refine go_isubL C X8 23 rfl d7_22 (z := (1)) rfl ?_
  refine go_istore C X8 25 rfl d7_23 #[rv a, rv qb, jv ((0 : Int64) + ((1 : Int64) * (t20 - t21))), sc, jv ((1 : Int64) * (s1.toInt64)), sc, iv (2 : Int32), iv (1 : Int32), iv (1 : Int32), iv (1 : Int32)] rfl ?_
  refine go_aloadN C X8 26 rfl d7_25 rfl rfl ?_
  refine go_getF C X8 (C.w 29 rfl) Via.refl F2 (pc' := 29) rfl d7_26 (fun T9 X10 => ?_)
  refine go_aloadN C X10 30 rfl d7_29 rfl rfl ?_
  refine go_iload C X10 32 rfl d7_30 rfl ?_
  refine go_iaload C X10 AQ (by decide) (v := (.int m3)) rfl (pc' := 33) rfl d7_32 ?_
  refine go_iaload C X10 A2 b3.1 (v := (.int (at32 ix m3))) (ia_at b3.1 (by rw [xl]; exact b3.2)) (pc' := 34) rfl d7_33 ?_
  rw [x3]
  refine go_istore C X10 36 rfl d7_34 #[rv a, rv qb, jv ((0 : Int64) + ((1 : Int64) * (t20 - t21))), sc, jv ((1 : Int64) * (s1.toInt64)), sc, iv (2 : Int32), iv (1 : Int32), iv (1 : Int32), iv (3 : Int32)] rfl ?_
  refine go_lloadN C X10 37 rfl d7_36 rfl ?_
  refine go_lload C X10 39 rfl d7_37 rfl ?_
  refine go_aloadN C X10 40 rfl d7_39 rfl rfl ?_
  refine go_getF C X10 (C.w 49 rfl) Via.refl F4 (pc' := 43) rfl d7_40 (fun T11 X12 => ?_)
  refine go_iload C X12 45 rfl d7_43 rfl ?_
  refine go_aaload C X12 A3 rfl (by decide) (v := (.ref r1)) rfl (pc' := 46) rfl d7_45 ?_
  refine go_iload C X12 48 rfl d7_46 rfl ?_
  refine go_laload C X12 AR1 (by decide) (v := (.long t12)) rfl (pc' := 49) rfl d7_48 ?_
  refine go_aloadN C X12 50 rfl d7_49 rfl rfl ?_
  refine go_getF C X12 (C.w 49 rfl) Via.refl F4 (pc' := 53) rfl d7_50 (fun T13 X14 => ?_)
  refine go_iload C X14 55 rfl d7_53 rfl ?_
  refine go_aaload C X14 A3 rfl (by decide) (v := (.ref r1)) rfl (pc' := 56) rfl d7_55 ?_
  refine go_iload C X14 58 rfl d7_56 rfl ?_
  refine go_laload C X14 AR1 (by decide) (v := (.long t13)) rfl (pc' := 59) rfl d7_58 ?_
  refine go_lsub C X14 60 rfl d7_59 ?_
  refine go_lmul C X14 61 rfl d7_60 ?_
  refine go_ladd C X14 62 rfl d7_61 ?_
  refine go_lstoreN C X14 63 rfl d7_62 #[rv a, rv qb, jv (((0 : Int64) + ((1 : Int64) * (t20 - t21))) + (((1 : Int64) * (s1.toInt64)) * (t12 - t13))), sc, jv ((1 : Int64) * (s1.toInt64)), sc, iv (2 : Int32), iv (1 : Int32), iv (1 : Int32), iv (3 : Int32)] rfl ?_
  refine go_lload C X14 65 rfl d7_63 rfl ?_
  refine go_aloadN C X14 66 rfl d7_65 rfl rfl ?_
  refine go_getF C X14 (C.w 16 rfl) Via.refl F1 (pc' := 69) rfl d7_66 (fun T15 X16 => ?_)
  refine go_aloadN C X16 70 rfl d7_69 rfl rfl ?_
  refine go_iload C X16 72 rfl d7_70 rfl ?_
  refine go_iaload C X16 AQ (by decide) (v := (.int m3)) rfl (pc' := 73) rfl d7_72 ?_
  refine go_iaload C X16 A1 b3.1 (v := (.int (at32 sz m3))) (ia_at b3.1 (by rw [hl]; exact b3.2)) (pc' := 74) rfl d7_73 ?_
  rw [z3]
  refine go_i2l C X16 75 rfl d7_74 ?_
  refine go_lmul C X16 76 rfl d7_75 ?_
  refine go_lstore C X16 78 rfl d7_76 #[rv a, rv qb, jv (((0 : Int64) + ((1 : Int64) * (t20 - t21))) + (((1 : Int64) * (s1.toInt64)) * (t12 - t13))), sc, jv (((1 : Int64) * (s1.toInt64)) * (s3.toInt64)), sc, iv (2 : Int32), iv (1 : Int32), iv (1 : Int32), iv (3 : Int32)] rfl ?_
  refine go_iload C X16 80 rfl d7_78 rfl ?_
  refine go_iconst C X16 81 rfl d7_80 (z := 1) rfl ?_
  refine go_iaddL C X16 82 rfl d7_81 (z := (4)) rfl ?_
  refine go_istore C X16 84 rfl d7_82 #[rv a, rv qb, jv (((0 : Int64) + ((1 : Int64) * (t20 - t21))) + (((1 : Int64) * (s1.toInt64)) * (t12 - t13))), sc, jv (((1 : Int64) * (s1.toInt64)) * (s3.toInt64)), sc, iv (4 : Int32), iv (1 : Int32), iv (1 : Int32), iv (3 : Int32)] rfl ?_
  refine go_iinc C X16 87 rfl d7_84 rfl (z := 1) rfl #[rv a, rv qb, jv (((0 : Int64) + ((1 : Int64) * (t20 - t21))) + (((1 : Int64) * (s1.toInt64)) * (t12 - t13))), sc, jv (((1 : Int64) * (s1.toInt64)) * (s3.toInt64)), sc, iv (4 : Int32), iv (2 : Int32), iv (1 : Int32), iv (3 : Int32)] rfl ?_
  refine go_goto C X16 d7_87 (pc' := 11) (by decide) (by decide) ?_
  refine go_iload C X16 13 rfl d7_11 rfl ?_
  refine go_aloadN C X16 14 rfl d7_13 rfl rfl ?_
  refine go_alen C X16 AQ (z := (2 : Int32)) rfl (pc' := 15) rfl d7_14 ?_
  refine go_icmp_ge C X16 d7_15 (pc' := 18) (pc2 := 90) rfl (by decide) (by decide) (fun (c15 : 2 ≤ 2) => ?_) (fun (c15 : 2 < 2) => False.elim (by first | omega | exact absurd c15 (by decide)))
  refine go_aloadN C X16 91 rfl d7_90 rfl rfl ?_
  refine go_getF C X16 (C.w 37 rfl) Via.refl F3 (pc' := 94) rfl d7_91 (fun T17 X18 => ?_)
  refine go_lloadN C X18 95 rfl d7_94 rfl ?_
  refine go_ladd C X18 96 rfl d7_95 ?_
  exact go_retJ C X18 d7_96 ⟨rfl, rfl⟩ (by decide) (by decide)
theorem ef_own_bit_2_5 (m : MethodId) (a : Addr) (qb : Addr)  : entryFrame m #[(.ref a), (.ref qb)] 10 = mkF m 0 #[rv a, rv qb, un, un, un, un, un, un, un, un] [] := by
  first | (simp [entryFrame, mkF, argsToLocals, Value.category]; done) | rfl
set_option maxRecDepth 65536 in
set_option maxHeartbeats 40000000 in
theorem own_bit_2_5 (l : Launch) (Z : State) (a0 : Array Value) (hw : ∀ d ∈ tables_1, d.before a0 Z = true) (a : Addr) (qb : Addr) (sb xb ob r0 r1 r2 : Addr) (sz ix : List Int32) (m0 m1 m2 m3 s0 s1 s2 s3 : Int32) (st t00 t01 t02 t03 t04 t10 t11 t12 t13 t14 t20 t21 t22 t23 t24 : Int64) (h : Heap) (n0 : Nat) (hn0 : Old Z n0 h) (F1 : Fld Z h a "com/example/covertide/covertide/engine/ParameterSets" "sizes" "[I" (.ref sb)) (F2 : Fld Z h a "com/example/covertide/covertide/engine/ParameterSets" "indexOf" "[I" (.ref xb)) (F3 : Fld Z h a "com/example/covertide/covertide/engine/ParameterSets" "start" "J" (.long st)) (F4 : Fld Z h a "com/example/covertide/covertide/engine/ParameterSets" "suffixSums" "[[J" (.ref ob)) (A1 : La Z h sb .int (ia sz)) (A2 : La Z h xb .int (ia ix)) (A3 : La Z h ob (.array .long) [(.ref r0), (.ref r1), (.ref r2)]) (AR0 : La Z h r0 .long [(.long t00), (.long t01), (.long t02), (.long t03), (.long t04)]) (AR1 : La Z h r1 .long [(.long t10), (.long t11), (.long t12), (.long t13), (.long t14)]) (AR2 : La Z h r2 .long [(.long t20), (.long t21), (.long t22), (.long t23), (.long t24)]) (AQ : La Z h qb .int [(.int m2), (.int m3)]) (hl : sz.length = 5) (xl : ix.length = 5) (b0 : 0 ≤ m0.toInt ∧ m0.toInt < (5 : Nat)) (z0 : at32 sz m0 = s0) (b1 : 0 ≤ m1.toInt ∧ m1.toInt < (5 : Nat)) (z1 : at32 sz m1 = s1) (b2 : 0 ≤ m2.toInt ∧ m2.toInt < (5 : Nat)) (z2 : at32 sz m2 = s2) (b3 : 0 ≤ m3.toInt ∧ m3.toInt < (5 : Nat)) (z3 : at32 sz m3 = s3) (x0 : at32 ix m0 = 0) (x1 : at32 ix m1 = 1) (x2 : at32 ix m2 = 2) (x3 : at32 ix m3 = 3) :
    Con l Z (⟨"com/example/covertide/covertide/engine/ParameterSets", "bitOf", "([I)J"⟩ : MethodName) prog_10_method_12_code 10 (some .long) ({ frames := 0, cells := 0, slots := 0, locals := 0 } : Room) #[(.ref a), (.ref qb)] h n0 (fun v h' => v = some (.long (st + (((0 : Int64) + ((1 : Int64) * (t20 - t22))) + (((1 : Int64) * s2.toInt64) * (t13 - t13))))) ∧ h = h') := by
  refine con_of hw (plainFor_of_name pn_com_example_covertide_covertide_engine_ParameterSets) hn0 ?_
  intro p e s m below meth c T0 C X0
  refine Go.cast (congrArg T0.setTop (ef_own_bit_2_5 m a qb)) ?_
  refine go_lconst C X0 1 rfl d7_0 (z := 0) rfl ?_
  refine go_lstoreN C X0 2 rfl d7_1 #[rv a, rv qb, jv (0 : Int64), sc, un, un, un, un, un, un] rfl ?_
  refine go_lconst C X0 3 rfl d7_2 (z := 1) rfl ?_
  refine go_lstore C X0 5 rfl d7_3 #[rv a, rv qb, jv (0 : Int64), sc, jv (1 : Int64), sc, un, un, un, un] rfl ?_
  refine go_iconst C X0 6 rfl d7_5 (z := 0) rfl ?_
  refine go_istore C X0 8 rfl d7_6 #[rv a, rv qb, jv (0 : Int64), sc, jv (1 : Int64), sc, iv (0 : Int32), un, un, un] rfl ?_
  refine go_iconst C X0 9 rfl d7_8 (z := 0) rfl ?_
  refine go_istore C X0 11 rfl d7_9 #[rv a, rv qb, jv (0 : Int64), sc, jv (1 : Int64), sc, iv (0 : Int32), iv (0 : Int32), un, un] rfl ?_
  refine go_iload C X0 13 rfl d7_11 rfl ?_
  refine go_aloadN C X0 14 rfl d7_13 rfl rfl ?_
  refine go_alen C X0 AQ (z := (2 : Int32)) rfl (pc' := 15) rfl d7_14 ?_
  refine go_icmp_ge C X0 d7_15 (pc' := 18) (pc2 := 90) rfl (by decide) (by decide) (fun (c15 : 2 ≤ 0) => False.elim (by first | omega | exact absurd c15 (by decide))) (fun (c15 : 0 < 2) => ?_)
  refine go_aloadN C X0 19 rfl d7_18 rfl rfl ?_
  refine go_alen C X0 AQ (z := (2 : Int32)) rfl (pc' := 20) rfl d7_19 ?_
  refine go_iload C X0 22 rfl d7_20 rfl ?_
  refine go_isubL C X0 23 rfl d7_22 (z := (2)) rfl ?_
  refine go_istore C X0 25 rfl d7_23 #[rv a, rv qb, jv (0 : Int64), sc, jv (1 : Int64), sc, iv (0 : Int32), iv (0 : Int32), iv (2 : Int32), un] rfl ?_
  refine go_aloadN C X0 26 rfl d7_25 rfl rfl ?_
  refine go_getF C X0 (C.w 29 rfl) Via.refl F2 (pc' := 29) rfl d7_26 (fun T1 X2 => ?_)
  refine go_aloadN C X2 30 rfl d7_29 rfl rfl ?_
  refine go_iload C X2 32 rfl d7_30 rfl ?_
  refine go_iaload C X2 AQ (by decide) (v := (.int m2)) rfl (pc' := 33) rfl d7_32 ?_
  refine go_iaload C X2 A2 b2.1 (v := (.int (at32 ix m2))) (ia_at b2.1 (by rw [xl]; exact b2.2)) (pc' := 34) rfl d7_33 ?_
  rw [x2]
  refine go_istore C X2 36 rfl d7_34 #[rv a, rv qb, jv (0 : Int64), sc, jv (1 : Int64), sc, iv (0 : Int32), iv (0 : Int32), iv (2 : Int32), iv (2 : Int32)] rfl ?_
  refine go_lloadN C X2 37 rfl d7_36 rfl ?_
  refine go_lload C X2 39 rfl d7_37 rfl ?_
  refine go_aloadN C X2 40 rfl d7_39 rfl rfl ?_
  refine go_getF C X2 (C.w 49 rfl) Via.refl F4 (pc' := 43) rfl d7_40 (fun T3 X4 => ?_)
  refine go_iload C X4 45 rfl d7_43 rfl ?_
  refine go_aaload C X4 A3 rfl (by decide) (v := (.ref r2)) rfl (pc' := 46) rfl d7_45 ?_
  refine go_iload C X4 48 rfl d7_46 rfl ?_
  refine go_laload C X4 AR2 (by decide) (v := (.long t20)) rfl (pc' := 49) rfl d7_48 ?_
  refine go_aloadN C X4 50 rfl d7_49 rfl rfl ?_
  refine go_getF C X4 (C.w 49 rfl) Via.refl F4 (pc' := 53) rfl d7_50 (fun T5 X6 => ?_)
  refine go_iload C X6 55 rfl d7_53 rfl ?_
  refine go_aaload C X6 A3 rfl (by decide) (v := (.ref r2)) rfl (pc' := 56) rfl d7_55 ?_
  refine go_iload C X6 58 rfl d7_56 rfl ?_
  refine go_laload C X6 AR2 (by decide) (v := (.long t22)) rfl (pc' := 59) rfl d7_58 ?_
  refine go_lsub C X6 60 rfl d7_59 ?_
  refine go_lmul C X6 61 rfl d7_60 ?_
  refine go_ladd C X6 62 rfl d7_61 ?_
  refine go_lstoreN C X6 63 rfl d7_62 #[rv a, rv qb, jv ((0 : Int64) + ((1 : Int64) * (t20 - t22))), sc, jv (1 : Int64), sc, iv (0 : Int32), iv (0 : Int32), iv (2 : Int32), iv (2 : Int32)] rfl ?_
  refine go_lload C X6 65 rfl d7_63 rfl ?_
  refine go_aloadN C X6 66 rfl d7_65 rfl rfl ?_
  refine go_getF C X6 (C.w 16 rfl) Via.refl F1 (pc' := 69) rfl d7_66 (fun T7 X8 => ?_)
  refine go_aloadN C X8 70 rfl d7_69 rfl rfl ?_
  refine go_iload C X8 72 rfl d7_70 rfl ?_
  refine go_iaload C X8 AQ (by decide) (v := (.int m2)) rfl (pc' := 73) rfl d7_72 ?_
  refine go_iaload C X8 A1 b2.1 (v := (.int (at32 sz m2))) (ia_at b2.1 (by rw [hl]; exact b2.2)) (pc' := 74) rfl d7_73 ?_
  rw [z2]
  refine go_i2l C X8 75 rfl d7_74 ?_
  refine go_lmul C X8 76 rfl d7_75 ?_
  refine go_lstore C X8 78 rfl d7_76 #[rv a, rv qb, jv ((0 : Int64) + ((1 : Int64) * (t20 - t22))), sc, jv ((1 : Int64) * (s2.toInt64)), sc, iv (0 : Int32), iv (0 : Int32), iv (2 : Int32), iv (2 : Int32)] rfl ?_
  refine go_iload C X8 80 rfl d7_78 rfl ?_
  refine go_iconst C X8 81 rfl d7_80 (z := 1) rfl ?_
  refine go_iaddL C X8 82 rfl d7_81 (z := (3)) rfl ?_
  refine go_istore C X8 84 rfl d7_82 #[rv a, rv qb, jv ((0 : Int64) + ((1 : Int64) * (t20 - t22))), sc, jv ((1 : Int64) * (s2.toInt64)), sc, iv (3 : Int32), iv (0 : Int32), iv (2 : Int32), iv (2 : Int32)] rfl ?_
  refine go_iinc C X8 87 rfl d7_84 rfl (z := 1) rfl #[rv a, rv qb, jv ((0 : Int64) + ((1 : Int64) * (t20 - t22))), sc, jv ((1 : Int64) * (s2.toInt64)), sc, iv (3 : Int32), iv (1 : Int32), iv (2 : Int32), iv (2 : Int32)] rfl ?_
  refine go_goto C X8 d7_87 (pc' := 11) (by decide) (by decide) ?_
  refine go_iload C X8 13 rfl d7_11 rfl ?_
  refine go_aloadN C X8 14 rfl d7_13 rfl rfl ?_
  refine go_alen C X8 AQ (z := (2 : Int32)) rfl (pc' := 15) rfl d7_14 ?_
  refine go_icmp_ge C X8 d7_15 (pc' := 18) (pc2 := 90) rfl (by decide) (by decide) (fun (c15 : 2 ≤ 1) => False.elim (by first | omega | exact absurd c15 (by decide))) (fun (c15 : 1 < 2) => ?_)
  refine go_aloadN C X8 19 rfl d7_18 rfl rfl ?_
  refine go_alen C X8 AQ (z := (2 : Int32)) rfl (pc' := 20) rfl d7_19 ?_
  refine go_iload C X8 22 rfl d7_20 rfl ?_
  refine go_isubL C X8 23 rfl d7_22 (z := (1)) rfl ?_
  refine go_istore C X8 25 rfl d7_23 #[rv a, rv qb, jv ((0 : Int64) + ((1 : Int64) * (t20 - t22))), sc, jv ((1 : Int64) * (s2.toInt64)), sc, iv (3 : Int32), iv (1 : Int32), iv (1 : Int32), iv (2 : Int32)] rfl ?_
  refine go_aloadN C X8 26 rfl d7_25 rfl rfl ?_
  refine go_getF C X8 (C.w 29 rfl) Via.refl F2 (pc' := 29) rfl d7_26 (fun T9 X10 => ?_)
  refine go_aloadN C X10 30 rfl d7_29 rfl rfl ?_
  refine go_iload C X10 32 rfl d7_30 rfl ?_
  refine go_iaload C X10 AQ (by decide) (v := (.int m3)) rfl (pc' := 33) rfl d7_32 ?_
  refine go_iaload C X10 A2 b3.1 (v := (.int (at32 ix m3))) (ia_at b3.1 (by rw [xl]; exact b3.2)) (pc' := 34) rfl d7_33 ?_
  rw [x3]
  refine go_istore C X10 36 rfl d7_34 #[rv a, rv qb, jv ((0 : Int64) + ((1 : Int64) * (t20 - t22))), sc, jv ((1 : Int64) * (s2.toInt64)), sc, iv (3 : Int32), iv (1 : Int32), iv (1 : Int32), iv (3 : Int32)] rfl ?_
  refine go_lloadN C X10 37 rfl d7_36 rfl ?_
  refine go_lload C X10 39 rfl d7_37 rfl ?_
  refine go_aloadN C X10 40 rfl d7_39 rfl rfl ?_
  refine go_getF C X10 (C.w 49 rfl) Via.refl F4 (pc' := 43) rfl d7_40 (fun T11 X12 => ?_)
  refine go_iload C X12 45 rfl d7_43 rfl ?_
  refine go_aaload C X12 A3 rfl (by decide) (v := (.ref r1)) rfl (pc' := 46) rfl d7_45 ?_
  refine go_iload C X12 48 rfl d7_46 rfl ?_
  refine go_laload C X12 AR1 (by decide) (v := (.long t13)) rfl (pc' := 49) rfl d7_48 ?_
  refine go_aloadN C X12 50 rfl d7_49 rfl rfl ?_
  refine go_getF C X12 (C.w 49 rfl) Via.refl F4 (pc' := 53) rfl d7_50 (fun T13 X14 => ?_)
  refine go_iload C X14 55 rfl d7_53 rfl ?_
  refine go_aaload C X14 A3 rfl (by decide) (v := (.ref r1)) rfl (pc' := 56) rfl d7_55 ?_
  refine go_iload C X14 58 rfl d7_56 rfl ?_
  refine go_laload C X14 AR1 (by decide) (v := (.long t13)) rfl (pc' := 59) rfl d7_58 ?_
  refine go_lsub C X14 60 rfl d7_59 ?_
  refine go_lmul C X14 61 rfl d7_60 ?_
  refine go_ladd C X14 62 rfl d7_61 ?_
  refine go_lstoreN C X14 63 rfl d7_62 #[rv a, rv qb, jv (((0 : Int64) + ((1 : Int64) * (t20 - t22))) + (((1 : Int64) * (s2.toInt64)) * (t13 - t13))), sc, jv ((1 : Int64) * (s2.toInt64)), sc, iv (3 : Int32), iv (1 : Int32), iv (1 : Int32), iv (3 : Int32)] rfl ?_
  refine go_lload C X14 65 rfl d7_63 rfl ?_
  refine go_aloadN C X14 66 rfl d7_65 rfl rfl ?_
  refine go_getF C X14 (C.w 16 rfl) Via.refl F1 (pc' := 69) rfl d7_66 (fun T15 X16 => ?_)
  refine go_aloadN C X16 70 rfl d7_69 rfl rfl ?_
  refine go_iload C X16 72 rfl d7_70 rfl ?_
  refine go_iaload C X16 AQ (by decide) (v := (.int m3)) rfl (pc' := 73) rfl d7_72 ?_
  refine go_iaload C X16 A1 b3.1 (v := (.int (at32 sz m3))) (ia_at b3.1 (by rw [hl]; exact b3.2)) (pc' := 74) rfl d7_73 ?_
  rw [z3]
  refine go_i2l C X16 75 rfl d7_74 ?_
  refine go_lmul C X16 76 rfl d7_75 ?_
  refine go_lstore C X16 78 rfl d7_76 #[rv a, rv qb, jv (((0 : Int64) + ((1 : Int64) * (t20 - t22))) + (((1 : Int64) * (s2.toInt64)) * (t13 - t13))), sc, jv (((1 : Int64) * (s2.toInt64)) * (s3.toInt64)), sc, iv (3 : Int32), iv (1 : Int32), iv (1 : Int32), iv (3 : Int32)] rfl ?_
  refine go_iload C X16 80 rfl d7_78 rfl ?_
  refine go_iconst C X16 81 rfl d7_80 (z := 1) rfl ?_
  refine go_iaddL C X16 82 rfl d7_81 (z := (4)) rfl ?_
  refine go_istore C X16 84 rfl d7_82 #[rv a, rv qb, jv (((0 : Int64) + ((1 : Int64) * (t20 - t22))) + (((1 : Int64) * (s2.toInt64)) * (t13 - t13))), sc, jv (((1 : Int64) * (s2.toInt64)) * (s3.toInt64)), sc, iv (4 : Int32), iv (1 : Int32), iv (1 : Int32), iv (3 : Int32)] rfl ?_
  refine go_iinc C X16 87 rfl d7_84 rfl (z := 1) rfl #[rv a, rv qb, jv (((0 : Int64) + ((1 : Int64) * (t20 - t22))) + (((1 : Int64) * (s2.toInt64)) * (t13 - t13))), sc, jv (((1 : Int64) * (s2.toInt64)) * (s3.toInt64)), sc, iv (4 : Int32), iv (2 : Int32), iv (1 : Int32), iv (3 : Int32)] rfl ?_
  refine go_goto C X16 d7_87 (pc' := 11) (by decide) (by decide) ?_
  refine go_iload C X16 13 rfl d7_11 rfl ?_
  refine go_aloadN C X16 14 rfl d7_13 rfl rfl ?_
  refine go_alen C X16 AQ (z := (2 : Int32)) rfl (pc' := 15) rfl d7_14 ?_
  refine go_icmp_ge C X16 d7_15 (pc' := 18) (pc2 := 90) rfl (by decide) (by decide) (fun (c15 : 2 ≤ 2) => ?_) (fun (c15 : 2 < 2) => False.elim (by first | omega | exact absurd c15 (by decide)))
  refine go_aloadN C X16 91 rfl d7_90 rfl rfl ?_
  refine go_getF C X16 (C.w 37 rfl) Via.refl F3 (pc' := 94) rfl d7_91 (fun T17 X18 => ?_)
  refine go_lloadN C X18 95 rfl d7_94 rfl ?_
  refine go_ladd C X18 96 rfl d7_95 ?_
  exact go_retJ C X18 d7_96 ⟨rfl, rfl⟩ (by decide) (by decide)
theorem ef_own_bit_3_0 (m : MethodId) (a : Addr) (qb : Addr)  : entryFrame m #[(.ref a), (.ref qb)] 10 = mkF m 0 #[rv a, rv qb, un, un, un, un, un, un, un, un] [] := by
  first | (simp [entryFrame, mkF, argsToLocals, Value.category]; done) | rfl
set_option maxRecDepth 65536 in
set_option maxHeartbeats 40000000 in
theorem own_bit_3_0 (l : Launch) (Z : State) (a0 : Array Value) (hw : ∀ d ∈ tables_1, d.before a0 Z = true) (a : Addr) (qb : Addr) (sb xb ob r0 r1 r2 r3 : Addr) (sz ix : List Int32) (m0 m1 m2 m3 s0 s1 s2 s3 : Int32) (st t00 t01 t02 t03 t04 t10 t11 t12 t13 t14 t20 t21 t22 t23 t24 t30 t31 t32 t33 t34 : Int64) (h : Heap) (n0 : Nat) (hn0 : Old Z n0 h) (F1 : Fld Z h a "com/example/covertide/covertide/engine/ParameterSets" "sizes" "[I" (.ref sb)) (F2 : Fld Z h a "com/example/covertide/covertide/engine/ParameterSets" "indexOf" "[I" (.ref xb)) (F3 : Fld Z h a "com/example/covertide/covertide/engine/ParameterSets" "start" "J" (.long st)) (F4 : Fld Z h a "com/example/covertide/covertide/engine/ParameterSets" "suffixSums" "[[J" (.ref ob)) (A1 : La Z h sb .int (ia sz)) (A2 : La Z h xb .int (ia ix)) (A3 : La Z h ob (.array .long) [(.ref r0), (.ref r1), (.ref r2), (.ref r3)]) (AR0 : La Z h r0 .long [(.long t00), (.long t01), (.long t02), (.long t03), (.long t04)]) (AR1 : La Z h r1 .long [(.long t10), (.long t11), (.long t12), (.long t13), (.long t14)]) (AR2 : La Z h r2 .long [(.long t20), (.long t21), (.long t22), (.long t23), (.long t24)]) (AR3 : La Z h r3 .long [(.long t30), (.long t31), (.long t32), (.long t33), (.long t34)]) (AQ : La Z h qb .int [(.int m0), (.int m1), (.int m2)]) (hl : sz.length = 5) (xl : ix.length = 5) (b0 : 0 ≤ m0.toInt ∧ m0.toInt < (5 : Nat)) (z0 : at32 sz m0 = s0) (b1 : 0 ≤ m1.toInt ∧ m1.toInt < (5 : Nat)) (z1 : at32 sz m1 = s1) (b2 : 0 ≤ m2.toInt ∧ m2.toInt < (5 : Nat)) (z2 : at32 sz m2 = s2) (b3 : 0 ≤ m3.toInt ∧ m3.toInt < (5 : Nat)) (z3 : at32 sz m3 = s3) (x0 : at32 ix m0 = 0) (x1 : at32 ix m1 = 1) (x2 : at32 ix m2 = 2) (x3 : at32 ix m3 = 3) :
    Con l Z (⟨"com/example/covertide/covertide/engine/ParameterSets", "bitOf", "([I)J"⟩ : MethodName) prog_10_method_12_code 10 (some .long) ({ frames := 0, cells := 0, slots := 0, locals := 0 } : Room) #[(.ref a), (.ref qb)] h n0 (fun v h' => v = some (.long (st + ((((0 : Int64) + ((1 : Int64) * (t30 - t30))) + (((1 : Int64) * s0.toInt64) * (t21 - t21))) + ((((1 : Int64) * s0.toInt64) * s1.toInt64) * (t12 - t12))))) ∧ h = h') := by
  refine con_of hw (plainFor_of_name pn_com_example_covertide_covertide_engine_ParameterSets) hn0 ?_
  intro p e s m below meth c T0 C X0
  refine Go.cast (congrArg T0.setTop (ef_own_bit_3_0 m a qb)) ?_
  refine go_lconst C X0 1 rfl d7_0 (z := 0) rfl ?_
  refine go_lstoreN C X0 2 rfl d7_1 #[rv a, rv qb, jv (0 : Int64), sc, un, un, un, un, un, un] rfl ?_
  refine go_lconst C X0 3 rfl d7_2 (z := 1) rfl ?_
  refine go_lstore C X0 5 rfl d7_3 #[rv a, rv qb, jv (0 : Int64), sc, jv (1 : Int64), sc, un, un, un, un] rfl ?_
  refine go_iconst C X0 6 rfl d7_5 (z := 0) rfl ?_
  refine go_istore C X0 8 rfl d7_6 #[rv a, rv qb, jv (0 : Int64), sc, jv (1 : Int64), sc, iv (0 : Int32), un, un, un] rfl ?_
  refine go_iconst C X0 9 rfl d7_8 (z := 0) rfl ?_
  refine go_istore C X0 11 rfl d7_9 #[rv a, rv qb, jv (0 : Int64), sc, jv (1 : Int64), sc, iv (0 : Int32), iv (0 : Int32), un, un] rfl ?_
  refine go_iload C X0 13 rfl d7_11 rfl ?_
  refine go_aloadN C X0 14 rfl d7_13 rfl rfl ?_
  refine go_alen C X0 AQ (z := (3 : Int32)) rfl (pc' := 15) rfl d7_14 ?_
  refine go_icmp_ge C X0 d7_15 (pc' := 18) (pc2 := 90) rfl (by decide) (by decide) (fun (c15 : 3 ≤ 0) => False.elim (by first | omega | exact absurd c15 (by decide))) (fun (c15 : 0 < 3) => ?_)
  refine go_aloadN C X0 19 rfl d7_18 rfl rfl ?_
  refine go_alen C X0 AQ (z := (3 : Int32)) rfl (pc' := 20) rfl d7_19 ?_
  refine go_iload C X0 22 rfl d7_20 rfl ?_
  refine go_isubL C X0 23 rfl d7_22 (z := (3)) rfl ?_
  refine go_istore C X0 25 rfl d7_23 #[rv a, rv qb, jv (0 : Int64), sc, jv (1 : Int64), sc, iv (0 : Int32), iv (0 : Int32), iv (3 : Int32), un] rfl ?_
  refine go_aloadN C X0 26 rfl d7_25 rfl rfl ?_
  refine go_getF C X0 (C.w 29 rfl) Via.refl F2 (pc' := 29) rfl d7_26 (fun T1 X2 => ?_)
  refine go_aloadN C X2 30 rfl d7_29 rfl rfl ?_
  refine go_iload C X2 32 rfl d7_30 rfl ?_
  refine go_iaload C X2 AQ (by decide) (v := (.int m0)) rfl (pc' := 33) rfl d7_32 ?_
  refine go_iaload C X2 A2 b0.1 (v := (.int (at32 ix m0))) (ia_at b0.1 (by rw [xl]; exact b0.2)) (pc' := 34) rfl d7_33 ?_
  rw [x0]
  refine go_istore C X2 36 rfl d7_34 #[rv a, rv qb, jv (0 : Int64), sc, jv (1 : Int64), sc, iv (0 : Int32), iv (0 : Int32), iv (3 : Int32), iv (0 : Int32)] rfl ?_
  refine go_lloadN C X2 37 rfl d7_36 rfl ?_
  refine go_lload C X2 39 rfl d7_37 rfl ?_
  refine go_aloadN C X2 40 rfl d7_39 rfl rfl ?_
  refine go_getF C X2 (C.w 49 rfl) Via.refl F4 (pc' := 43) rfl d7_40 (fun T3 X4 => ?_)
  refine go_iload C X4 45 rfl d7_43 rfl ?_
  refine go_aaload C X4 A3 rfl (by decide) (v := (.ref r3)) rfl (pc' := 46) rfl d7_45 ?_
  refine go_iload C X4 48 rfl d7_46 rfl ?_
  refine go_laload C X4 AR3 (by decide) (v := (.long t30)) rfl (pc' := 49) rfl d7_48 ?_
  refine go_aloadN C X4 50 rfl d7_49 rfl rfl ?_
  refine go_getF C X4 (C.w 49 rfl) Via.refl F4 (pc' := 53) rfl d7_50 (fun T5 X6 => ?_)
  refine go_iload C X6 55 rfl d7_53 rfl ?_
  refine go_aaload C X6 A3 rfl (by decide) (v := (.ref r3)) rfl (pc' := 56) rfl d7_55 ?_
  refine go_iload C X6 58 rfl d7_56 rfl ?_
  refine go_laload C X6 AR3 (by decide) (v := (.long t30)) rfl (pc' := 59) rfl d7_58 ?_
  refine go_lsub C X6 60 rfl d7_59 ?_
  refine go_lmul C X6 61 rfl d7_60 ?_
  refine go_ladd C X6 62 rfl d7_61 ?_
  refine go_lstoreN C X6 63 rfl d7_62 #[rv a, rv qb, jv ((0 : Int64) + ((1 : Int64) * (t30 - t30))), sc, jv (1 : Int64), sc, iv (0 : Int32), iv (0 : Int32), iv (3 : Int32), iv (0 : Int32)] rfl ?_
  refine go_lload C X6 65 rfl d7_63 rfl ?_
  refine go_aloadN C X6 66 rfl d7_65 rfl rfl ?_
  refine go_getF C X6 (C.w 16 rfl) Via.refl F1 (pc' := 69) rfl d7_66 (fun T7 X8 => ?_)
  refine go_aloadN C X8 70 rfl d7_69 rfl rfl ?_
  refine go_iload C X8 72 rfl d7_70 rfl ?_
  refine go_iaload C X8 AQ (by decide) (v := (.int m0)) rfl (pc' := 73) rfl d7_72 ?_
  refine go_iaload C X8 A1 b0.1 (v := (.int (at32 sz m0))) (ia_at b0.1 (by rw [hl]; exact b0.2)) (pc' := 74) rfl d7_73 ?_
  rw [z0]
  refine go_i2l C X8 75 rfl d7_74 ?_
  refine go_lmul C X8 76 rfl d7_75 ?_
  refine go_lstore C X8 78 rfl d7_76 #[rv a, rv qb, jv ((0 : Int64) + ((1 : Int64) * (t30 - t30))), sc, jv ((1 : Int64) * (s0.toInt64)), sc, iv (0 : Int32), iv (0 : Int32), iv (3 : Int32), iv (0 : Int32)] rfl ?_
  refine go_iload C X8 80 rfl d7_78 rfl ?_
  refine go_iconst C X8 81 rfl d7_80 (z := 1) rfl ?_
  refine go_iaddL C X8 82 rfl d7_81 (z := (1)) rfl ?_
  refine go_istore C X8 84 rfl d7_82 #[rv a, rv qb, jv ((0 : Int64) + ((1 : Int64) * (t30 - t30))), sc, jv ((1 : Int64) * (s0.toInt64)), sc, iv (1 : Int32), iv (0 : Int32), iv (3 : Int32), iv (0 : Int32)] rfl ?_
  refine go_iinc C X8 87 rfl d7_84 rfl (z := 1) rfl #[rv a, rv qb, jv ((0 : Int64) + ((1 : Int64) * (t30 - t30))), sc, jv ((1 : Int64) * (s0.toInt64)), sc, iv (1 : Int32), iv (1 : Int32), iv (3 : Int32), iv (0 : Int32)] rfl ?_
  refine go_goto C X8 d7_87 (pc' := 11) (by decide) (by decide) ?_
  refine go_iload C X8 13 rfl d7_11 rfl ?_
  refine go_aloadN C X8 14 rfl d7_13 rfl rfl ?_
  refine go_alen C X8 AQ (z := (3 : Int32)) rfl (pc' := 15) rfl d7_14 ?_
  refine go_icmp_ge C X8 d7_15 (pc' := 18) (pc2 := 90) rfl (by decide) (by decide) (fun (c15 : 3 ≤ 1) => False.elim (by first | omega | exact absurd c15 (by decide))) (fun (c15 : 1 < 3) => ?_)
  refine go_aloadN C X8 19 rfl d7_18 rfl rfl ?_
  refine go_alen C X8 AQ (z := (3 : Int32)) rfl (pc' := 20) rfl d7_19 ?_
  refine go_iload C X8 22 rfl d7_20 rfl ?_
  refine go_isubL C X8 23 rfl d7_22 (z := (2)) rfl ?_
  refine go_istore C X8 25 rfl d7_23 #[rv a, rv qb, jv ((0 : Int64) + ((1 : Int64) * (t30 - t30))), sc, jv ((1 : Int64) * (s0.toInt64)), sc, iv (1 : Int32), iv (1 : Int32), iv (2 : Int32), iv (0 : Int32)] rfl ?_
  refine go_aloadN C X8 26 rfl d7_25 rfl rfl ?_
  refine go_getF C X8 (C.w 29 rfl) Via.refl F2 (pc' := 29) rfl d7_26 (fun T9 X10 => ?_)
  refine go_aloadN C X10 30 rfl d7_29 rfl rfl ?_
  refine go_iload C X10 32 rfl d7_30 rfl ?_
  refine go_iaload C X10 AQ (by decide) (v := (.int m1)) rfl (pc' := 33) rfl d7_32 ?_
  refine go_iaload C X10 A2 b1.1 (v := (.int (at32 ix m1))) (ia_at b1.1 (by rw [xl]; exact b1.2)) (pc' := 34) rfl d7_33 ?_
  rw [x1]
  refine go_istore C X10 36 rfl d7_34 #[rv a, rv qb, jv ((0 : Int64) + ((1 : Int64) * (t30 - t30))), sc, jv ((1 : Int64) * (s0.toInt64)), sc, iv (1 : Int32), iv (1 : Int32), iv (2 : Int32), iv (1 : Int32)] rfl ?_
  refine go_lloadN C X10 37 rfl d7_36 rfl ?_
  refine go_lload C X10 39 rfl d7_37 rfl ?_
  refine go_aloadN C X10 40 rfl d7_39 rfl rfl ?_
  refine go_getF C X10 (C.w 49 rfl) Via.refl F4 (pc' := 43) rfl d7_40 (fun T11 X12 => ?_)
  refine go_iload C X12 45 rfl d7_43 rfl ?_
  refine go_aaload C X12 A3 rfl (by decide) (v := (.ref r2)) rfl (pc' := 46) rfl d7_45 ?_
  refine go_iload C X12 48 rfl d7_46 rfl ?_
  refine go_laload C X12 AR2 (by decide) (v := (.long t21)) rfl (pc' := 49) rfl d7_48 ?_
  refine go_aloadN C X12 50 rfl d7_49 rfl rfl ?_
  refine go_getF C X12 (C.w 49 rfl) Via.refl F4 (pc' := 53) rfl d7_50 (fun T13 X14 => ?_)
  refine go_iload C X14 55 rfl d7_53 rfl ?_
  refine go_aaload C X14 A3 rfl (by decide) (v := (.ref r2)) rfl (pc' := 56) rfl d7_55 ?_
  refine go_iload C X14 58 rfl d7_56 rfl ?_
  refine go_laload C X14 AR2 (by decide) (v := (.long t21)) rfl (pc' := 59) rfl d7_58 ?_
  refine go_lsub C X14 60 rfl d7_59 ?_
  refine go_lmul C X14 61 rfl d7_60 ?_
  refine go_ladd C X14 62 rfl d7_61 ?_
  refine go_lstoreN C X14 63 rfl d7_62 #[rv a, rv qb, jv (((0 : Int64) + ((1 : Int64) * (t30 - t30))) + (((1 : Int64) * (s0.toInt64)) * (t21 - t21))), sc, jv ((1 : Int64) * (s0.toInt64)), sc, iv (1 : Int32), iv (1 : Int32), iv (2 : Int32), iv (1 : Int32)] rfl ?_
  refine go_lload C X14 65 rfl d7_63 rfl ?_
  refine go_aloadN C X14 66 rfl d7_65 rfl rfl ?_
  refine go_getF C X14 (C.w 16 rfl) Via.refl F1 (pc' := 69) rfl d7_66 (fun T15 X16 => ?_)
  refine go_aloadN C X16 70 rfl d7_69 rfl rfl ?_
  refine go_iload C X16 72 rfl d7_70 rfl ?_
  refine go_iaload C X16 AQ (by decide) (v := (.int m1)) rfl (pc' := 73) rfl d7_72 ?_
  refine go_iaload C X16 A1 b1.1 (v := (.int (at32 sz m1))) (ia_at b1.1 (by rw [hl]; exact b1.2)) (pc' := 74) rfl d7_73 ?_
  rw [z1]
  refine go_i2l C X16 75 rfl d7_74 ?_
  refine go_lmul C X16 76 rfl d7_75 ?_
  refine go_lstore C X16 78 rfl d7_76 #[rv a, rv qb, jv (((0 : Int64) + ((1 : Int64) * (t30 - t30))) + (((1 : Int64) * (s0.toInt64)) * (t21 - t21))), sc, jv (((1 : Int64) * (s0.toInt64)) * (s1.toInt64)), sc, iv (1 : Int32), iv (1 : Int32), iv (2 : Int32), iv (1 : Int32)] rfl ?_
  refine go_iload C X16 80 rfl d7_78 rfl ?_
  refine go_iconst C X16 81 rfl d7_80 (z := 1) rfl ?_
  refine go_iaddL C X16 82 rfl d7_81 (z := (2)) rfl ?_
  refine go_istore C X16 84 rfl d7_82 #[rv a, rv qb, jv (((0 : Int64) + ((1 : Int64) * (t30 - t30))) + (((1 : Int64) * (s0.toInt64)) * (t21 - t21))), sc, jv (((1 : Int64) * (s0.toInt64)) * (s1.toInt64)), sc, iv (2 : Int32), iv (1 : Int32), iv (2 : Int32), iv (1 : Int32)] rfl ?_
  refine go_iinc C X16 87 rfl d7_84 rfl (z := 1) rfl #[rv a, rv qb, jv (((0 : Int64) + ((1 : Int64) * (t30 - t30))) + (((1 : Int64) * (s0.toInt64)) * (t21 - t21))), sc, jv (((1 : Int64) * (s0.toInt64)) * (s1.toInt64)), sc, iv (2 : Int32), iv (2 : Int32), iv (2 : Int32), iv (1 : Int32)] rfl ?_
  refine go_goto C X16 d7_87 (pc' := 11) (by decide) (by decide) ?_
  refine go_iload C X16 13 rfl d7_11 rfl ?_
  refine go_aloadN C X16 14 rfl d7_13 rfl rfl ?_
  refine go_alen C X16 AQ (z := (3 : Int32)) rfl (pc' := 15) rfl d7_14 ?_
  refine go_icmp_ge C X16 d7_15 (pc' := 18) (pc2 := 90) rfl (by decide) (by decide) (fun (c15 : 3 ≤ 2) => False.elim (by first | omega | exact absurd c15 (by decide))) (fun (c15 : 2 < 3) => ?_)
  refine go_aloadN C X16 19 rfl d7_18 rfl rfl ?_
  refine go_alen C X16 AQ (z := (3 : Int32)) rfl (pc' := 20) rfl d7_19 ?_
  refine go_iload C X16 22 rfl d7_20 rfl ?_
  refine go_isubL C X16 23 rfl d7_22 (z := (1)) rfl ?_
  refine go_istore C X16 25 rfl d7_23 #[rv a, rv qb, jv (((0 : Int64) + ((1 : Int64) * (t30 - t30))) + (((1 : Int64) * (s0.toInt64)) * (t21 - t21))), sc, jv (((1 : Int64) * (s0.toInt64)) * (s1.toInt64)), sc, iv (2 : Int32), iv (2 : Int32), iv (1 : Int32), iv (1 : Int32)] rfl ?_
  refine go_aloadN C X16 26 rfl d7_25 rfl rfl ?_
  refine go_getF C X16 (C.w 29 rfl) Via.refl F2 (pc' := 29) rfl d7_26 (fun T17 X18 => ?_)
  refine go_aloadN C X18 30 rfl d7_29 rfl rfl ?_
  refine go_iload C X18 32 rfl d7_30 rfl ?_
  refine go_iaload C X18 AQ (by decide) (v := (.int m2)) rfl (pc' := 33) rfl d7_32 ?_
  refine go_iaload C X18 A2 b2.1 (v := (.int (at32 ix m2))) (ia_at b2.1 (by rw [xl]; exact b2.2)) (pc' := 34) rfl d7_33 ?_
  rw [x2]
  refine go_istore C X18 36 rfl d7_34 #[rv a, rv qb, jv (((0 : Int64) + ((1 : Int64) * (t30 - t30))) + (((1 : Int64) * (s0.toInt64)) * (t21 - t21))), sc, jv (((1 : Int64) * (s0.toInt64)) * (s1.toInt64)), sc, iv (2 : Int32), iv (2 : Int32), iv (1 : Int32), iv (2 : Int32)] rfl ?_
  refine go_lloadN C X18 37 rfl d7_36 rfl ?_
  refine go_lload C X18 39 rfl d7_37 rfl ?_
  refine go_aloadN C X18 40 rfl d7_39 rfl rfl ?_
  refine go_getF C X18 (C.w 49 rfl) Via.refl F4 (pc' := 43) rfl d7_40 (fun T19 X20 => ?_)
  refine go_iload C X20 45 rfl d7_43 rfl ?_
  refine go_aaload C X20 A3 rfl (by decide) (v := (.ref r1)) rfl (pc' := 46) rfl d7_45 ?_
  refine go_iload C X20 48 rfl d7_46 rfl ?_
  refine go_laload C X20 AR1 (by decide) (v := (.long t12)) rfl (pc' := 49) rfl d7_48 ?_
  refine go_aloadN C X20 50 rfl d7_49 rfl rfl ?_
  refine go_getF C X20 (C.w 49 rfl) Via.refl F4 (pc' := 53) rfl d7_50 (fun T21 X22 => ?_)
  refine go_iload C X22 55 rfl d7_53 rfl ?_
  refine go_aaload C X22 A3 rfl (by decide) (v := (.ref r1)) rfl (pc' := 56) rfl d7_55 ?_
  refine go_iload C X22 58 rfl d7_56 rfl ?_
  refine go_laload C X22 AR1 (by decide) (v := (.long t12)) rfl (pc' := 59) rfl d7_58 ?_
  refine go_lsub C X22 60 rfl d7_59 ?_
  refine go_lmul C X22 61 rfl d7_60 ?_
  refine go_ladd C X22 62 rfl d7_61 ?_
  refine go_lstoreN C X22 63 rfl d7_62 #[rv a, rv qb, jv ((((0 : Int64) + ((1 : Int64) * (t30 - t30))) + (((1 : Int64) * (s0.toInt64)) * (t21 - t21))) + ((((1 : Int64) * (s0.toInt64)) * (s1.toInt64)) * (t12 - t12))), sc, jv (((1 : Int64) * (s0.toInt64)) * (s1.toInt64)), sc, iv (2 : Int32), iv (2 : Int32), iv (1 : Int32), iv (2 : Int32)] rfl ?_
  refine go_lload C X22 65 rfl d7_63 rfl ?_
  refine go_aloadN C X22 66 rfl d7_65 rfl rfl ?_
  refine go_getF C X22 (C.w 16 rfl) Via.refl F1 (pc' := 69) rfl d7_66 (fun T23 X24 => ?_)
  refine go_aloadN C X24 70 rfl d7_69 rfl rfl ?_
  refine go_iload C X24 72 rfl d7_70 rfl ?_
  refine go_iaload C X24 AQ (by decide) (v := (.int m2)) rfl (pc' := 73) rfl d7_72 ?_
  refine go_iaload C X24 A1 b2.1 (v := (.int (at32 sz m2))) (ia_at b2.1 (by rw [hl]; exact b2.2)) (pc' := 74) rfl d7_73 ?_
  rw [z2]
  refine go_i2l C X24 75 rfl d7_74 ?_
  refine go_lmul C X24 76 rfl d7_75 ?_
  refine go_lstore C X24 78 rfl d7_76 #[rv a, rv qb, jv ((((0 : Int64) + ((1 : Int64) * (t30 - t30))) + (((1 : Int64) * (s0.toInt64)) * (t21 - t21))) + ((((1 : Int64) * (s0.toInt64)) * (s1.toInt64)) * (t12 - t12))), sc, jv ((((1 : Int64) * (s0.toInt64)) * (s1.toInt64)) * (s2.toInt64)), sc, iv (2 : Int32), iv (2 : Int32), iv (1 : Int32), iv (2 : Int32)] rfl ?_
  refine go_iload C X24 80 rfl d7_78 rfl ?_
  refine go_iconst C X24 81 rfl d7_80 (z := 1) rfl ?_
  refine go_iaddL C X24 82 rfl d7_81 (z := (3)) rfl ?_
  refine go_istore C X24 84 rfl d7_82 #[rv a, rv qb, jv ((((0 : Int64) + ((1 : Int64) * (t30 - t30))) + (((1 : Int64) * (s0.toInt64)) * (t21 - t21))) + ((((1 : Int64) * (s0.toInt64)) * (s1.toInt64)) * (t12 - t12))), sc, jv ((((1 : Int64) * (s0.toInt64)) * (s1.toInt64)) * (s2.toInt64)), sc, iv (3 : Int32), iv (2 : Int32), iv (1 : Int32), iv (2 : Int32)] rfl ?_
  refine go_iinc C X24 87 rfl d7_84 rfl (z := 1) rfl #[rv a, rv qb, jv ((((0 : Int64) + ((1 : Int64) * (t30 - t30))) + (((1 : Int64) * (s0.toInt64)) * (t21 - t21))) + ((((1 : Int64) * (s0.toInt64)) * (s1.toInt64)) * (t12 - t12))), sc, jv ((((1 : Int64) * (s0.toInt64)) * (s1.toInt64)) * (s2.toInt64)), sc, iv (3 : Int32), iv (3 : Int32), iv (1 : Int32), iv (2 : Int32)] rfl ?_
  refine go_goto C X24 d7_87 (pc' := 11) (by decide) (by decide) ?_
  refine go_iload C X24 13 rfl d7_11 rfl ?_
  refine go_aloadN C X24 14 rfl d7_13 rfl rfl ?_
  refine go_alen C X24 AQ (z := (3 : Int32)) rfl (pc' := 15) rfl d7_14 ?_
  refine go_icmp_ge C X24 d7_15 (pc' := 18) (pc2 := 90) rfl (by decide) (by decide) (fun (c15 : 3 ≤ 3) => ?_) (fun (c15 : 3 < 3) => False.elim (by first | omega | exact absurd c15 (by decide)))
  refine go_aloadN C X24 91 rfl d7_90 rfl rfl ?_
  refine go_getF C X24 (C.w 37 rfl) Via.refl F3 (pc' := 94) rfl d7_91 (fun T25 X26 => ?_)
  refine go_lloadN C X26 95 rfl d7_94 rfl ?_
  refine go_ladd C X26 96 rfl d7_95 ?_
  exact go_retJ C X26 d7_96 ⟨rfl, rfl⟩ (by decide) (by decide)
theorem ef_own_bit_3_1 (m : MethodId) (a : Addr) (qb : Addr)  : entryFrame m #[(.ref a), (.ref qb)] 10 = mkF m 0 #[rv a, rv qb, un, un, un, un, un, un, un, un] [] := by
  first | (simp [entryFrame, mkF, argsToLocals, Value.category]; done) | rfl
set_option maxRecDepth 65536 in
set_option maxHeartbeats 40000000 in
theorem own_bit_3_1 (l : Launch) (Z : State) (a0 : Array Value) (hw : ∀ d ∈ tables_1, d.before a0 Z = true) (a : Addr) (qb : Addr) (sb xb ob r0 r1 r2 r3 : Addr) (sz ix : List Int32) (m0 m1 m2 m3 s0 s1 s2 s3 : Int32) (st t00 t01 t02 t03 t04 t10 t11 t12 t13 t14 t20 t21 t22 t23 t24 t30 t31 t32 t33 t34 : Int64) (h : Heap) (n0 : Nat) (hn0 : Old Z n0 h) (F1 : Fld Z h a "com/example/covertide/covertide/engine/ParameterSets" "sizes" "[I" (.ref sb)) (F2 : Fld Z h a "com/example/covertide/covertide/engine/ParameterSets" "indexOf" "[I" (.ref xb)) (F3 : Fld Z h a "com/example/covertide/covertide/engine/ParameterSets" "start" "J" (.long st)) (F4 : Fld Z h a "com/example/covertide/covertide/engine/ParameterSets" "suffixSums" "[[J" (.ref ob)) (A1 : La Z h sb .int (ia sz)) (A2 : La Z h xb .int (ia ix)) (A3 : La Z h ob (.array .long) [(.ref r0), (.ref r1), (.ref r2), (.ref r3)]) (AR0 : La Z h r0 .long [(.long t00), (.long t01), (.long t02), (.long t03), (.long t04)]) (AR1 : La Z h r1 .long [(.long t10), (.long t11), (.long t12), (.long t13), (.long t14)]) (AR2 : La Z h r2 .long [(.long t20), (.long t21), (.long t22), (.long t23), (.long t24)]) (AR3 : La Z h r3 .long [(.long t30), (.long t31), (.long t32), (.long t33), (.long t34)]) (AQ : La Z h qb .int [(.int m0), (.int m1), (.int m3)]) (hl : sz.length = 5) (xl : ix.length = 5) (b0 : 0 ≤ m0.toInt ∧ m0.toInt < (5 : Nat)) (z0 : at32 sz m0 = s0) (b1 : 0 ≤ m1.toInt ∧ m1.toInt < (5 : Nat)) (z1 : at32 sz m1 = s1) (b2 : 0 ≤ m2.toInt ∧ m2.toInt < (5 : Nat)) (z2 : at32 sz m2 = s2) (b3 : 0 ≤ m3.toInt ∧ m3.toInt < (5 : Nat)) (z3 : at32 sz m3 = s3) (x0 : at32 ix m0 = 0) (x1 : at32 ix m1 = 1) (x2 : at32 ix m2 = 2) (x3 : at32 ix m3 = 3) :
    Con l Z (⟨"com/example/covertide/covertide/engine/ParameterSets", "bitOf", "([I)J"⟩ : MethodName) prog_10_method_12_code 10 (some .long) ({ frames := 0, cells := 0, slots := 0, locals := 0 } : Room) #[(.ref a), (.ref qb)] h n0 (fun v h' => v = some (.long (st + ((((0 : Int64) + ((1 : Int64) * (t30 - t30))) + (((1 : Int64) * s0.toInt64) * (t21 - t21))) + ((((1 : Int64) * s0.toInt64) * s1.toInt64) * (t12 - t13))))) ∧ h = h') := by
  refine con_of hw (plainFor_of_name pn_com_example_covertide_covertide_engine_ParameterSets) hn0 ?_
  intro p e s m below meth c T0 C X0
  refine Go.cast (congrArg T0.setTop (ef_own_bit_3_1 m a qb)) ?_
  refine go_lconst C X0 1 rfl d7_0 (z := 0) rfl ?_
  refine go_lstoreN C X0 2 rfl d7_1 #[rv a, rv qb, jv (0 : Int64), sc, un, un, un, un, un, un] rfl ?_
  refine go_lconst C X0 3 rfl d7_2 (z := 1) rfl ?_
  refine go_lstore C X0 5 rfl d7_3 #[rv a, rv qb, jv (0 : Int64), sc, jv (1 : Int64), sc, un, un, un, un] rfl ?_
  refine go_iconst C X0 6 rfl d7_5 (z := 0) rfl ?_
  refine go_istore C X0 8 rfl d7_6 #[rv a, rv qb, jv (0 : Int64), sc, jv (1 : Int64), sc, iv (0 : Int32), un, un, un] rfl ?_
  refine go_iconst C X0 9 rfl d7_8 (z := 0) rfl ?_
  refine go_istore C X0 11 rfl d7_9 #[rv a, rv qb, jv (0 : Int64), sc, jv (1 : Int64), sc, iv (0 : Int32), iv (0 : Int32), un, un] rfl ?_
  refine go_iload C X0 13 rfl d7_11 rfl ?_
  refine go_aloadN C X0 14 rfl d7_13 rfl rfl ?_
  refine go_alen C X0 AQ (z := (3 : Int32)) rfl (pc' := 15) rfl d7_14 ?_
  refine go_icmp_ge C X0 d7_15 (pc' := 18) (pc2 := 90) rfl (by decide) (by decide) (fun (c15 : 3 ≤ 0) => False.elim (by first | omega | exact absurd c15 (by decide))) (fun (c15 : 0 < 3) => ?_)
  refine go_aloadN C X0 19 rfl d7_18 rfl rfl ?_
  refine go_alen C X0 AQ (z := (3 : Int32)) rfl (pc' := 20) rfl d7_19 ?_
  refine go_iload C X0 22 rfl d7_20 rfl ?_
  refine go_isubL C X0 23 rfl d7_22 (z := (3)) rfl ?_
  refine go_istore C X0 25 rfl d7_23 #[rv a, rv qb, jv (0 : Int64), sc, jv (1 : Int64), sc, iv (0 : Int32), iv (0 : Int32), iv (3 : Int32), un] rfl ?_
  refine go_aloadN C X0 26 rfl d7_25 rfl rfl ?_
  refine go_getF C X0 (C.w 29 rfl) Via.refl F2 (pc' := 29) rfl d7_26 (fun T1 X2 => ?_)
  refine go_aloadN C X2 30 rfl d7_29 rfl rfl ?_
  refine go_iload C X2 32 rfl d7_30 rfl ?_
  refine go_iaload C X2 AQ (by decide) (v := (.int m0)) rfl (pc' := 33) rfl d7_32 ?_
  refine go_iaload C X2 A2 b0.1 (v := (.int (at32 ix m0))) (ia_at b0.1 (by rw [xl]; exact b0.2)) (pc' := 34) rfl d7_33 ?_
  rw [x0]
  refine go_istore C X2 36 rfl d7_34 #[rv a, rv qb, jv (0 : Int64), sc, jv (1 : Int64), sc, iv (0 : Int32), iv (0 : Int32), iv (3 : Int32), iv (0 : Int32)] rfl ?_
  refine go_lloadN C X2 37 rfl d7_36 rfl ?_
  refine go_lload C X2 39 rfl d7_37 rfl ?_
  refine go_aloadN C X2 40 rfl d7_39 rfl rfl ?_
  refine go_getF C X2 (C.w 49 rfl) Via.refl F4 (pc' := 43) rfl d7_40 (fun T3 X4 => ?_)
  refine go_iload C X4 45 rfl d7_43 rfl ?_
  refine go_aaload C X4 A3 rfl (by decide) (v := (.ref r3)) rfl (pc' := 46) rfl d7_45 ?_
  refine go_iload C X4 48 rfl d7_46 rfl ?_
  refine go_laload C X4 AR3 (by decide) (v := (.long t30)) rfl (pc' := 49) rfl d7_48 ?_
  refine go_aloadN C X4 50 rfl d7_49 rfl rfl ?_
  refine go_getF C X4 (C.w 49 rfl) Via.refl F4 (pc' := 53) rfl d7_50 (fun T5 X6 => ?_)
  refine go_iload C X6 55 rfl d7_53 rfl ?_
  refine go_aaload C X6 A3 rfl (by decide) (v := (.ref r3)) rfl (pc' := 56) rfl d7_55 ?_
  refine go_iload C X6 58 rfl d7_56 rfl ?_
  refine go_laload C X6 AR3 (by decide) (v := (.long t30)) rfl (pc' := 59) rfl d7_58 ?_
  refine go_lsub C X6 60 rfl d7_59 ?_
  refine go_lmul C X6 61 rfl d7_60 ?_
  refine go_ladd C X6 62 rfl d7_61 ?_
  refine go_lstoreN C X6 63 rfl d7_62 #[rv a, rv qb, jv ((0 : Int64) + ((1 : Int64) * (t30 - t30))), sc, jv (1 : Int64), sc, iv (0 : Int32), iv (0 : Int32), iv (3 : Int32), iv (0 : Int32)] rfl ?_
  refine go_lload C X6 65 rfl d7_63 rfl ?_
  refine go_aloadN C X6 66 rfl d7_65 rfl rfl ?_
  refine go_getF C X6 (C.w 16 rfl) Via.refl F1 (pc' := 69) rfl d7_66 (fun T7 X8 => ?_)
  refine go_aloadN C X8 70 rfl d7_69 rfl rfl ?_
  refine go_iload C X8 72 rfl d7_70 rfl ?_
  refine go_iaload C X8 AQ (by decide) (v := (.int m0)) rfl (pc' := 73) rfl d7_72 ?_
  refine go_iaload C X8 A1 b0.1 (v := (.int (at32 sz m0))) (ia_at b0.1 (by rw [hl]; exact b0.2)) (pc' := 74) rfl d7_73 ?_
  rw [z0]
  refine go_i2l C X8 75 rfl d7_74 ?_
  refine go_lmul C X8 76 rfl d7_75 ?_
  refine go_lstore C X8 78 rfl d7_76 #[rv a, rv qb, jv ((0 : Int64) + ((1 : Int64) * (t30 - t30))), sc, jv ((1 : Int64) * (s0.toInt64)), sc, iv (0 : Int32), iv (0 : Int32), iv (3 : Int32), iv (0 : Int32)] rfl ?_
  refine go_iload C X8 80 rfl d7_78 rfl ?_
  refine go_iconst C X8 81 rfl d7_80 (z := 1) rfl ?_
  refine go_iaddL C X8 82 rfl d7_81 (z := (1)) rfl ?_
  refine go_istore C X8 84 rfl d7_82 #[rv a, rv qb, jv ((0 : Int64) + ((1 : Int64) * (t30 - t30))), sc, jv ((1 : Int64) * (s0.toInt64)), sc, iv (1 : Int32), iv (0 : Int32), iv (3 : Int32), iv (0 : Int32)] rfl ?_
  refine go_iinc C X8 87 rfl d7_84 rfl (z := 1) rfl #[rv a, rv qb, jv ((0 : Int64) + ((1 : Int64) * (t30 - t30))), sc, jv ((1 : Int64) * (s0.toInt64)), sc, iv (1 : Int32), iv (1 : Int32), iv (3 : Int32), iv (0 : Int32)] rfl ?_
  refine go_goto C X8 d7_87 (pc' := 11) (by decide) (by decide) ?_
  refine go_iload C X8 13 rfl d7_11 rfl ?_
  refine go_aloadN C X8 14 rfl d7_13 rfl rfl ?_
  refine go_alen C X8 AQ (z := (3 : Int32)) rfl (pc' := 15) rfl d7_14 ?_
  refine go_icmp_ge C X8 d7_15 (pc' := 18) (pc2 := 90) rfl (by decide) (by decide) (fun (c15 : 3 ≤ 1) => False.elim (by first | omega | exact absurd c15 (by decide))) (fun (c15 : 1 < 3) => ?_)
  refine go_aloadN C X8 19 rfl d7_18 rfl rfl ?_
  refine go_alen C X8 AQ (z := (3 : Int32)) rfl (pc' := 20) rfl d7_19 ?_
  refine go_iload C X8 22 rfl d7_20 rfl ?_
  refine go_isubL C X8 23 rfl d7_22 (z := (2)) rfl ?_
  refine go_istore C X8 25 rfl d7_23 #[rv a, rv qb, jv ((0 : Int64) + ((1 : Int64) * (t30 - t30))), sc, jv ((1 : Int64) * (s0.toInt64)), sc, iv (1 : Int32), iv (1 : Int32), iv (2 : Int32), iv (0 : Int32)] rfl ?_
  refine go_aloadN C X8 26 rfl d7_25 rfl rfl ?_
  refine go_getF C X8 (C.w 29 rfl) Via.refl F2 (pc' := 29) rfl d7_26 (fun T9 X10 => ?_)
  refine go_aloadN C X10 30 rfl d7_29 rfl rfl ?_
  refine go_iload C X10 32 rfl d7_30 rfl ?_
  refine go_iaload C X10 AQ (by decide) (v := (.int m1)) rfl (pc' := 33) rfl d7_32 ?_
  refine go_iaload C X10 A2 b1.1 (v := (.int (at32 ix m1))) (ia_at b1.1 (by rw [xl]; exact b1.2)) (pc' := 34) rfl d7_33 ?_
  rw [x1]
  refine go_istore C X10 36 rfl d7_34 #[rv a, rv qb, jv ((0 : Int64) + ((1 : Int64) * (t30 - t30))), sc, jv ((1 : Int64) * (s0.toInt64)), sc, iv (1 : Int32), iv (1 : Int32), iv (2 : Int32), iv (1 : Int32)] rfl ?_
  refine go_lloadN C X10 37 rfl d7_36 rfl ?_
  refine go_lload C X10 39 rfl d7_37 rfl ?_
  refine go_aloadN C X10 40 rfl d7_39 rfl rfl ?_
  refine go_getF C X10 (C.w 49 rfl) Via.refl F4 (pc' := 43) rfl d7_40 (fun T11 X12 => ?_)
  refine go_iload C X12 45 rfl d7_43 rfl ?_
  refine go_aaload C X12 A3 rfl (by decide) (v := (.ref r2)) rfl (pc' := 46) rfl d7_45 ?_
  refine go_iload C X12 48 rfl d7_46 rfl ?_
  refine go_laload C X12 AR2 (by decide) (v := (.long t21)) rfl (pc' := 49) rfl d7_48 ?_
  refine go_aloadN C X12 50 rfl d7_49 rfl rfl ?_
  refine go_getF C X12 (C.w 49 rfl) Via.refl F4 (pc' := 53) rfl d7_50 (fun T13 X14 => ?_)
  refine go_iload C X14 55 rfl d7_53 rfl ?_
  refine go_aaload C X14 A3 rfl (by decide) (v := (.ref r2)) rfl (pc' := 56) rfl d7_55 ?_
  refine go_iload C X14 58 rfl d7_56 rfl ?_
  refine go_laload C X14 AR2 (by decide) (v := (.long t21)) rfl (pc' := 59) rfl d7_58 ?_
  refine go_lsub C X14 60 rfl d7_59 ?_
  refine go_lmul C X14 61 rfl d7_60 ?_
  refine go_ladd C X14 62 rfl d7_61 ?_
  refine go_lstoreN C X14 63 rfl d7_62 #[rv a, rv qb, jv (((0 : Int64) + ((1 : Int64) * (t30 - t30))) + (((1 : Int64) * (s0.toInt64)) * (t21 - t21))), sc, jv ((1 : Int64) * (s0.toInt64)), sc, iv (1 : Int32), iv (1 : Int32), iv (2 : Int32), iv (1 : Int32)] rfl ?_
  refine go_lload C X14 65 rfl d7_63 rfl ?_
  refine go_aloadN C X14 66 rfl d7_65 rfl rfl ?_
  refine go_getF C X14 (C.w 16 rfl) Via.refl F1 (pc' := 69) rfl d7_66 (fun T15 X16 => ?_)
  refine go_aloadN C X16 70 rfl d7_69 rfl rfl ?_
  refine go_iload C X16 72 rfl d7_70 rfl ?_
  refine go_iaload C X16 AQ (by decide) (v := (.int m1)) rfl (pc' := 73) rfl d7_72 ?_
  refine go_iaload C X16 A1 b1.1 (v := (.int (at32 sz m1))) (ia_at b1.1 (by rw [hl]; exact b1.2)) (pc' := 74) rfl d7_73 ?_
  rw [z1]
  refine go_i2l C X16 75 rfl d7_74 ?_
  refine go_lmul C X16 76 rfl d7_75 ?_
  refine go_lstore C X16 78 rfl d7_76 #[rv a, rv qb, jv (((0 : Int64) + ((1 : Int64) * (t30 - t30))) + (((1 : Int64) * (s0.toInt64)) * (t21 - t21))), sc, jv (((1 : Int64) * (s0.toInt64)) * (s1.toInt64)), sc, iv (1 : Int32), iv (1 : Int32), iv (2 : Int32), iv (1 : Int32)] rfl ?_
  refine go_iload C X16 80 rfl d7_78 rfl ?_
  refine go_iconst C X16 81 rfl d7_80 (z := 1) rfl ?_
  refine go_iaddL C X16 82 rfl d7_81 (z := (2)) rfl ?_
  refine go_istore C X16 84 rfl d7_82 #[rv a, rv qb, jv (((0 : Int64) + ((1 : Int64) * (t30 - t30))) + (((1 : Int64) * (s0.toInt64)) * (t21 - t21))), sc, jv (((1 : Int64) * (s0.toInt64)) * (s1.toInt64)), sc, iv (2 : Int32), iv (1 : Int32), iv (2 : Int32), iv (1 : Int32)] rfl ?_
  refine go_iinc C X16 87 rfl d7_84 rfl (z := 1) rfl #[rv a, rv qb, jv (((0 : Int64) + ((1 : Int64) * (t30 - t30))) + (((1 : Int64) * (s0.toInt64)) * (t21 - t21))), sc, jv (((1 : Int64) * (s0.toInt64)) * (s1.toInt64)), sc, iv (2 : Int32), iv (2 : Int32), iv (2 : Int32), iv (1 : Int32)] rfl ?_
  refine go_goto C X16 d7_87 (pc' := 11) (by decide) (by decide) ?_
  refine go_iload C X16 13 rfl d7_11 rfl ?_
  refine go_aloadN C X16 14 rfl d7_13 rfl rfl ?_
  refine go_alen C X16 AQ (z := (3 : Int32)) rfl (pc' := 15) rfl d7_14 ?_
  refine go_icmp_ge C X16 d7_15 (pc' := 18) (pc2 := 90) rfl (by decide) (by decide) (fun (c15 : 3 ≤ 2) => False.elim (by first | omega | exact absurd c15 (by decide))) (fun (c15 : 2 < 3) => ?_)
  refine go_aloadN C X16 19 rfl d7_18 rfl rfl ?_
  refine go_alen C X16 AQ (z := (3 : Int32)) rfl (pc' := 20) rfl d7_19 ?_
  refine go_iload C X16 22 rfl d7_20 rfl ?_
  refine go_isubL C X16 23 rfl d7_22 (z := (1)) rfl ?_
  refine go_istore C X16 25 rfl d7_23 #[rv a, rv qb, jv (((0 : Int64) + ((1 : Int64) * (t30 - t30))) + (((1 : Int64) * (s0.toInt64)) * (t21 - t21))), sc, jv (((1 : Int64) * (s0.toInt64)) * (s1.toInt64)), sc, iv (2 : Int32), iv (2 : Int32), iv (1 : Int32), iv (1 : Int32)] rfl ?_
  refine go_aloadN C X16 26 rfl d7_25 rfl rfl ?_
  refine go_getF C X16 (C.w 29 rfl) Via.refl F2 (pc' := 29) rfl d7_26 (fun T17 X18 => ?_)
  refine go_aloadN C X18 30 rfl d7_29 rfl rfl ?_
  refine go_iload C X18 32 rfl d7_30 rfl ?_
  refine go_iaload C X18 AQ (by decide) (v := (.int m3)) rfl (pc' := 33) rfl d7_32 ?_
  refine go_iaload C X18 A2 b3.1 (v := (.int (at32 ix m3))) (ia_at b3.1 (by rw [xl]; exact b3.2)) (pc' := 34) rfl d7_33 ?_
  rw [x3]
  refine go_istore C X18 36 rfl d7_34 #[rv a, rv qb, jv (((0 : Int64) + ((1 : Int64) * (t30 - t30))) + (((1 : Int64) * (s0.toInt64)) * (t21 - t21))), sc, jv (((1 : Int64) * (s0.toInt64)) * (s1.toInt64)), sc, iv (2 : Int32), iv (2 : Int32), iv (1 : Int32), iv (3 : Int32)] rfl ?_
  refine go_lloadN C X18 37 rfl d7_36 rfl ?_
  refine go_lload C X18 39 rfl d7_37 rfl ?_
  refine go_aloadN C X18 40 rfl d7_39 rfl rfl ?_
  refine go_getF C X18 (C.w 49 rfl) Via.refl F4 (pc' := 43) rfl d7_40 (fun T19 X20 => ?_)
  refine go_iload C X20 45 rfl d7_43 rfl ?_
  refine go_aaload C X20 A3 rfl (by decide) (v := (.ref r1)) rfl (pc' := 46) rfl d7_45 ?_
  refine go_iload C X20 48 rfl d7_46 rfl ?_
  refine go_laload C X20 AR1 (by decide) (v := (.long t12)) rfl (pc' := 49) rfl d7_48 ?_
  refine go_aloadN C X20 50 rfl d7_49 rfl rfl ?_
  refine go_getF C X20 (C.w 49 rfl) Via.refl F4 (pc' := 53) rfl d7_50 (fun T21 X22 => ?_)
  refine go_iload C X22 55 rfl d7_53 rfl ?_
  refine go_aaload C X22 A3 rfl (by decide) (v := (.ref r1)) rfl (pc' := 56) rfl d7_55 ?_
  refine go_iload C X22 58 rfl d7_56 rfl ?_
  refine go_laload C X22 AR1 (by decide) (v := (.long t13)) rfl (pc' := 59) rfl d7_58 ?_
  refine go_lsub C X22 60 rfl d7_59 ?_
  refine go_lmul C X22 61 rfl d7_60 ?_
  refine go_ladd C X22 62 rfl d7_61 ?_
  refine go_lstoreN C X22 63 rfl d7_62 #[rv a, rv qb, jv ((((0 : Int64) + ((1 : Int64) * (t30 - t30))) + (((1 : Int64) * (s0.toInt64)) * (t21 - t21))) + ((((1 : Int64) * (s0.toInt64)) * (s1.toInt64)) * (t12 - t13))), sc, jv (((1 : Int64) * (s0.toInt64)) * (s1.toInt64)), sc, iv (2 : Int32), iv (2 : Int32), iv (1 : Int32), iv (3 : Int32)] rfl ?_
  refine go_lload C X22 65 rfl d7_63 rfl ?_
  refine go_aloadN C X22 66 rfl d7_65 rfl rfl ?_
  refine go_getF C X22 (C.w 16 rfl) Via.refl F1 (pc' := 69) rfl d7_66 (fun T23 X24 => ?_)
  refine go_aloadN C X24 70 rfl d7_69 rfl rfl ?_
  refine go_iload C X24 72 rfl d7_70 rfl ?_
  refine go_iaload C X24 AQ (by decide) (v := (.int m3)) rfl (pc' := 73) rfl d7_72 ?_
  refine go_iaload C X24 A1 b3.1 (v := (.int (at32 sz m3))) (ia_at b3.1 (by rw [hl]; exact b3.2)) (pc' := 74) rfl d7_73 ?_
  rw [z3]
  refine go_i2l C X24 75 rfl d7_74 ?_
  refine go_lmul C X24 76 rfl d7_75 ?_
  refine go_lstore C X24 78 rfl d7_76 #[rv a, rv qb, jv ((((0 : Int64) + ((1 : Int64) * (t30 - t30))) + (((1 : Int64) * (s0.toInt64)) * (t21 - t21))) + ((((1 : Int64) * (s0.toInt64)) * (s1.toInt64)) * (t12 - t13))), sc, jv ((((1 : Int64) * (s0.toInt64)) * (s1.toInt64)) * (s3.toInt64)), sc, iv (2 : Int32), iv (2 : Int32), iv (1 : Int32), iv (3 : Int32)] rfl ?_
  refine go_iload C X24 80 rfl d7_78 rfl ?_
  refine go_iconst C X24 81 rfl d7_80 (z := 1) rfl ?_
  refine go_iaddL C X24 82 rfl d7_81 (z := (4)) rfl ?_
  refine go_istore C X24 84 rfl d7_82 #[rv a, rv qb, jv ((((0 : Int64) + ((1 : Int64) * (t30 - t30))) + (((1 : Int64) * (s0.toInt64)) * (t21 - t21))) + ((((1 : Int64) * (s0.toInt64)) * (s1.toInt64)) * (t12 - t13))), sc, jv ((((1 : Int64) * (s0.toInt64)) * (s1.toInt64)) * (s3.toInt64)), sc, iv (4 : Int32), iv (2 : Int32), iv (1 : Int32), iv (3 : Int32)] rfl ?_
  refine go_iinc C X24 87 rfl d7_84 rfl (z := 1) rfl #[rv a, rv qb, jv ((((0 : Int64) + ((1 : Int64) * (t30 - t30))) + (((1 : Int64) * (s0.toInt64)) * (t21 - t21))) + ((((1 : Int64) * (s0.toInt64)) * (s1.toInt64)) * (t12 - t13))), sc, jv ((((1 : Int64) * (s0.toInt64)) * (s1.toInt64)) * (s3.toInt64)), sc, iv (4 : Int32), iv (3 : Int32), iv (1 : Int32), iv (3 : Int32)] rfl ?_
  refine go_goto C X24 d7_87 (pc' := 11) (by decide) (by decide) ?_
  refine go_iload C X24 13 rfl d7_11 rfl ?_
  refine go_aloadN C X24 14 rfl d7_13 rfl rfl ?_
  refine go_alen C X24 AQ (z := (3 : Int32)) rfl (pc' := 15) rfl d7_14 ?_
  refine go_icmp_ge C X24 d7_15 (pc' := 18) (pc2 := 90) rfl (by decide) (by decide) (fun (c15 : 3 ≤ 3) => ?_) (fun (c15 : 3 < 3) => False.elim (by first | omega | exact absurd c15 (by decide)))
  refine go_aloadN C X24 91 rfl d7_90 rfl rfl ?_
  refine go_getF C X24 (C.w 37 rfl) Via.refl F3 (pc' := 94) rfl d7_91 (fun T25 X26 => ?_)
  refine go_lloadN C X26 95 rfl d7_94 rfl ?_
  refine go_ladd C X26 96 rfl d7_95 ?_
  exact go_retJ C X26 d7_96 ⟨rfl, rfl⟩ (by decide) (by decide)
theorem ef_own_bit_3_2 (m : MethodId) (a : Addr) (qb : Addr)  : entryFrame m #[(.ref a), (.ref qb)] 10 = mkF m 0 #[rv a, rv qb, un, un, un, un, un, un, un, un] [] := by
  first | (simp [entryFrame, mkF, argsToLocals, Value.category]; done) | rfl
set_option maxRecDepth 65536 in
set_option maxHeartbeats 40000000 in
theorem own_bit_3_2 (l : Launch) (Z : State) (a0 : Array Value) (hw : ∀ d ∈ tables_1, d.before a0 Z = true) (a : Addr) (qb : Addr) (sb xb ob r0 r1 r2 r3 : Addr) (sz ix : List Int32) (m0 m1 m2 m3 s0 s1 s2 s3 : Int32) (st t00 t01 t02 t03 t04 t10 t11 t12 t13 t14 t20 t21 t22 t23 t24 t30 t31 t32 t33 t34 : Int64) (h : Heap) (n0 : Nat) (hn0 : Old Z n0 h) (F1 : Fld Z h a "com/example/covertide/covertide/engine/ParameterSets" "sizes" "[I" (.ref sb)) (F2 : Fld Z h a "com/example/covertide/covertide/engine/ParameterSets" "indexOf" "[I" (.ref xb)) (F3 : Fld Z h a "com/example/covertide/covertide/engine/ParameterSets" "start" "J" (.long st)) (F4 : Fld Z h a "com/example/covertide/covertide/engine/ParameterSets" "suffixSums" "[[J" (.ref ob)) (A1 : La Z h sb .int (ia sz)) (A2 : La Z h xb .int (ia ix)) (A3 : La Z h ob (.array .long) [(.ref r0), (.ref r1), (.ref r2), (.ref r3)]) (AR0 : La Z h r0 .long [(.long t00), (.long t01), (.long t02), (.long t03), (.long t04)]) (AR1 : La Z h r1 .long [(.long t10), (.long t11), (.long t12), (.long t13), (.long t14)]) (AR2 : La Z h r2 .long [(.long t20), (.long t21), (.long t22), (.long t23), (.long t24)]) (AR3 : La Z h r3 .long [(.long t30), (.long t31), (.long t32), (.long t33), (.long t34)]) (AQ : La Z h qb .int [(.int m0), (.int m2), (.int m3)]) (hl : sz.length = 5) (xl : ix.length = 5) (b0 : 0 ≤ m0.toInt ∧ m0.toInt < (5 : Nat)) (z0 : at32 sz m0 = s0) (b1 : 0 ≤ m1.toInt ∧ m1.toInt < (5 : Nat)) (z1 : at32 sz m1 = s1) (b2 : 0 ≤ m2.toInt ∧ m2.toInt < (5 : Nat)) (z2 : at32 sz m2 = s2) (b3 : 0 ≤ m3.toInt ∧ m3.toInt < (5 : Nat)) (z3 : at32 sz m3 = s3) (x0 : at32 ix m0 = 0) (x1 : at32 ix m1 = 1) (x2 : at32 ix m2 = 2) (x3 : at32 ix m3 = 3) :
    Con l Z (⟨"com/example/covertide/covertide/engine/ParameterSets", "bitOf", "([I)J"⟩ : MethodName) prog_10_method_12_code 10 (some .long) ({ frames := 0, cells := 0, slots := 0, locals := 0 } : Room) #[(.ref a), (.ref qb)] h n0 (fun v h' => v = some (.long (st + ((((0 : Int64) + ((1 : Int64) * (t30 - t30))) + (((1 : Int64) * s0.toInt64) * (t21 - t22))) + ((((1 : Int64) * s0.toInt64) * s2.toInt64) * (t13 - t13))))) ∧ h = h') := by
  refine con_of hw (plainFor_of_name pn_com_example_covertide_covertide_engine_ParameterSets) hn0 ?_
  intro p e s m below meth c T0 C X0
  refine Go.cast (congrArg T0.setTop (ef_own_bit_3_2 m a qb)) ?_
  refine go_lconst C X0 1 rfl d7_0 (z := 0) rfl ?_
  refine go_lstoreN C X0 2 rfl d7_1 #[rv a, rv qb, jv (0 : Int64), sc, un, un, un, un, un, un] rfl ?_
  refine go_lconst C X0 3 rfl d7_2 (z := 1) rfl ?_
  refine go_lstore C X0 5 rfl d7_3 #[rv a, rv qb, jv (0 : Int64), sc, jv (1 : Int64), sc, un, un, un, un] rfl ?_
  refine go_iconst C X0 6 rfl d7_5 (z := 0) rfl ?_
  refine go_istore C X0 8 rfl d7_6 #[rv a, rv qb, jv (0 : Int64), sc, jv (1 : Int64), sc, iv (0 : Int32), un, un, un] rfl ?_
  refine go_iconst C X0 9 rfl d7_8 (z := 0) rfl ?_
  refine go_istore C X0 11 rfl d7_9 #[rv a, rv qb, jv (0 : Int64), sc, jv (1 : Int64), sc, iv (0 : Int32), iv (0 : Int32), un, un] rfl ?_
  refine go_iload C X0 13 rfl d7_11 rfl ?_
  refine go_aloadN C X0 14 rfl d7_13 rfl rfl ?_
  refine go_alen C X0 AQ (z := (3 : Int32)) rfl (pc' := 15) rfl d7_14 ?_
  refine go_icmp_ge C X0 d7_15 (pc' := 18) (pc2 := 90) rfl (by decide) (by decide) (fun (c15 : 3 ≤ 0) => False.elim (by first | omega | exact absurd c15 (by decide))) (fun (c15 : 0 < 3) => ?_)
  refine go_aloadN C X0 19 rfl d7_18 rfl rfl ?_
  refine go_alen C X0 AQ (z := (3 : Int32)) rfl (pc' := 20) rfl d7_19 ?_
  refine go_iload C X0 22 rfl d7_20 rfl ?_
  refine go_isubL C X0 23 rfl d7_22 (z := (3)) rfl ?_
  refine go_istore C X0 25 rfl d7_23 #[rv a, rv qb, jv (0 : Int64), sc, jv (1 : Int64), sc, iv (0 : Int32), iv (0 : Int32), iv (3 : Int32), un] rfl ?_
  refine go_aloadN C X0 26 rfl d7_25 rfl rfl ?_
  refine go_getF C X0 (C.w 29 rfl) Via.refl F2 (pc' := 29) rfl d7_26 (fun T1 X2 => ?_)
  refine go_aloadN C X2 30 rfl d7_29 rfl rfl ?_
  refine go_iload C X2 32 rfl d7_30 rfl ?_
  refine go_iaload C X2 AQ (by decide) (v := (.int m0)) rfl (pc' := 33) rfl d7_32 ?_
  refine go_iaload C X2 A2 b0.1 (v := (.int (at32 ix m0))) (ia_at b0.1 (by rw [xl]; exact b0.2)) (pc' := 34) rfl d7_33 ?_
  rw [x0]
  refine go_istore C X2 36 rfl d7_34 #[rv a, rv qb, jv (0 : Int64), sc, jv (1 : Int64), sc, iv (0 : Int32), iv (0 : Int32), iv (3 : Int32), iv (0 : Int32)] rfl ?_
  refine go_lloadN C X2 37 rfl d7_36 rfl ?_
  refine go_lload C X2 39 rfl d7_37 rfl ?_
  refine go_aloadN C X2 40 rfl d7_39 rfl rfl ?_
  refine go_getF C X2 (C.w 49 rfl) Via.refl F4 (pc' := 43) rfl d7_40 (fun T3 X4 => ?_)
  refine go_iload C X4 45 rfl d7_43 rfl ?_
  refine go_aaload C X4 A3 rfl (by decide) (v := (.ref r3)) rfl (pc' := 46) rfl d7_45 ?_
  refine go_iload C X4 48 rfl d7_46 rfl ?_
  refine go_laload C X4 AR3 (by decide) (v := (.long t30)) rfl (pc' := 49) rfl d7_48 ?_
  refine go_aloadN C X4 50 rfl d7_49 rfl rfl ?_
  refine go_getF C X4 (C.w 49 rfl) Via.refl F4 (pc' := 53) rfl d7_50 (fun T5 X6 => ?_)
  refine go_iload C X6 55 rfl d7_53 rfl ?_
  refine go_aaload C X6 A3 rfl (by decide) (v := (.ref r3)) rfl (pc' := 56) rfl d7_55 ?_
  refine go_iload C X6 58 rfl d7_56 rfl ?_
  refine go_laload C X6 AR3 (by decide) (v := (.long t30)) rfl (pc' := 59) rfl d7_58 ?_
  refine go_lsub C X6 60 rfl d7_59 ?_
  refine go_lmul C X6 61 rfl d7_60 ?_
  refine go_ladd C X6 62 rfl d7_61 ?_
  refine go_lstoreN C X6 63 rfl d7_62 #[rv a, rv qb, jv ((0 : Int64) + ((1 : Int64) * (t30 - t30))), sc, jv (1 : Int64), sc, iv (0 : Int32), iv (0 : Int32), iv (3 : Int32), iv (0 : Int32)] rfl ?_
  refine go_lload C X6 65 rfl d7_63 rfl ?_
  refine go_aloadN C X6 66 rfl d7_65 rfl rfl ?_
  refine go_getF C X6 (C.w 16 rfl) Via.refl F1 (pc' := 69) rfl d7_66 (fun T7 X8 => ?_)
  refine go_aloadN C X8 70 rfl d7_69 rfl rfl ?_
  refine go_iload C X8 72 rfl d7_70 rfl ?_
  refine go_iaload C X8 AQ (by decide) (v := (.int m0)) rfl (pc' := 73) rfl d7_72 ?_
  refine go_iaload C X8 A1 b0.1 (v := (.int (at32 sz m0))) (ia_at b0.1 (by rw [hl]; exact b0.2)) (pc' := 74) rfl d7_73 ?_
  rw [z0]
  refine go_i2l C X8 75 rfl d7_74 ?_
  refine go_lmul C X8 76 rfl d7_75 ?_
  refine go_lstore C X8 78 rfl d7_76 #[rv a, rv qb, jv ((0 : Int64) + ((1 : Int64) * (t30 - t30))), sc, jv ((1 : Int64) * (s0.toInt64)), sc, iv (0 : Int32), iv (0 : Int32), iv (3 : Int32), iv (0 : Int32)] rfl ?_
  refine go_iload C X8 80 rfl d7_78 rfl ?_
  refine go_iconst C X8 81 rfl d7_80 (z := 1) rfl ?_
  refine go_iaddL C X8 82 rfl d7_81 (z := (1)) rfl ?_
  refine go_istore C X8 84 rfl d7_82 #[rv a, rv qb, jv ((0 : Int64) + ((1 : Int64) * (t30 - t30))), sc, jv ((1 : Int64) * (s0.toInt64)), sc, iv (1 : Int32), iv (0 : Int32), iv (3 : Int32), iv (0 : Int32)] rfl ?_
  refine go_iinc C X8 87 rfl d7_84 rfl (z := 1) rfl #[rv a, rv qb, jv ((0 : Int64) + ((1 : Int64) * (t30 - t30))), sc, jv ((1 : Int64) * (s0.toInt64)), sc, iv (1 : Int32), iv (1 : Int32), iv (3 : Int32), iv (0 : Int32)] rfl ?_
  refine go_goto C X8 d7_87 (pc' := 11) (by decide) (by decide) ?_
  refine go_iload C X8 13 rfl d7_11 rfl ?_
  refine go_aloadN C X8 14 rfl d7_13 rfl rfl ?_
  refine go_alen C X8 AQ (z := (3 : Int32)) rfl (pc' := 15) rfl d7_14 ?_
  refine go_icmp_ge C X8 d7_15 (pc' := 18) (pc2 := 90) rfl (by decide) (by decide) (fun (c15 : 3 ≤ 1) => False.elim (by first | omega | exact absurd c15 (by decide))) (fun (c15 : 1 < 3) => ?_)
  refine go_aloadN C X8 19 rfl d7_18 rfl rfl ?_
  refine go_alen C X8 AQ (z := (3 : Int32)) rfl (pc' := 20) rfl d7_19 ?_
  refine go_iload C X8 22 rfl d7_20 rfl ?_
  refine go_isubL C X8 23 rfl d7_22 (z := (2)) rfl ?_
  refine go_istore C X8 25 rfl d7_23 #[rv a, rv qb, jv ((0 : Int64) + ((1 : Int64) * (t30 - t30))), sc, jv ((1 : Int64) * (s0.toInt64)), sc, iv (1 : Int32), iv (1 : Int32), iv (2 : Int32), iv (0 : Int32)] rfl ?_
  refine go_aloadN C X8 26 rfl d7_25 rfl rfl ?_
  refine go_getF C X8 (C.w 29 rfl) Via.refl F2 (pc' := 29) rfl d7_26 (fun T9 X10 => ?_)
  refine go_aloadN C X10 30 rfl d7_29 rfl rfl ?_
  refine go_iload C X10 32 rfl d7_30 rfl ?_
  refine go_iaload C X10 AQ (by decide) (v := (.int m2)) rfl (pc' := 33) rfl d7_32 ?_
  refine go_iaload C X10 A2 b2.1 (v := (.int (at32 ix m2))) (ia_at b2.1 (by rw [xl]; exact b2.2)) (pc' := 34) rfl d7_33 ?_
  rw [x2]
  refine go_istore C X10 36 rfl d7_34 #[rv a, rv qb, jv ((0 : Int64) + ((1 : Int64) * (t30 - t30))), sc, jv ((1 : Int64) * (s0.toInt64)), sc, iv (1 : Int32), iv (1 : Int32), iv (2 : Int32), iv (2 : Int32)] rfl ?_
  refine go_lloadN C X10 37 rfl d7_36 rfl ?_
  refine go_lload C X10 39 rfl d7_37 rfl ?_
  refine go_aloadN C X10 40 rfl d7_39 rfl rfl ?_
  refine go_getF C X10 (C.w 49 rfl) Via.refl F4 (pc' := 43) rfl d7_40 (fun T11 X12 => ?_)
  refine go_iload C X12 45 rfl d7_43 rfl ?_
  refine go_aaload C X12 A3 rfl (by decide) (v := (.ref r2)) rfl (pc' := 46) rfl d7_45 ?_
  refine go_iload C X12 48 rfl d7_46 rfl ?_
  refine go_laload C X12 AR2 (by decide) (v := (.long t21)) rfl (pc' := 49) rfl d7_48 ?_
  refine go_aloadN C X12 50 rfl d7_49 rfl rfl ?_
  refine go_getF C X12 (C.w 49 rfl) Via.refl F4 (pc' := 53) rfl d7_50 (fun T13 X14 => ?_)
  refine go_iload C X14 55 rfl d7_53 rfl ?_
  refine go_aaload C X14 A3 rfl (by decide) (v := (.ref r2)) rfl (pc' := 56) rfl d7_55 ?_
  refine go_iload C X14 58 rfl d7_56 rfl ?_
  refine go_laload C X14 AR2 (by decide) (v := (.long t22)) rfl (pc' := 59) rfl d7_58 ?_
  refine go_lsub C X14 60 rfl d7_59 ?_
  refine go_lmul C X14 61 rfl d7_60 ?_
  refine go_ladd C X14 62 rfl d7_61 ?_
  refine go_lstoreN C X14 63 rfl d7_62 #[rv a, rv qb, jv (((0 : Int64) + ((1 : Int64) * (t30 - t30))) + (((1 : Int64) * (s0.toInt64)) * (t21 - t22))), sc, jv ((1 : Int64) * (s0.toInt64)), sc, iv (1 : Int32), iv (1 : Int32), iv (2 : Int32), iv (2 : Int32)] rfl ?_
  refine go_lload C X14 65 rfl d7_63 rfl ?_
  refine go_aloadN C X14 66 rfl d7_65 rfl rfl ?_
  refine go_getF C X14 (C.w 16 rfl) Via.refl F1 (pc' := 69) rfl d7_66 (fun T15 X16 => ?_)
  refine go_aloadN C X16 70 rfl d7_69 rfl rfl ?_
  refine go_iload C X16 72 rfl d7_70 rfl ?_
  refine go_iaload C X16 AQ (by decide) (v := (.int m2)) rfl (pc' := 73) rfl d7_72 ?_
  refine go_iaload C X16 A1 b2.1 (v := (.int (at32 sz m2))) (ia_at b2.1 (by rw [hl]; exact b2.2)) (pc' := 74) rfl d7_73 ?_
  rw [z2]
  refine go_i2l C X16 75 rfl d7_74 ?_
  refine go_lmul C X16 76 rfl d7_75 ?_
  refine go_lstore C X16 78 rfl d7_76 #[rv a, rv qb, jv (((0 : Int64) + ((1 : Int64) * (t30 - t30))) + (((1 : Int64) * (s0.toInt64)) * (t21 - t22))), sc, jv (((1 : Int64) * (s0.toInt64)) * (s2.toInt64)), sc, iv (1 : Int32), iv (1 : Int32), iv (2 : Int32), iv (2 : Int32)] rfl ?_
  refine go_iload C X16 80 rfl d7_78 rfl ?_
  refine go_iconst C X16 81 rfl d7_80 (z := 1) rfl ?_
  refine go_iaddL C X16 82 rfl d7_81 (z := (3)) rfl ?_
  refine go_istore C X16 84 rfl d7_82 #[rv a, rv qb, jv (((0 : Int64) + ((1 : Int64) * (t30 - t30))) + (((1 : Int64) * (s0.toInt64)) * (t21 - t22))), sc, jv (((1 : Int64) * (s0.toInt64)) * (s2.toInt64)), sc, iv (3 : Int32), iv (1 : Int32), iv (2 : Int32), iv (2 : Int32)] rfl ?_
  refine go_iinc C X16 87 rfl d7_84 rfl (z := 1) rfl #[rv a, rv qb, jv (((0 : Int64) + ((1 : Int64) * (t30 - t30))) + (((1 : Int64) * (s0.toInt64)) * (t21 - t22))), sc, jv (((1 : Int64) * (s0.toInt64)) * (s2.toInt64)), sc, iv (3 : Int32), iv (2 : Int32), iv (2 : Int32), iv (2 : Int32)] rfl ?_
  refine go_goto C X16 d7_87 (pc' := 11) (by decide) (by decide) ?_
  refine go_iload C X16 13 rfl d7_11 rfl ?_
  refine go_aloadN C X16 14 rfl d7_13 rfl rfl ?_
  refine go_alen C X16 AQ (z := (3 : Int32)) rfl (pc' := 15) rfl d7_14 ?_
  refine go_icmp_ge C X16 d7_15 (pc' := 18) (pc2 := 90) rfl (by decide) (by decide) (fun (c15 : 3 ≤ 2) => False.elim (by first | omega | exact absurd c15 (by decide))) (fun (c15 : 2 < 3) => ?_)
  refine go_aloadN C X16 19 rfl d7_18 rfl rfl ?_
  refine go_alen C X16 AQ (z := (3 : Int32)) rfl (pc' := 20) rfl d7_19 ?_
  refine go_iload C X16 22 rfl d7_20 rfl ?_
  refine go_isubL C X16 23 rfl d7_22 (z := (1)) rfl ?_
  refine go_istore C X16 25 rfl d7_23 #[rv a, rv qb, jv (((0 : Int64) + ((1 : Int64) * (t30 - t30))) + (((1 : Int64) * (s0.toInt64)) * (t21 - t22))), sc, jv (((1 : Int64) * (s0.toInt64)) * (s2.toInt64)), sc, iv (3 : Int32), iv (2 : Int32), iv (1 : Int32), iv (2 : Int32)] rfl ?_
  refine go_aloadN C X16 26 rfl d7_25 rfl rfl ?_
  refine go_getF C X16 (C.w 29 rfl) Via.refl F2 (pc' := 29) rfl d7_26 (fun T17 X18 => ?_)
  refine go_aloadN C X18 30 rfl d7_29 rfl rfl ?_
  refine go_iload C X18 32 rfl d7_30 rfl ?_
  refine go_iaload C X18 AQ (by decide) (v := (.int m3)) rfl (pc' := 33) rfl d7_32 ?_
  refine go_iaload C X18 A2 b3.1 (v := (.int (at32 ix m3))) (ia_at b3.1 (by rw [xl]; exact b3.2)) (pc' := 34) rfl d7_33 ?_
  rw [x3]
  refine go_istore C X18 36 rfl d7_34 #[rv a, rv qb, jv (((0 : Int64) + ((1 : Int64) * (t30 - t30))) + (((1 : Int64) * (s0.toInt64)) * (t21 - t22))), sc, jv (((1 : Int64) * (s0.toInt64)) * (s2.toInt64)), sc, iv (3 : Int32), iv (2 : Int32), iv (1 : Int32), iv (3 : Int32)] rfl ?_
  refine go_lloadN C X18 37 rfl d7_36 rfl ?_
  refine go_lload C X18 39 rfl d7_37 rfl ?_
  refine go_aloadN C X18 40 rfl d7_39 rfl rfl ?_
  refine go_getF C X18 (C.w 49 rfl) Via.refl F4 (pc' := 43) rfl d7_40 (fun T19 X20 => ?_)
  refine go_iload C X20 45 rfl d7_43 rfl ?_
  refine go_aaload C X20 A3 rfl (by decide) (v := (.ref r1)) rfl (pc' := 46) rfl d7_45 ?_
  refine go_iload C X20 48 rfl d7_46 rfl ?_
  refine go_laload C X20 AR1 (by decide) (v := (.long t13)) rfl (pc' := 49) rfl d7_48 ?_
  refine go_aloadN C X20 50 rfl d7_49 rfl rfl ?_
  refine go_getF C X20 (C.w 49 rfl) Via.refl F4 (pc' := 53) rfl d7_50 (fun T21 X22 => ?_)
  refine go_iload C X22 55 rfl d7_53 rfl ?_
  refine go_aaload C X22 A3 rfl (by decide) (v := (.ref r1)) rfl (pc' := 56) rfl d7_55 ?_
  refine go_iload C X22 58 rfl d7_56 rfl ?_
  refine go_laload C X22 AR1 (by decide) (v := (.long t13)) rfl (pc' := 59) rfl d7_58 ?_
  refine go_lsub C X22 60 rfl d7_59 ?_
  refine go_lmul C X22 61 rfl d7_60 ?_
  refine go_ladd C X22 62 rfl d7_61 ?_
  refine go_lstoreN C X22 63 rfl d7_62 #[rv a, rv qb, jv ((((0 : Int64) + ((1 : Int64) * (t30 - t30))) + (((1 : Int64) * (s0.toInt64)) * (t21 - t22))) + ((((1 : Int64) * (s0.toInt64)) * (s2.toInt64)) * (t13 - t13))), sc, jv (((1 : Int64) * (s0.toInt64)) * (s2.toInt64)), sc, iv (3 : Int32), iv (2 : Int32), iv (1 : Int32), iv (3 : Int32)] rfl ?_
  refine go_lload C X22 65 rfl d7_63 rfl ?_
  refine go_aloadN C X22 66 rfl d7_65 rfl rfl ?_
  refine go_getF C X22 (C.w 16 rfl) Via.refl F1 (pc' := 69) rfl d7_66 (fun T23 X24 => ?_)
  refine go_aloadN C X24 70 rfl d7_69 rfl rfl ?_
  refine go_iload C X24 72 rfl d7_70 rfl ?_
  refine go_iaload C X24 AQ (by decide) (v := (.int m3)) rfl (pc' := 73) rfl d7_72 ?_
  refine go_iaload C X24 A1 b3.1 (v := (.int (at32 sz m3))) (ia_at b3.1 (by rw [hl]; exact b3.2)) (pc' := 74) rfl d7_73 ?_
  rw [z3]
  refine go_i2l C X24 75 rfl d7_74 ?_
  refine go_lmul C X24 76 rfl d7_75 ?_
  refine go_lstore C X24 78 rfl d7_76 #[rv a, rv qb, jv ((((0 : Int64) + ((1 : Int64) * (t30 - t30))) + (((1 : Int64) * (s0.toInt64)) * (t21 - t22))) + ((((1 : Int64) * (s0.toInt64)) * (s2.toInt64)) * (t13 - t13))), sc, jv ((((1 : Int64) * (s0.toInt64)) * (s2.toInt64)) * (s3.toInt64)), sc, iv (3 : Int32), iv (2 : Int32), iv (1 : Int32), iv (3 : Int32)] rfl ?_
  refine go_iload C X24 80 rfl d7_78 rfl ?_
  refine go_iconst C X24 81 rfl d7_80 (z := 1) rfl ?_
  refine go_iaddL C X24 82 rfl d7_81 (z := (4)) rfl ?_
  refine go_istore C X24 84 rfl d7_82 #[rv a, rv qb, jv ((((0 : Int64) + ((1 : Int64) * (t30 - t30))) + (((1 : Int64) * (s0.toInt64)) * (t21 - t22))) + ((((1 : Int64) * (s0.toInt64)) * (s2.toInt64)) * (t13 - t13))), sc, jv ((((1 : Int64) * (s0.toInt64)) * (s2.toInt64)) * (s3.toInt64)), sc, iv (4 : Int32), iv (2 : Int32), iv (1 : Int32), iv (3 : Int32)] rfl ?_
  refine go_iinc C X24 87 rfl d7_84 rfl (z := 1) rfl #[rv a, rv qb, jv ((((0 : Int64) + ((1 : Int64) * (t30 - t30))) + (((1 : Int64) * (s0.toInt64)) * (t21 - t22))) + ((((1 : Int64) * (s0.toInt64)) * (s2.toInt64)) * (t13 - t13))), sc, jv ((((1 : Int64) * (s0.toInt64)) * (s2.toInt64)) * (s3.toInt64)), sc, iv (4 : Int32), iv (3 : Int32), iv (1 : Int32), iv (3 : Int32)] rfl ?_
  refine go_goto C X24 d7_87 (pc' := 11) (by decide) (by decide) ?_
  refine go_iload C X24 13 rfl d7_11 rfl ?_
  refine go_aloadN C X24 14 rfl d7_13 rfl rfl ?_
  refine go_alen C X24 AQ (z := (3 : Int32)) rfl (pc' := 15) rfl d7_14 ?_
  refine go_icmp_ge C X24 d7_15 (pc' := 18) (pc2 := 90) rfl (by decide) (by decide) (fun (c15 : 3 ≤ 3) => ?_) (fun (c15 : 3 < 3) => False.elim (by first | omega | exact absurd c15 (by decide)))
  refine go_aloadN C X24 91 rfl d7_90 rfl rfl ?_
  refine go_getF C X24 (C.w 37 rfl) Via.refl F3 (pc' := 94) rfl d7_91 (fun T25 X26 => ?_)
  refine go_lloadN C X26 95 rfl d7_94 rfl ?_
  refine go_ladd C X26 96 rfl d7_95 ?_
  exact go_retJ C X26 d7_96 ⟨rfl, rfl⟩ (by decide) (by decide)
theorem ef_own_bit_3_3 (m : MethodId) (a : Addr) (qb : Addr)  : entryFrame m #[(.ref a), (.ref qb)] 10 = mkF m 0 #[rv a, rv qb, un, un, un, un, un, un, un, un] [] := by
  first | (simp [entryFrame, mkF, argsToLocals, Value.category]; done) | rfl
set_option maxRecDepth 65536 in
set_option maxHeartbeats 40000000 in
theorem own_bit_3_3 (l : Launch) (Z : State) (a0 : Array Value) (hw : ∀ d ∈ tables_1, d.before a0 Z = true) (a : Addr) (qb : Addr) (sb xb ob r0 r1 r2 r3 : Addr) (sz ix : List Int32) (m0 m1 m2 m3 s0 s1 s2 s3 : Int32) (st t00 t01 t02 t03 t04 t10 t11 t12 t13 t14 t20 t21 t22 t23 t24 t30 t31 t32 t33 t34 : Int64) (h : Heap) (n0 : Nat) (hn0 : Old Z n0 h) (F1 : Fld Z h a "com/example/covertide/covertide/engine/ParameterSets" "sizes" "[I" (.ref sb)) (F2 : Fld Z h a "com/example/covertide/covertide/engine/ParameterSets" "indexOf" "[I" (.ref xb)) (F3 : Fld Z h a "com/example/covertide/covertide/engine/ParameterSets" "start" "J" (.long st)) (F4 : Fld Z h a "com/example/covertide/covertide/engine/ParameterSets" "suffixSums" "[[J" (.ref ob)) (A1 : La Z h sb .int (ia sz)) (A2 : La Z h xb .int (ia ix)) (A3 : La Z h ob (.array .long) [(.ref r0), (.ref r1), (.ref r2), (.ref r3)]) (AR0 : La Z h r0 .long [(.long t00), (.long t01), (.long t02), (.long t03), (.long t04)]) (AR1 : La Z h r1 .long [(.long t10), (.long t11), (.long t12), (.long t13), (.long t14)]) (AR2 : La Z h r2 .long [(.long t20), (.long t21), (.long t22), (.long t23), (.long t24)]) (AR3 : La Z h r3 .long [(.long t30), (.long t31), (.long t32), (.long t33), (.long t34)]) (AQ : La Z h qb .int [(.int m1), (.int m2), (.int m3)]) (hl : sz.length = 5) (xl : ix.length = 5) (b0 : 0 ≤ m0.toInt ∧ m0.toInt < (5 : Nat)) (z0 : at32 sz m0 = s0) (b1 : 0 ≤ m1.toInt ∧ m1.toInt < (5 : Nat)) (z1 : at32 sz m1 = s1) (b2 : 0 ≤ m2.toInt ∧ m2.toInt < (5 : Nat)) (z2 : at32 sz m2 = s2) (b3 : 0 ≤ m3.toInt ∧ m3.toInt < (5 : Nat)) (z3 : at32 sz m3 = s3) (x0 : at32 ix m0 = 0) (x1 : at32 ix m1 = 1) (x2 : at32 ix m2 = 2) (x3 : at32 ix m3 = 3) :
    Con l Z (⟨"com/example/covertide/covertide/engine/ParameterSets", "bitOf", "([I)J"⟩ : MethodName) prog_10_method_12_code 10 (some .long) ({ frames := 0, cells := 0, slots := 0, locals := 0 } : Room) #[(.ref a), (.ref qb)] h n0 (fun v h' => v = some (.long (st + ((((0 : Int64) + ((1 : Int64) * (t30 - t31))) + (((1 : Int64) * s1.toInt64) * (t22 - t22))) + ((((1 : Int64) * s1.toInt64) * s2.toInt64) * (t13 - t13))))) ∧ h = h') := by
  refine con_of hw (plainFor_of_name pn_com_example_covertide_covertide_engine_ParameterSets) hn0 ?_
  intro p e s m below meth c T0 C X0
  refine Go.cast (congrArg T0.setTop (ef_own_bit_3_3 m a qb)) ?_
  refine go_lconst C X0 1 rfl d7_0 (z := 0) rfl ?_
  refine go_lstoreN C X0 2 rfl d7_1 #[rv a, rv qb, jv (0 : Int64), sc, un, un, un, un, un, un] rfl ?_
  refine go_lconst C X0 3 rfl d7_2 (z := 1) rfl ?_
  refine go_lstore C X0 5 rfl d7_3 #[rv a, rv qb, jv (0 : Int64), sc, jv (1 : Int64), sc, un, un, un, un] rfl ?_
  refine go_iconst C X0 6 rfl d7_5 (z := 0) rfl ?_
  refine go_istore C X0 8 rfl d7_6 #[rv a, rv qb, jv (0 : Int64), sc, jv (1 : Int64), sc, iv (0 : Int32), un, un, un] rfl ?_
  refine go_iconst C X0 9 rfl d7_8 (z := 0) rfl ?_
  refine go_istore C X0 11 rfl d7_9 #[rv a, rv qb, jv (0 : Int64), sc, jv (1 : Int64), sc, iv (0 : Int32), iv (0 : Int32), un, un] rfl ?_
  refine go_iload C X0 13 rfl d7_11 rfl ?_
  refine go_aloadN C X0 14 rfl d7_13 rfl rfl ?_
  refine go_alen C X0 AQ (z := (3 : Int32)) rfl (pc' := 15) rfl d7_14 ?_
  refine go_icmp_ge C X0 d7_15 (pc' := 18) (pc2 := 90) rfl (by decide) (by decide) (fun (c15 : 3 ≤ 0) => False.elim (by first | omega | exact absurd c15 (by decide))) (fun (c15 : 0 < 3) => ?_)
  refine go_aloadN C X0 19 rfl d7_18 rfl rfl ?_
  refine go_alen C X0 AQ (z := (3 : Int32)) rfl (pc' := 20) rfl d7_19 ?_
  refine go_iload C X0 22 rfl d7_20 rfl ?_
  refine go_isubL C X0 23 rfl d7_22 (z := (3)) rfl ?_
  refine go_istore C X0 25 rfl d7_23 #[rv a, rv qb, jv (0 : Int64), sc, jv (1 : Int64), sc, iv (0 : Int32), iv (0 : Int32), iv (3 : Int32), un] rfl ?_
  refine go_aloadN C X0 26 rfl d7_25 rfl rfl ?_
  refine go_getF C X0 (C.w 29 rfl) Via.refl F2 (pc' := 29) rfl d7_26 (fun T1 X2 => ?_)
  refine go_aloadN C X2 30 rfl d7_29 rfl rfl ?_
  refine go_iload C X2 32 rfl d7_30 rfl ?_
  refine go_iaload C X2 AQ (by decide) (v := (.int m1)) rfl (pc' := 33) rfl d7_32 ?_
  refine go_iaload C X2 A2 b1.1 (v := (.int (at32 ix m1))) (ia_at b1.1 (by rw [xl]; exact b1.2)) (pc' := 34) rfl d7_33 ?_
  rw [x1]
  refine go_istore C X2 36 rfl d7_34 #[rv a, rv qb, jv (0 : Int64), sc, jv (1 : Int64), sc, iv (0 : Int32), iv (0 : Int32), iv (3 : Int32), iv (1 : Int32)] rfl ?_
  refine go_lloadN C X2 37 rfl d7_36 rfl ?_
  refine go_lload C X2 39 rfl d7_37 rfl ?_
  refine go_aloadN C X2 40 rfl d7_39 rfl rfl ?_
  refine go_getF C X2 (C.w 49 rfl) Via.refl F4 (pc' := 43) rfl d7_40 (fun T3 X4 => ?_)
  refine go_iload C X4 45 rfl d7_43 rfl ?_
  refine go_aaload C X4 A3 rfl (by decide) (v := (.ref r3)) rfl (pc' := 46) rfl d7_45 ?_
  refine go_iload C X4 48 rfl d7_46 rfl ?_
  refine go_laload C X4 AR3 (by decide) (v := (.long t30)) rfl (pc' := 49) rfl d7_48 ?_
  refine go_aloadN C X4 50 rfl d7_49 rfl rfl ?_
  refine go_getF C X4 (C.w 49 rfl) Via.refl F4 (pc' := 53) rfl d7_50 (fun T5 X6 => ?_)
  refine go_iload C X6 55 rfl d7_53 rfl ?_
  refine go_aaload C X6 A3 rfl (by decide) (v := (.ref r3)) rfl (pc' := 56) rfl d7_55 ?_
  refine go_iload C X6 58 rfl d7_56 rfl ?_
  refine go_laload C X6 AR3 (by decide) (v := (.long t31)) rfl (pc' := 59) rfl d7_58 ?_
  refine go_lsub C X6 60 rfl d7_59 ?_
  refine go_lmul C X6 61 rfl d7_60 ?_
  refine go_ladd C X6 62 rfl d7_61 ?_
  refine go_lstoreN C X6 63 rfl d7_62 #[rv a, rv qb, jv ((0 : Int64) + ((1 : Int64) * (t30 - t31))), sc, jv (1 : Int64), sc, iv (0 : Int32), iv (0 : Int32), iv (3 : Int32), iv (1 : Int32)] rfl ?_
  refine go_lload C X6 65 rfl d7_63 rfl ?_
  refine go_aloadN C X6 66 rfl d7_65 rfl rfl ?_
  refine go_getF C X6 (C.w 16 rfl) Via.refl F1 (pc' := 69) rfl d7_66 (fun T7 X8 => ?_)
  refine go_aloadN C X8 70 rfl d7_69 rfl rfl ?_
  refine go_iload C X8 72 rfl d7_70 rfl ?_
  refine go_iaload C X8 AQ (by decide) (v := (.int m1)) rfl (pc' := 73) rfl d7_72 ?_
  refine go_iaload C X8 A1 b1.1 (v := (.int (at32 sz m1))) (ia_at b1.1 (by rw [hl]; exact b1.2)) (pc' := 74) rfl d7_73 ?_
  rw [z1]
  refine go_i2l C X8 75 rfl d7_74 ?_
  refine go_lmul C X8 76 rfl d7_75 ?_
  refine go_lstore C X8 78 rfl d7_76 #[rv a, rv qb, jv ((0 : Int64) + ((1 : Int64) * (t30 - t31))), sc, jv ((1 : Int64) * (s1.toInt64)), sc, iv (0 : Int32), iv (0 : Int32), iv (3 : Int32), iv (1 : Int32)] rfl ?_
  refine go_iload C X8 80 rfl d7_78 rfl ?_
  refine go_iconst C X8 81 rfl d7_80 (z := 1) rfl ?_
  refine go_iaddL C X8 82 rfl d7_81 (z := (2)) rfl ?_
  refine go_istore C X8 84 rfl d7_82 #[rv a, rv qb, jv ((0 : Int64) + ((1 : Int64) * (t30 - t31))), sc, jv ((1 : Int64) * (s1.toInt64)), sc, iv (2 : Int32), iv (0 : Int32), iv (3 : Int32), iv (1 : Int32)] rfl ?_
  refine go_iinc C X8 87 rfl d7_84 rfl (z := 1) rfl #[rv a, rv qb, jv ((0 : Int64) + ((1 : Int64) * (t30 - t31))), sc, jv ((1 : Int64) * (s1.toInt64)), sc, iv (2 : Int32), iv (1 : Int32), iv (3 : Int32), iv (1 : Int32)] rfl ?_
  refine go_goto C X8 d7_87 (pc' := 11) (by decide) (by decide) ?_
  refine go_iload C X8 13 rfl d7_11 rfl ?_
  refine go_aloadN C X8 14 rfl d7_13 rfl rfl ?_
  refine go_alen C X8 AQ (z := (3 : Int32)) rfl (pc' := 15) rfl d7_14 ?_
  refine go_icmp_ge C X8 d7_15 (pc' := 18) (pc2 := 90) rfl (by decide) (by decide) (fun (c15 : 3 ≤ 1) => False.elim (by first | omega | exact absurd c15 (by decide))) (fun (c15 : 1 < 3) => ?_)
  refine go_aloadN C X8 19 rfl d7_18 rfl rfl ?_
  refine go_alen C X8 AQ (z := (3 : Int32)) rfl (pc' := 20) rfl d7_19 ?_
  refine go_iload C X8 22 rfl d7_20 rfl ?_
  refine go_isubL C X8 23 rfl d7_22 (z := (2)) rfl ?_
  refine go_istore C X8 25 rfl d7_23 #[rv a, rv qb, jv ((0 : Int64) + ((1 : Int64) * (t30 - t31))), sc, jv ((1 : Int64) * (s1.toInt64)), sc, iv (2 : Int32), iv (1 : Int32), iv (2 : Int32), iv (1 : Int32)] rfl ?_
  refine go_aloadN C X8 26 rfl d7_25 rfl rfl ?_
  refine go_getF C X8 (C.w 29 rfl) Via.refl F2 (pc' := 29) rfl d7_26 (fun T9 X10 => ?_)
  refine go_aloadN C X10 30 rfl d7_29 rfl rfl ?_
  refine go_iload C X10 32 rfl d7_30 rfl ?_
  refine go_iaload C X10 AQ (by decide) (v := (.int m2)) rfl (pc' := 33) rfl d7_32 ?_
  refine go_iaload C X10 A2 b2.1 (v := (.int (at32 ix m2))) (ia_at b2.1 (by rw [xl]; exact b2.2)) (pc' := 34) rfl d7_33 ?_
  rw [x2]
  refine go_istore C X10 36 rfl d7_34 #[rv a, rv qb, jv ((0 : Int64) + ((1 : Int64) * (t30 - t31))), sc, jv ((1 : Int64) * (s1.toInt64)), sc, iv (2 : Int32), iv (1 : Int32), iv (2 : Int32), iv (2 : Int32)] rfl ?_
  refine go_lloadN C X10 37 rfl d7_36 rfl ?_
  refine go_lload C X10 39 rfl d7_37 rfl ?_
  refine go_aloadN C X10 40 rfl d7_39 rfl rfl ?_
  refine go_getF C X10 (C.w 49 rfl) Via.refl F4 (pc' := 43) rfl d7_40 (fun T11 X12 => ?_)
  refine go_iload C X12 45 rfl d7_43 rfl ?_
  refine go_aaload C X12 A3 rfl (by decide) (v := (.ref r2)) rfl (pc' := 46) rfl d7_45 ?_
  refine go_iload C X12 48 rfl d7_46 rfl ?_
  refine go_laload C X12 AR2 (by decide) (v := (.long t22)) rfl (pc' := 49) rfl d7_48 ?_
  refine go_aloadN C X12 50 rfl d7_49 rfl rfl ?_
  refine go_getF C X12 (C.w 49 rfl) Via.refl F4 (pc' := 53) rfl d7_50 (fun T13 X14 => ?_)
  refine go_iload C X14 55 rfl d7_53 rfl ?_
  refine go_aaload C X14 A3 rfl (by decide) (v := (.ref r2)) rfl (pc' := 56) rfl d7_55 ?_
  refine go_iload C X14 58 rfl d7_56 rfl ?_
  refine go_laload C X14 AR2 (by decide) (v := (.long t22)) rfl (pc' := 59) rfl d7_58 ?_
  refine go_lsub C X14 60 rfl d7_59 ?_
  refine go_lmul C X14 61 rfl d7_60 ?_
  refine go_ladd C X14 62 rfl d7_61 ?_
  refine go_lstoreN C X14 63 rfl d7_62 #[rv a, rv qb, jv (((0 : Int64) + ((1 : Int64) * (t30 - t31))) + (((1 : Int64) * (s1.toInt64)) * (t22 - t22))), sc, jv ((1 : Int64) * (s1.toInt64)), sc, iv (2 : Int32), iv (1 : Int32), iv (2 : Int32), iv (2 : Int32)] rfl ?_
  refine go_lload C X14 65 rfl d7_63 rfl ?_
  refine go_aloadN C X14 66 rfl d7_65 rfl rfl ?_
  refine go_getF C X14 (C.w 16 rfl) Via.refl F1 (pc' := 69) rfl d7_66 (fun T15 X16 => ?_)
  refine go_aloadN C X16 70 rfl d7_69 rfl rfl ?_
  refine go_iload C X16 72 rfl d7_70 rfl ?_
  refine go_iaload C X16 AQ (by decide) (v := (.int m2)) rfl (pc' := 73) rfl d7_72 ?_
  refine go_iaload C X16 A1 b2.1 (v := (.int (at32 sz m2))) (ia_at b2.1 (by rw [hl]; exact b2.2)) (pc' := 74) rfl d7_73 ?_
  rw [z2]
  refine go_i2l C X16 75 rfl d7_74 ?_
  refine go_lmul C X16 76 rfl d7_75 ?_
  refine go_lstore C X16 78 rfl d7_76 #[rv a, rv qb, jv (((0 : Int64) + ((1 : Int64) * (t30 - t31))) + (((1 : Int64) * (s1.toInt64)) * (t22 - t22))), sc, jv (((1 : Int64) * (s1.toInt64)) * (s2.toInt64)), sc, iv (2 : Int32), iv (1 : Int32), iv (2 : Int32), iv (2 : Int32)] rfl ?_
  refine go_iload C X16 80 rfl d7_78 rfl ?_
  refine go_iconst C X16 81 rfl d7_80 (z := 1) rfl ?_
  refine go_iaddL C X16 82 rfl d7_81 (z := (3)) rfl ?_
  refine go_istore C X16 84 rfl d7_82 #[rv a, rv qb, jv (((0 : Int64) + ((1 : Int64) * (t30 - t31))) + (((1 : Int64) * (s1.toInt64)) * (t22 - t22))), sc, jv (((1 : Int64) * (s1.toInt64)) * (s2.toInt64)), sc, iv (3 : Int32), iv (1 : Int32), iv (2 : Int32), iv (2 : Int32)] rfl ?_
  refine go_iinc C X16 87 rfl d7_84 rfl (z := 1) rfl #[rv a, rv qb, jv (((0 : Int64) + ((1 : Int64) * (t30 - t31))) + (((1 : Int64) * (s1.toInt64)) * (t22 - t22))), sc, jv (((1 : Int64) * (s1.toInt64)) * (s2.toInt64)), sc, iv (3 : Int32), iv (2 : Int32), iv (2 : Int32), iv (2 : Int32)] rfl ?_
  refine go_goto C X16 d7_87 (pc' := 11) (by decide) (by decide) ?_
  refine go_iload C X16 13 rfl d7_11 rfl ?_
  refine go_aloadN C X16 14 rfl d7_13 rfl rfl ?_
  refine go_alen C X16 AQ (z := (3 : Int32)) rfl (pc' := 15) rfl d7_14 ?_
  refine go_icmp_ge C X16 d7_15 (pc' := 18) (pc2 := 90) rfl (by decide) (by decide) (fun (c15 : 3 ≤ 2) => False.elim (by first | omega | exact absurd c15 (by decide))) (fun (c15 : 2 < 3) => ?_)
  refine go_aloadN C X16 19 rfl d7_18 rfl rfl ?_
  refine go_alen C X16 AQ (z := (3 : Int32)) rfl (pc' := 20) rfl d7_19 ?_
  refine go_iload C X16 22 rfl d7_20 rfl ?_
  refine go_isubL C X16 23 rfl d7_22 (z := (1)) rfl ?_
  refine go_istore C X16 25 rfl d7_23 #[rv a, rv qb, jv (((0 : Int64) + ((1 : Int64) * (t30 - t31))) + (((1 : Int64) * (s1.toInt64)) * (t22 - t22))), sc, jv (((1 : Int64) * (s1.toInt64)) * (s2.toInt64)), sc, iv (3 : Int32), iv (2 : Int32), iv (1 : Int32), iv (2 : Int32)] rfl ?_
  refine go_aloadN C X16 26 rfl d7_25 rfl rfl ?_
  refine go_getF C X16 (C.w 29 rfl) Via.refl F2 (pc' := 29) rfl d7_26 (fun T17 X18 => ?_)
  refine go_aloadN C X18 30 rfl d7_29 rfl rfl ?_
  refine go_iload C X18 32 rfl d7_30 rfl ?_
  refine go_iaload C X18 AQ (by decide) (v := (.int m3)) rfl (pc' := 33) rfl d7_32 ?_
  refine go_iaload C X18 A2 b3.1 (v := (.int (at32 ix m3))) (ia_at b3.1 (by rw [xl]; exact b3.2)) (pc' := 34) rfl d7_33 ?_
  rw [x3]
  refine go_istore C X18 36 rfl d7_34 #[rv a, rv qb, jv (((0 : Int64) + ((1 : Int64) * (t30 - t31))) + (((1 : Int64) * (s1.toInt64)) * (t22 - t22))), sc, jv (((1 : Int64) * (s1.toInt64)) * (s2.toInt64)), sc, iv (3 : Int32), iv (2 : Int32), iv (1 : Int32), iv (3 : Int32)] rfl ?_
  refine go_lloadN C X18 37 rfl d7_36 rfl ?_
  refine go_lload C X18 39 rfl d7_37 rfl ?_
  refine go_aloadN C X18 40 rfl d7_39 rfl rfl ?_
  refine go_getF C X18 (C.w 49 rfl) Via.refl F4 (pc' := 43) rfl d7_40 (fun T19 X20 => ?_)
  refine go_iload C X20 45 rfl d7_43 rfl ?_
  refine go_aaload C X20 A3 rfl (by decide) (v := (.ref r1)) rfl (pc' := 46) rfl d7_45 ?_
  refine go_iload C X20 48 rfl d7_46 rfl ?_
  refine go_laload C X20 AR1 (by decide) (v := (.long t13)) rfl (pc' := 49) rfl d7_48 ?_
  refine go_aloadN C X20 50 rfl d7_49 rfl rfl ?_
  refine go_getF C X20 (C.w 49 rfl) Via.refl F4 (pc' := 53) rfl d7_50 (fun T21 X22 => ?_)
  refine go_iload C X22 55 rfl d7_53 rfl ?_
  refine go_aaload C X22 A3 rfl (by decide) (v := (.ref r1)) rfl (pc' := 56) rfl d7_55 ?_
  refine go_iload C X22 58 rfl d7_56 rfl ?_
  refine go_laload C X22 AR1 (by decide) (v := (.long t13)) rfl (pc' := 59) rfl d7_58 ?_
  refine go_lsub C X22 60 rfl d7_59 ?_
  refine go_lmul C X22 61 rfl d7_60 ?_
  refine go_ladd C X22 62 rfl d7_61 ?_
  refine go_lstoreN C X22 63 rfl d7_62 #[rv a, rv qb, jv ((((0 : Int64) + ((1 : Int64) * (t30 - t31))) + (((1 : Int64) * (s1.toInt64)) * (t22 - t22))) + ((((1 : Int64) * (s1.toInt64)) * (s2.toInt64)) * (t13 - t13))), sc, jv (((1 : Int64) * (s1.toInt64)) * (s2.toInt64)), sc, iv (3 : Int32), iv (2 : Int32), iv (1 : Int32), iv (3 : Int32)] rfl ?_
  refine go_lload C X22 65 rfl d7_63 rfl ?_
  refine go_aloadN C X22 66 rfl d7_65 rfl rfl ?_
  refine go_getF C X22 (C.w 16 rfl) Via.refl F1 (pc' := 69) rfl d7_66 (fun T23 X24 => ?_)
  refine go_aloadN C X24 70 rfl d7_69 rfl rfl ?_
  refine go_iload C X24 72 rfl d7_70 rfl ?_
  refine go_iaload C X24 AQ (by decide) (v := (.int m3)) rfl (pc' := 73) rfl d7_72 ?_
  refine go_iaload C X24 A1 b3.1 (v := (.int (at32 sz m3))) (ia_at b3.1 (by rw [hl]; exact b3.2)) (pc' := 74) rfl d7_73 ?_
  rw [z3]
  refine go_i2l C X24 75 rfl d7_74 ?_
  refine go_lmul C X24 76 rfl d7_75 ?_
  refine go_lstore C X24 78 rfl d7_76 #[rv a, rv qb, jv ((((0 : Int64) + ((1 : Int64) * (t30 - t31))) + (((1 : Int64) * (s1.toInt64)) * (t22 - t22))) + ((((1 : Int64) * (s1.toInt64)) * (s2.toInt64)) * (t13 - t13))), sc, jv ((((1 : Int64) * (s1.toInt64)) * (s2.toInt64)) * (s3.toInt64)), sc, iv (3 : Int32), iv (2 : Int32), iv (1 : Int32), iv (3 : Int32)] rfl ?_
  refine go_iload C X24 80 rfl d7_78 rfl ?_
  refine go_iconst C X24 81 rfl d7_80 (z := 1) rfl ?_
  refine go_iaddL C X24 82 rfl d7_81 (z := (4)) rfl ?_
  refine go_istore C X24 84 rfl d7_82 #[rv a, rv qb, jv ((((0 : Int64) + ((1 : Int64) * (t30 - t31))) + (((1 : Int64) * (s1.toInt64)) * (t22 - t22))) + ((((1 : Int64) * (s1.toInt64)) * (s2.toInt64)) * (t13 - t13))), sc, jv ((((1 : Int64) * (s1.toInt64)) * (s2.toInt64)) * (s3.toInt64)), sc, iv (4 : Int32), iv (2 : Int32), iv (1 : Int32), iv (3 : Int32)] rfl ?_
  refine go_iinc C X24 87 rfl d7_84 rfl (z := 1) rfl #[rv a, rv qb, jv ((((0 : Int64) + ((1 : Int64) * (t30 - t31))) + (((1 : Int64) * (s1.toInt64)) * (t22 - t22))) + ((((1 : Int64) * (s1.toInt64)) * (s2.toInt64)) * (t13 - t13))), sc, jv ((((1 : Int64) * (s1.toInt64)) * (s2.toInt64)) * (s3.toInt64)), sc, iv (4 : Int32), iv (3 : Int32), iv (1 : Int32), iv (3 : Int32)] rfl ?_
  refine go_goto C X24 d7_87 (pc' := 11) (by decide) (by decide) ?_
  refine go_iload C X24 13 rfl d7_11 rfl ?_
  refine go_aloadN C X24 14 rfl d7_13 rfl rfl ?_
  refine go_alen C X24 AQ (z := (3 : Int32)) rfl (pc' := 15) rfl d7_14 ?_
  refine go_icmp_ge C X24 d7_15 (pc' := 18) (pc2 := 90) rfl (by decide) (by decide) (fun (c15 : 3 ≤ 3) => ?_) (fun (c15 : 3 < 3) => False.elim (by first | omega | exact absurd c15 (by decide)))
  refine go_aloadN C X24 91 rfl d7_90 rfl rfl ?_
  refine go_getF C X24 (C.w 37 rfl) Via.refl F3 (pc' := 94) rfl d7_91 (fun T25 X26 => ?_)
  refine go_lloadN C X26 95 rfl d7_94 rfl ?_
  refine go_ladd C X26 96 rfl d7_95 ?_
  exact go_retJ C X26 d7_96 ⟨rfl, rfl⟩ (by decide) (by decide)
theorem ef_own_bit_4_0 (m : MethodId) (a : Addr) (qb : Addr)  : entryFrame m #[(.ref a), (.ref qb)] 10 = mkF m 0 #[rv a, rv qb, un, un, un, un, un, un, un, un] [] := by
  first | (simp [entryFrame, mkF, argsToLocals, Value.category]; done) | rfl
set_option maxRecDepth 65536 in
set_option maxHeartbeats 40000000 in
theorem own_bit_4_0 (l : Launch) (Z : State) (a0 : Array Value) (hw : ∀ d ∈ tables_1, d.before a0 Z = true) (a : Addr) (qb : Addr) (sb xb ob r0 r1 r2 r3 r4 : Addr) (sz ix : List Int32) (m0 m1 m2 m3 s0 s1 s2 s3 : Int32) (st t00 t01 t02 t03 t04 t10 t11 t12 t13 t14 t20 t21 t22 t23 t24 t30 t31 t32 t33 t34 t40 t41 t42 t43 t44 : Int64) (h : Heap) (n0 : Nat) (hn0 : Old Z n0 h) (F1 : Fld Z h a "com/example/covertide/covertide/engine/ParameterSets" "sizes" "[I" (.ref sb)) (F2 : Fld Z h a "com/example/covertide/covertide/engine/ParameterSets" "indexOf" "[I" (.ref xb)) (F3 : Fld Z h a "com/example/covertide/covertide/engine/ParameterSets" "start" "J" (.long st)) (F4 : Fld Z h a "com/example/covertide/covertide/engine/ParameterSets" "suffixSums" "[[J" (.ref ob)) (A1 : La Z h sb .int (ia sz)) (A2 : La Z h xb .int (ia ix)) (A3 : La Z h ob (.array .long) [(.ref r0), (.ref r1), (.ref r2), (.ref r3), (.ref r4)]) (AR0 : La Z h r0 .long [(.long t00), (.long t01), (.long t02), (.long t03), (.long t04)]) (AR1 : La Z h r1 .long [(.long t10), (.long t11), (.long t12), (.long t13), (.long t14)]) (AR2 : La Z h r2 .long [(.long t20), (.long t21), (.long t22), (.long t23), (.long t24)]) (AR3 : La Z h r3 .long [(.long t30), (.long t31), (.long t32), (.long t33), (.long t34)]) (AR4 : La Z h r4 .long [(.long t40), (.long t41), (.long t42), (.long t43), (.long t44)]) (AQ : La Z h qb .int [(.int m0), (.int m1), (.int m2), (.int m3)]) (hl : sz.length = 5) (xl : ix.length = 5) (b0 : 0 ≤ m0.toInt ∧ m0.toInt < (5 : Nat)) (z0 : at32 sz m0 = s0) (b1 : 0 ≤ m1.toInt ∧ m1.toInt < (5 : Nat)) (z1 : at32 sz m1 = s1) (b2 : 0 ≤ m2.toInt ∧ m2.toInt < (5 : Nat)) (z2 : at32 sz m2 = s2) (b3 : 0 ≤ m3.toInt ∧ m3.toInt < (5 : Nat)) (z3 : at32 sz m3 = s3) (x0 : at32 ix m0 = 0) (x1 : at32 ix m1 = 1) (x2 : at32 ix m2 = 2) (x3 : at32 ix m3 = 3) :
    Con l Z (⟨"com/example/covertide/covertide/engine/ParameterSets", "bitOf", "([I)J"⟩ : MethodName) prog_10_method_12_code 10 (some .long) ({ frames := 0, cells := 0, slots := 0, locals := 0 } : Room) #[(.ref a), (.ref qb)] h n0 (fun v h' => v = some (.long (st + (((((0 : Int64) + ((1 : Int64) * (t40 - t40))) + (((1 : Int64) * s0.toInt64) * (t31 - t31))) + ((((1 : Int64) * s0.toInt64) * s1.toInt64) * (t22 - t22))) + (((((1 : Int64) * s0.toInt64) * s1.toInt64) * s2.toInt64) * (t13 - t13))))) ∧ h = h') := by
  refine con_of hw (plainFor_of_name pn_com_example_covertide_covertide_engine_ParameterSets) hn0 ?_
  intro p e s m below meth c T0 C X0
  refine Go.cast (congrArg T0.setTop (ef_own_bit_4_0 m a qb)) ?_
  refine go_lconst C X0 1 rfl d7_0 (z := 0) rfl ?_
  refine go_lstoreN C X0 2 rfl d7_1 #[rv a, rv qb, jv (0 : Int64), sc, un, un, un, un, un, un] rfl ?_
  refine go_lconst C X0 3 rfl d7_2 (z := 1) rfl ?_
  refine go_lstore C X0 5 rfl d7_3 #[rv a, rv qb, jv (0 : Int64), sc, jv (1 : Int64), sc, un, un, un, un] rfl ?_
  refine go_iconst C X0 6 rfl d7_5 (z := 0) rfl ?_
  refine go_istore C X0 8 rfl d7_6 #[rv a, rv qb, jv (0 : Int64), sc, jv (1 : Int64), sc, iv (0 : Int32), un, un, un] rfl ?_
  refine go_iconst C X0 9 rfl d7_8 (z := 0) rfl ?_
  refine go_istore C X0 11 rfl d7_9 #[rv a, rv qb, jv (0 : Int64), sc, jv (1 : Int64), sc, iv (0 : Int32), iv (0 : Int32), un, un] rfl ?_
  refine go_iload C X0 13 rfl d7_11 rfl ?_
  refine go_aloadN C X0 14 rfl d7_13 rfl rfl ?_
  refine go_alen C X0 AQ (z := (4 : Int32)) rfl (pc' := 15) rfl d7_14 ?_
  refine go_icmp_ge C X0 d7_15 (pc' := 18) (pc2 := 90) rfl (by decide) (by decide) (fun (c15 : 4 ≤ 0) => False.elim (by first | omega | exact absurd c15 (by decide))) (fun (c15 : 0 < 4) => ?_)
  refine go_aloadN C X0 19 rfl d7_18 rfl rfl ?_
  refine go_alen C X0 AQ (z := (4 : Int32)) rfl (pc' := 20) rfl d7_19 ?_
  refine go_iload C X0 22 rfl d7_20 rfl ?_
  refine go_isubL C X0 23 rfl d7_22 (z := (4)) rfl ?_
  refine go_istore C X0 25 rfl d7_23 #[rv a, rv qb, jv (0 : Int64), sc, jv (1 : Int64), sc, iv (0 : Int32), iv (0 : Int32), iv (4 : Int32), un] rfl ?_
  refine go_aloadN C X0 26 rfl d7_25 rfl rfl ?_
  refine go_getF C X0 (C.w 29 rfl) Via.refl F2 (pc' := 29) rfl d7_26 (fun T1 X2 => ?_)
  refine go_aloadN C X2 30 rfl d7_29 rfl rfl ?_
  refine go_iload C X2 32 rfl d7_30 rfl ?_
  refine go_iaload C X2 AQ (by decide) (v := (.int m0)) rfl (pc' := 33) rfl d7_32 ?_
  refine go_iaload C X2 A2 b0.1 (v := (.int (at32 ix m0))) (ia_at b0.1 (by rw [xl]; exact b0.2)) (pc' := 34) rfl d7_33 ?_
  rw [x0]
  refine go_istore C X2 36 rfl d7_34 #[rv a, rv qb, jv (0 : Int64), sc, jv (1 : Int64), sc, iv (0 : Int32), iv (0 : Int32), iv (4 : Int32), iv (0 : Int32)] rfl ?_
  refine go_lloadN C X2 37 rfl d7_36 rfl ?_
  refine go_lload C X2 39 rfl d7_37 rfl ?_
  refine go_aloadN C X2 40 rfl d7_39 rfl rfl ?_
  refine go_getF C X2 (C.w 49 rfl) Via.refl F4 (pc' := 43) rfl d7_40 (fun T3 X4 => ?_)
  refine go_iload C X4 45 rfl d7_43 rfl ?_
  refine go_aaload C X4 A3 rfl (by decide) (v := (.ref r4)) rfl (pc' := 46) rfl d7_45 ?_
  refine go_iload C X4 48 rfl d7_46 rfl ?_
  refine go_laload C X4 AR4 (by decide) (v := (.long t40)) rfl (pc' := 49) rfl d7_48 ?_
  refine go_aloadN C X4 50 rfl d7_49 rfl rfl ?_
  refine go_getF C X4 (C.w 49 rfl) Via.refl F4 (pc' := 53) rfl d7_50 (fun T5 X6 => ?_)
  refine go_iload C X6 55 rfl d7_53 rfl ?_
  refine go_aaload C X6 A3 rfl (by decide) (v := (.ref r4)) rfl (pc' := 56) rfl d7_55 ?_
  refine go_iload C X6 58 rfl d7_56 rfl ?_
  refine go_laload C X6 AR4 (by decide) (v := (.long t40)) rfl (pc' := 59) rfl d7_58 ?_
  refine go_lsub C X6 60 rfl d7_59 ?_
  refine go_lmul C X6 61 rfl d7_60 ?_
  refine go_ladd C X6 62 rfl d7_61 ?_
  refine go_lstoreN C X6 63 rfl d7_62 #[rv a, rv qb, jv ((0 : Int64) + ((1 : Int64) * (t40 - t40))), sc, jv (1 : Int64), sc, iv (0 : Int32), iv (0 : Int32), iv (4 : Int32), iv (0 : Int32)] rfl ?_
  refine go_lload C X6 65 rfl d7_63 rfl ?_
  refine go_aloadN C X6 66 rfl d7_65 rfl rfl ?_
  refine go_getF C X6 (C.w 16 rfl) Via.refl F1 (pc' := 69) rfl d7_66 (fun T7 X8 => ?_)
  refine go_aloadN C X8 70 rfl d7_69 rfl rfl ?_
  refine go_iload C X8 72 rfl d7_70 rfl ?_
  refine go_iaload C X8 AQ (by decide) (v := (.int m0)) rfl (pc' := 73) rfl d7_72 ?_
  refine go_iaload C X8 A1 b0.1 (v := (.int (at32 sz m0))) (ia_at b0.1 (by rw [hl]; exact b0.2)) (pc' := 74) rfl d7_73 ?_
  rw [z0]
  refine go_i2l C X8 75 rfl d7_74 ?_
  refine go_lmul C X8 76 rfl d7_75 ?_
  refine go_lstore C X8 78 rfl d7_76 #[rv a, rv qb, jv ((0 : Int64) + ((1 : Int64) * (t40 - t40))), sc, jv ((1 : Int64) * (s0.toInt64)), sc, iv (0 : Int32), iv (0 : Int32), iv (4 : Int32), iv (0 : Int32)] rfl ?_
  refine go_iload C X8 80 rfl d7_78 rfl ?_
  refine go_iconst C X8 81 rfl d7_80 (z := 1) rfl ?_
  refine go_iaddL C X8 82 rfl d7_81 (z := (1)) rfl ?_
  refine go_istore C X8 84 rfl d7_82 #[rv a, rv qb, jv ((0 : Int64) + ((1 : Int64) * (t40 - t40))), sc, jv ((1 : Int64) * (s0.toInt64)), sc, iv (1 : Int32), iv (0 : Int32), iv (4 : Int32), iv (0 : Int32)] rfl ?_
  refine go_iinc C X8 87 rfl d7_84 rfl (z := 1) rfl #[rv a, rv qb, jv ((0 : Int64) + ((1 : Int64) * (t40 - t40))), sc, jv ((1 : Int64) * (s0.toInt64)), sc, iv (1 : Int32), iv (1 : Int32), iv (4 : Int32), iv (0 : Int32)] rfl ?_
  refine go_goto C X8 d7_87 (pc' := 11) (by decide) (by decide) ?_
  refine go_iload C X8 13 rfl d7_11 rfl ?_
  refine go_aloadN C X8 14 rfl d7_13 rfl rfl ?_
  refine go_alen C X8 AQ (z := (4 : Int32)) rfl (pc' := 15) rfl d7_14 ?_
  refine go_icmp_ge C X8 d7_15 (pc' := 18) (pc2 := 90) rfl (by decide) (by decide) (fun (c15 : 4 ≤ 1) => False.elim (by first | omega | exact absurd c15 (by decide))) (fun (c15 : 1 < 4) => ?_)
  refine go_aloadN C X8 19 rfl d7_18 rfl rfl ?_
  refine go_alen C X8 AQ (z := (4 : Int32)) rfl (pc' := 20) rfl d7_19 ?_
  refine go_iload C X8 22 rfl d7_20 rfl ?_
  refine go_isubL C X8 23 rfl d7_22 (z := (3)) rfl ?_
  refine go_istore C X8 25 rfl d7_23 #[rv a, rv qb, jv ((0 : Int64) + ((1 : Int64) * (t40 - t40))), sc, jv ((1 : Int64) * (s0.toInt64)), sc, iv (1 : Int32), iv (1 : Int32), iv (3 : Int32), iv (0 : Int32)] rfl ?_
  refine go_aloadN C X8 26 rfl d7_25 rfl rfl ?_
  refine go_getF C X8 (C.w 29 rfl) Via.refl F2 (pc' := 29) rfl d7_26 (fun T9 X10 => ?_)
  refine go_aloadN C X10 30 rfl d7_29 rfl rfl ?_
  refine go_iload C X10 32 rfl d7_30 rfl ?_
  refine go_iaload C X10 AQ (by decide) (v := (.int m1)) rfl (pc' := 33) rfl d7_32 ?_
  refine go_iaload C X10 A2 b1.1 (v := (.int (at32 ix m1))) (ia_at b1.1 (by rw [xl]; exact b1.2)) (pc' := 34) rfl d7_33 ?_
  rw [x1]
  refine go_istore C X10 36 rfl d7_34 #[rv a, rv qb, jv ((0 : Int64) + ((1 : Int64) * (t40 - t40))), sc, jv ((1 : Int64) * (s0.toInt64)), sc, iv (1 : Int32), iv (1 : Int32), iv (3 : Int32), iv (1 : Int32)] rfl ?_
  refine go_lloadN C X10 37 rfl d7_36 rfl ?_
  refine go_lload C X10 39 rfl d7_37 rfl ?_
  refine go_aloadN C X10 40 rfl d7_39 rfl rfl ?_
  refine go_getF C X10 (C.w 49 rfl) Via.refl F4 (pc' := 43) rfl d7_40 (fun T11 X12 => ?_)
  refine go_iload C X12 45 rfl d7_43 rfl ?_
  refine go_aaload C X12 A3 rfl (by decide) (v := (.ref r3)) rfl (pc' := 46) rfl d7_45 ?_
  refine go_iload C X12 48 rfl d7_46 rfl ?_
  refine go_laload C X12 AR3 (by decide) (v := (.long t31)) rfl (pc' := 49) rfl d7_48 ?_
  refine go_aloadN C X12 50 rfl d7_49 rfl rfl ?_
  refine go_getF C X12 (C.w 49 rfl) Via.refl F4 (pc' := 53) rfl d7_50 (fun T13 X14 => ?_)
  refine go_iload C X14 55 rfl d7_53 rfl ?_
  refine go_aaload C X14 A3 rfl (by decide) (v := (.ref r3)) rfl (pc' := 56) rfl d7_55 ?_
  refine go_iload C X14 58 rfl d7_56 rfl ?_
  refine go_laload C X14 AR3 (by decide) (v := (.long t31)) rfl (pc' := 59) rfl d7_58 ?_
  refine go_lsub C X14 60 rfl d7_59 ?_
  refine go_lmul C X14 61 rfl d7_60 ?_
  refine go_ladd C X14 62 rfl d7_61 ?_
  refine go_lstoreN C X14 63 rfl d7_62 #[rv a, rv qb, jv (((0 : Int64) + ((1 : Int64) * (t40 - t40))) + (((1 : Int64) * (s0.toInt64)) * (t31 - t31))), sc, jv ((1 : Int64) * (s0.toInt64)), sc, iv (1 : Int32), iv (1 : Int32), iv (3 : Int32), iv (1 : Int32)] rfl ?_
  refine go_lload C X14 65 rfl d7_63 rfl ?_
  refine go_aloadN C X14 66 rfl d7_65 rfl rfl ?_
  refine go_getF C X14 (C.w 16 rfl) Via.refl F1 (pc' := 69) rfl d7_66 (fun T15 X16 => ?_)
  refine go_aloadN C X16 70 rfl d7_69 rfl rfl ?_
  refine go_iload C X16 72 rfl d7_70 rfl ?_
  refine go_iaload C X16 AQ (by decide) (v := (.int m1)) rfl (pc' := 73) rfl d7_72 ?_
  refine go_iaload C X16 A1 b1.1 (v := (.int (at32 sz m1))) (ia_at b1.1 (by rw [hl]; exact b1.2)) (pc' := 74) rfl d7_73 ?_
  rw [z1]
  refine go_i2l C X16 75 rfl d7_74 ?_
  refine go_lmul C X16 76 rfl d7_75 ?_
  refine go_lstore C X16 78 rfl d7_76 #[rv a, rv qb, jv (((0 : Int64) + ((1 : Int64) * (t40 - t40))) + (((1 : Int64) * (s0.toInt64)) * (t31 - t31))), sc, jv (((1 : Int64) * (s0.toInt64)) * (s1.toInt64)), sc, iv (1 : Int32), iv (1 : Int32), iv (3 : Int32), iv (1 : Int32)] rfl ?_
  refine go_iload C X16 80 rfl d7_78 rfl ?_
  refine go_iconst C X16 81 rfl d7_80 (z := 1) rfl ?_
  refine go_iaddL C X16 82 rfl d7_81 (z := (2)) rfl ?_
  refine go_istore C X16 84 rfl d7_82 #[rv a, rv qb, jv (((0 : Int64) + ((1 : Int64) * (t40 - t40))) + (((1 : Int64) * (s0.toInt64)) * (t31 - t31))), sc, jv (((1 : Int64) * (s0.toInt64)) * (s1.toInt64)), sc, iv (2 : Int32), iv (1 : Int32), iv (3 : Int32), iv (1 : Int32)] rfl ?_
  refine go_iinc C X16 87 rfl d7_84 rfl (z := 1) rfl #[rv a, rv qb, jv (((0 : Int64) + ((1 : Int64) * (t40 - t40))) + (((1 : Int64) * (s0.toInt64)) * (t31 - t31))), sc, jv (((1 : Int64) * (s0.toInt64)) * (s1.toInt64)), sc, iv (2 : Int32), iv (2 : Int32), iv (3 : Int32), iv (1 : Int32)] rfl ?_
  refine go_goto C X16 d7_87 (pc' := 11) (by decide) (by decide) ?_
  refine go_iload C X16 13 rfl d7_11 rfl ?_
  refine go_aloadN C X16 14 rfl d7_13 rfl rfl ?_
  refine go_alen C X16 AQ (z := (4 : Int32)) rfl (pc' := 15) rfl d7_14 ?_
  refine go_icmp_ge C X16 d7_15 (pc' := 18) (pc2 := 90) rfl (by decide) (by decide) (fun (c15 : 4 ≤ 2) => False.elim (by first | omega | exact absurd c15 (by decide))) (fun (c15 : 2 < 4) => ?_)
  refine go_aloadN C X16 19 rfl d7_18 rfl rfl ?_
  refine go_alen C X16 AQ (z := (4 : Int32)) rfl (pc' := 20) rfl d7_19 ?_
  refine go_iload C X16 22 rfl d7_20 rfl ?_
  refine go_isubL C X16 23 rfl d7_22 (z := (2)) rfl ?_
  refine go_istore C X16 25 rfl d7_23 #[rv a, rv qb, jv (((0 : Int64) + ((1 : Int64) * (t40 - t40))) + (((1 : Int64) * (s0.toInt64)) * (t31 - t31))), sc, jv (((1 : Int64) * (s0.toInt64)) * (s1.toInt64)), sc, iv (2 : Int32), iv (2 : Int32), iv (2 : Int32), iv (1 : Int32)] rfl ?_
  refine go_aloadN C X16 26 rfl d7_25 rfl rfl ?_
  refine go_getF C X16 (C.w 29 rfl) Via.refl F2 (pc' := 29) rfl d7_26 (fun T17 X18 => ?_)
  refine go_aloadN C X18 30 rfl d7_29 rfl rfl ?_
  refine go_iload C X18 32 rfl d7_30 rfl ?_
  refine go_iaload C X18 AQ (by decide) (v := (.int m2)) rfl (pc' := 33) rfl d7_32 ?_
  refine go_iaload C X18 A2 b2.1 (v := (.int (at32 ix m2))) (ia_at b2.1 (by rw [xl]; exact b2.2)) (pc' := 34) rfl d7_33 ?_
  rw [x2]
  refine go_istore C X18 36 rfl d7_34 #[rv a, rv qb, jv (((0 : Int64) + ((1 : Int64) * (t40 - t40))) + (((1 : Int64) * (s0.toInt64)) * (t31 - t31))), sc, jv (((1 : Int64) * (s0.toInt64)) * (s1.toInt64)), sc, iv (2 : Int32), iv (2 : Int32), iv (2 : Int32), iv (2 : Int32)] rfl ?_
  refine go_lloadN C X18 37 rfl d7_36 rfl ?_
  refine go_lload C X18 39 rfl d7_37 rfl ?_
  refine go_aloadN C X18 40 rfl d7_39 rfl rfl ?_
  refine go_getF C X18 (C.w 49 rfl) Via.refl F4 (pc' := 43) rfl d7_40 (fun T19 X20 => ?_)
  refine go_iload C X20 45 rfl d7_43 rfl ?_
  refine go_aaload C X20 A3 rfl (by decide) (v := (.ref r2)) rfl (pc' := 46) rfl d7_45 ?_
  refine go_iload C X20 48 rfl d7_46 rfl ?_
  refine go_laload C X20 AR2 (by decide) (v := (.long t22)) rfl (pc' := 49) rfl d7_48 ?_
  refine go_aloadN C X20 50 rfl d7_49 rfl rfl ?_
  refine go_getF C X20 (C.w 49 rfl) Via.refl F4 (pc' := 53) rfl d7_50 (fun T21 X22 => ?_)
  refine go_iload C X22 55 rfl d7_53 rfl ?_
  refine go_aaload C X22 A3 rfl (by decide) (v := (.ref r2)) rfl (pc' := 56) rfl d7_55 ?_
  refine go_iload C X22 58 rfl d7_56 rfl ?_
  refine go_laload C X22 AR2 (by decide) (v := (.long t22)) rfl (pc' := 59) rfl d7_58 ?_
  refine go_lsub C X22 60 rfl d7_59 ?_
  refine go_lmul C X22 61 rfl d7_60 ?_
  refine go_ladd C X22 62 rfl d7_61 ?_
  refine go_lstoreN C X22 63 rfl d7_62 #[rv a, rv qb, jv ((((0 : Int64) + ((1 : Int64) * (t40 - t40))) + (((1 : Int64) * (s0.toInt64)) * (t31 - t31))) + ((((1 : Int64) * (s0.toInt64)) * (s1.toInt64)) * (t22 - t22))), sc, jv (((1 : Int64) * (s0.toInt64)) * (s1.toInt64)), sc, iv (2 : Int32), iv (2 : Int32), iv (2 : Int32), iv (2 : Int32)] rfl ?_
  refine go_lload C X22 65 rfl d7_63 rfl ?_
  refine go_aloadN C X22 66 rfl d7_65 rfl rfl ?_
  refine go_getF C X22 (C.w 16 rfl) Via.refl F1 (pc' := 69) rfl d7_66 (fun T23 X24 => ?_)
  refine go_aloadN C X24 70 rfl d7_69 rfl rfl ?_
  refine go_iload C X24 72 rfl d7_70 rfl ?_
  refine go_iaload C X24 AQ (by decide) (v := (.int m2)) rfl (pc' := 73) rfl d7_72 ?_
  refine go_iaload C X24 A1 b2.1 (v := (.int (at32 sz m2))) (ia_at b2.1 (by rw [hl]; exact b2.2)) (pc' := 74) rfl d7_73 ?_
  rw [z2]
  refine go_i2l C X24 75 rfl d7_74 ?_
  refine go_lmul C X24 76 rfl d7_75 ?_
  refine go_lstore C X24 78 rfl d7_76 #[rv a, rv qb, jv ((((0 : Int64) + ((1 : Int64) * (t40 - t40))) + (((1 : Int64) * (s0.toInt64)) * (t31 - t31))) + ((((1 : Int64) * (s0.toInt64)) * (s1.toInt64)) * (t22 - t22))), sc, jv ((((1 : Int64) * (s0.toInt64)) * (s1.toInt64)) * (s2.toInt64)), sc, iv (2 : Int32), iv (2 : Int32), iv (2 : Int32), iv (2 : Int32)] rfl ?_
  refine go_iload C X24 80 rfl d7_78 rfl ?_
  refine go_iconst C X24 81 rfl d7_80 (z := 1) rfl ?_
  refine go_iaddL C X24 82 rfl d7_81 (z := (3)) rfl ?_
  refine go_istore C X24 84 rfl d7_82 #[rv a, rv qb, jv ((((0 : Int64) + ((1 : Int64) * (t40 - t40))) + (((1 : Int64) * (s0.toInt64)) * (t31 - t31))) + ((((1 : Int64) * (s0.toInt64)) * (s1.toInt64)) * (t22 - t22))), sc, jv ((((1 : Int64) * (s0.toInt64)) * (s1.toInt64)) * (s2.toInt64)), sc, iv (3 : Int32), iv (2 : Int32), iv (2 : Int32), iv (2 : Int32)] rfl ?_
  refine go_iinc C X24 87 rfl d7_84 rfl (z := 1) rfl #[rv a, rv qb, jv ((((0 : Int64) + ((1 : Int64) * (t40 - t40))) + (((1 : Int64) * (s0.toInt64)) * (t31 - t31))) + ((((1 : Int64) * (s0.toInt64)) * (s1.toInt64)) * (t22 - t22))), sc, jv ((((1 : Int64) * (s0.toInt64)) * (s1.toInt64)) * (s2.toInt64)), sc, iv (3 : Int32), iv (3 : Int32), iv (2 : Int32), iv (2 : Int32)] rfl ?_
  refine go_goto C X24 d7_87 (pc' := 11) (by decide) (by decide) ?_
  refine go_iload C X24 13 rfl d7_11 rfl ?_
  refine go_aloadN C X24 14 rfl d7_13 rfl rfl ?_
  refine go_alen C X24 AQ (z := (4 : Int32)) rfl (pc' := 15) rfl d7_14 ?_
  refine go_icmp_ge C X24 d7_15 (pc' := 18) (pc2 := 90) rfl (by decide) (by decide) (fun (c15 : 4 ≤ 3) => False.elim (by first | omega | exact absurd c15 (by decide))) (fun (c15 : 3 < 4) => ?_)
  refine go_aloadN C X24 19 rfl d7_18 rfl rfl ?_
  refine go_alen C X24 AQ (z := (4 : Int32)) rfl (pc' := 20) rfl d7_19 ?_
  refine go_iload C X24 22 rfl d7_20 rfl ?_
  refine go_isubL C X24 23 rfl d7_22 (z := (1)) rfl ?_
  refine go_istore C X24 25 rfl d7_23 #[rv a, rv qb, jv ((((0 : Int64) + ((1 : Int64) * (t40 - t40))) + (((1 : Int64) * (s0.toInt64)) * (t31 - t31))) + ((((1 : Int64) * (s0.toInt64)) * (s1.toInt64)) * (t22 - t22))), sc, jv ((((1 : Int64) * (s0.toInt64)) * (s1.toInt64)) * (s2.toInt64)), sc, iv (3 : Int32), iv (3 : Int32), iv (1 : Int32), iv (2 : Int32)] rfl ?_
  refine go_aloadN C X24 26 rfl d7_25 rfl rfl ?_
  refine go_getF C X24 (C.w 29 rfl) Via.refl F2 (pc' := 29) rfl d7_26 (fun T25 X26 => ?_)
  refine go_aloadN C X26 30 rfl d7_29 rfl rfl ?_
  refine go_iload C X26 32 rfl d7_30 rfl ?_
  refine go_iaload C X26 AQ (by decide) (v := (.int m3)) rfl (pc' := 33) rfl d7_32 ?_
  refine go_iaload C X26 A2 b3.1 (v := (.int (at32 ix m3))) (ia_at b3.1 (by rw [xl]; exact b3.2)) (pc' := 34) rfl d7_33 ?_
  rw [x3]
  refine go_istore C X26 36 rfl d7_34 #[rv a, rv qb, jv ((((0 : Int64) + ((1 : Int64) * (t40 - t40))) + (((1 : Int64) * (s0.toInt64)) * (t31 - t31))) + ((((1 : Int64) * (s0.toInt64)) * (s1.toInt64)) * (t22 - t22))), sc, jv ((((1 : Int64) * (s0.toInt64)) * (s1.toInt64)) * (s2.toInt64)), sc, iv (3 : Int32), iv (3 : Int32), iv (1 : Int32), iv (3 : Int32)] rfl ?_
  refine go_lloadN C X26 37 rfl d7_36 rfl ?_
  refine go_lload C X26 39 rfl d7_37 rfl ?_
  refine go_aloadN C X26 40 rfl d7_39 rfl rfl ?_
  refine go_getF C X26 (C.w 49 rfl) Via.refl F4 (pc' := 43) rfl d7_40 (fun T27 X28 => ?_)
  refine go_iload C X28 45 rfl d7_43 rfl ?_
  refine go_aaload C X28 A3 rfl (by decide) (v := (.ref r1)) rfl (pc' := 46) rfl d7_45 ?_
  refine go_iload C X28 48 rfl d7_46 rfl ?_
  refine go_laload C X28 AR1 (by decide) (v := (.long t13)) rfl (pc' := 49) rfl d7_48 ?_
  refine go_aloadN C X28 50 rfl d7_49 rfl rfl ?_
  refine go_getF C X28 (C.w 49 rfl) Via.refl F4 (pc' := 53) rfl d7_50 (fun T29 X30 => ?_)
  refine go_iload C X30 55 rfl d7_53 rfl ?_
  refine go_aaload C X30 A3 rfl (by decide) (v := (.ref r1)) rfl (pc' := 56) rfl d7_55 ?_
  refine go_iload C X30 58 rfl d7_56 rfl ?_
  refine go_laload C X30 AR1 (by decide) (v := (.long t13)) rfl (pc' := 59) rfl d7_58 ?_
  refine go_lsub C X30 60 rfl d7_59 ?_
  refine go_lmul C X30 61 rfl d7_60 ?_
  refine go_ladd C X30 62 rfl d7_61 ?_
  refine go_lstoreN C X30 63 rfl d7_62 #[rv a, rv qb, jv (((((0 : Int64) + ((1 : Int64) * (t40 - t40))) + (((1 : Int64) * (s0.toInt64)) * (t31 - t31))) + ((((1 : Int64) * (s0.toInt64)) * (s1.toInt64)) * (t22 - t22))) + (((((1 : Int64) * (s0.toInt64)) * (s1.toInt64)) * (s2.toInt64)) * (t13 - t13))), sc, jv ((((1 : Int64) * (s0.toInt64)) * (s1.toInt64)) * (s2.toInt64)), sc, iv (3 : Int32), iv (3 : Int32), iv (1 : Int32), iv (3 : Int32)] rfl ?_
  refine go_lload C X30 65 rfl d7_63 rfl ?_
  refine go_aloadN C X30 66 rfl d7_65 rfl rfl ?_
  refine go_getF C X30 (C.w 16 rfl) Via.refl F1 (pc' := 69) rfl d7_66 (fun T31 X32 => ?_)
  refine go_aloadN C X32 70 rfl d7_69 rfl rfl ?_
  refine go_iload C X32 72 rfl d7_70 rfl ?_
  refine go_iaload C X32 AQ (by decide) (v := (.int m3)) rfl (pc' := 73) rfl d7_72 ?_
  refine go_iaload C X32 A1 b3.1 (v := (.int (at32 sz m3))) (ia_at b3.1 (by rw [hl]; exact b3.2)) (pc' := 74) rfl d7_73 ?_
  rw [z3]
  refine go_i2l C X32 75 rfl d7_74 ?_
  refine go_lmul C X32 76 rfl d7_75 ?_
  refine go_lstore C X32 78 rfl d7_76 #[rv a, rv qb, jv (((((0 : Int64) + ((1 : Int64) * (t40 - t40))) + (((1 : Int64) * (s0.toInt64)) * (t31 - t31))) + ((((1 : Int64) * (s0.toInt64)) * (s1.toInt64)) * (t22 - t22))) + (((((1 : Int64) * (s0.toInt64)) * (s1.toInt64)) * (s2.toInt64)) * (t13 - t13))), sc, jv (((((1 : Int64) * (s0.toInt64)) * (s1.toInt64)) * (s2.toInt64)) * (s3.toInt64)), sc, iv (3 : Int32), iv (3 : Int32), iv (1 : Int32), iv (3 : Int32)] rfl ?_
  refine go_iload C X32 80 rfl d7_78 rfl ?_
  refine go_iconst C X32 81 rfl d7_80 (z := 1) rfl ?_
  refine go_iaddL C X32 82 rfl d7_81 (z := (4)) rfl ?_
  refine go_istore C X32 84 rfl d7_82 #[rv a, rv qb, jv (((((0 : Int64) + ((1 : Int64) * (t40 - t40))) + (((1 : Int64) * (s0.toInt64)) * (t31 - t31))) + ((((1 : Int64) * (s0.toInt64)) * (s1.toInt64)) * (t22 - t22))) + (((((1 : Int64) * (s0.toInt64)) * (s1.toInt64)) * (s2.toInt64)) * (t13 - t13))), sc, jv (((((1 : Int64) * (s0.toInt64)) * (s1.toInt64)) * (s2.toInt64)) * (s3.toInt64)), sc, iv (4 : Int32), iv (3 : Int32), iv (1 : Int32), iv (3 : Int32)] rfl ?_
  refine go_iinc C X32 87 rfl d7_84 rfl (z := 1) rfl #[rv a, rv qb, jv (((((0 : Int64) + ((1 : Int64) * (t40 - t40))) + (((1 : Int64) * (s0.toInt64)) * (t31 - t31))) + ((((1 : Int64) * (s0.toInt64)) * (s1.toInt64)) * (t22 - t22))) + (((((1 : Int64) * (s0.toInt64)) * (s1.toInt64)) * (s2.toInt64)) * (t13 - t13))), sc, jv (((((1 : Int64) * (s0.toInt64)) * (s1.toInt64)) * (s2.toInt64)) * (s3.toInt64)), sc, iv (4 : Int32), iv (4 : Int32), iv (1 : Int32), iv (3 : Int32)] rfl ?_
  refine go_goto C X32 d7_87 (pc' := 11) (by decide) (by decide) ?_
  refine go_iload C X32 13 rfl d7_11 rfl ?_
  refine go_aloadN C X32 14 rfl d7_13 rfl rfl ?_
  refine go_alen C X32 AQ (z := (4 : Int32)) rfl (pc' := 15) rfl d7_14 ?_
  refine go_icmp_ge C X32 d7_15 (pc' := 18) (pc2 := 90) rfl (by decide) (by decide) (fun (c15 : 4 ≤ 4) => ?_) (fun (c15 : 4 < 4) => False.elim (by first | omega | exact absurd c15 (by decide)))
  refine go_aloadN C X32 91 rfl d7_90 rfl rfl ?_
  refine go_getF C X32 (C.w 37 rfl) Via.refl F3 (pc' := 94) rfl d7_91 (fun T33 X34 => ?_)
  refine go_lloadN C X34 95 rfl d7_94 rfl ?_
  refine go_ladd C X34 96 rfl d7_95 ?_
  exact go_retJ C X34 d7_96 ⟨rfl, rfl⟩ (by decide) (by decide)
theorem pd_3 : parseMethodDescriptor "(JI)I" = some ⟨[.long, .int], some .int⟩ := by decide +kernel
theorem pd_4 : parseMethodDescriptor "([I[IIJ)V" = some ⟨[(.array .int), (.array .int), .int, .long], none⟩ := by decide +kernel
theorem pd_5 : parseMethodDescriptor "([I)J" = some ⟨[(.array .int)], some .long⟩ := by decide +kernel
theorem own_id_1_0 (s0 s1 s2 s3 : Int32) (st : Int64) : (st + ((0 : Int64) + ((1 : Int64) * ((((((0 : Int64) + (s3.toInt64 * (1 : Int64))) + (s2.toInt64 * (1 : Int64))) + (s1.toInt64 * (1 : Int64))) + (s0.toInt64 * (1 : Int64))) - (((((0 : Int64) + (s3.toInt64 * (1 : Int64))) + (s2.toInt64 * (1 : Int64))) + (s1.toInt64 * (1 : Int64))) + (s0.toInt64 * (1 : Int64))))))) = (st + (0 : Int64)) := by
  generalize s0.toInt64 = y0
  generalize s1.toInt64 = y1
  generalize s2.toInt64 = y2
  generalize s3.toInt64 = y3
  grind
theorem own_id_1_1 (s0 s1 s2 s3 : Int32) (st : Int64) : (st + ((0 : Int64) + ((1 : Int64) * ((((((0 : Int64) + (s3.toInt64 * (1 : Int64))) + (s2.toInt64 * (1 : Int64))) + (s1.toInt64 * (1 : Int64))) + (s0.toInt64 * (1 : Int64))) - ((((0 : Int64) + (s3.toInt64 * (1 : Int64))) + (s2.toInt64 * (1 : Int64))) + (s1.toInt64 * (1 : Int64))))))) = (st + (((s0.toInt64) + (0 : Int64)) + (0 : Int64))) := by
  generalize s0.toInt64 = y0
  generalize s1.toInt64 = y1
  generalize s2.toInt64 = y2
  generalize s3.toInt64 = y3
  grind
theorem own_id_1_2 (s0 s1 s2 s3 : Int32) (st : Int64) : (st + ((0 : Int64) + ((1 : Int64) * ((((((0 : Int64) + (s3.toInt64 * (1 : Int64))) + (s2.toInt64 * (1 : Int64))) + (s1.toInt64 * (1 : Int64))) + (s0.toInt64 * (1 : Int64))) - (((0 : Int64) + (s3.toInt64 * (1 : Int64))) + (s2.toInt64 * (1 : Int64))))))) = (st + (((s0.toInt64) + (s1.toInt64)) + (0 : Int64))) := by
  generalize s0.toInt64 = y0
  generalize s1.toInt64 = y1
  generalize s2.toInt64 = y2
  generalize s3.toInt64 = y3
  grind
theorem own_id_1_3 (s0 s1 s2 s3 : Int32) (st : Int64) : (st + ((0 : Int64) + ((1 : Int64) * ((((((0 : Int64) + (s3.toInt64 * (1 : Int64))) + (s2.toInt64 * (1 : Int64))) + (s1.toInt64 * (1 : Int64))) + (s0.toInt64 * (1 : Int64))) - ((0 : Int64) + (s3.toInt64 * (1 : Int64))))))) = (st + (((s0.toInt64) + (s1.toInt64)) + (s2.toInt64))) := by
  generalize s0.toInt64 = y0
  generalize s1.toInt64 = y1
  generalize s2.toInt64 = y2
  generalize s3.toInt64 = y3
  grind
theorem own_id_2_0 (s0 s1 s2 s3 : Int32) (st : Int64) : (st + (((0 : Int64) + ((1 : Int64) * ((((((0 : Int64) + (s3.toInt64 * (0 : Int64))) + (s2.toInt64 * ((0 : Int64) + (s3.toInt64 * (1 : Int64))))) + (s1.toInt64 * (((0 : Int64) + (s3.toInt64 * (1 : Int64))) + (s2.toInt64 * (1 : Int64))))) + (s0.toInt64 * ((((0 : Int64) + (s3.toInt64 * (1 : Int64))) + (s2.toInt64 * (1 : Int64))) + (s1.toInt64 * (1 : Int64))))) - (((((0 : Int64) + (s3.toInt64 * (0 : Int64))) + (s2.toInt64 * ((0 : Int64) + (s3.toInt64 * (1 : Int64))))) + (s1.toInt64 * (((0 : Int64) + (s3.toInt64 * (1 : Int64))) + (s2.toInt64 * (1 : Int64))))) + (s0.toInt64 * ((((0 : Int64) + (s3.toInt64 * (1 : Int64))) + (s2.toInt64 * (1 : Int64))) + (s1.toInt64 * (1 : Int64)))))))) + (((1 : Int64) * s0.toInt64) * (((((0 : Int64) + (s3.toInt64 * (1 : Int64))) + (s2.toInt64 * (1 : Int64))) + (s1.toInt64 * (1 : Int64))) - ((((0 : Int64) + (s3.toInt64 * (1 : Int64))) + (s2.toInt64 * (1 : Int64))) + (s1.toInt64 * (1 : Int64))))))) = (st + (0 : Int64)) := by
  generalize s0.toInt64 = y0
  generalize s1.toInt64 = y1
  generalize s2.toInt64 = y2
  generalize s3.toInt64 = y3
  grind
theorem own_id_2_1 (s0 s1 s2 s3 : Int32) (st : Int64) : (st + (((0 : Int64) + ((1 : Int64) * ((((((0 : Int64) + (s3.toInt64 * (0 : Int64))) + (s2.toInt64 * ((0 : Int64) + (s3.toInt64 * (1 : Int64))))) + (s1.toInt64 * (((0 : Int64) + (s3.toInt64 * (1 : Int64))) + (s2.toInt64 * (1 : Int64))))) + (s0.toInt64 * ((((0 : Int64) + (s3.toInt64 * (1 : Int64))) + (s2.toInt64 * (1 : Int64))) + (s1.toInt64 * (1 : Int64))))) - (((((0 : Int64) + (s3.toInt64 * (0 : Int64))) + (s2.toInt64 * ((0 : Int64) + (s3.toInt64 * (1 : Int64))))) + (s1.toInt64 * (((0 : Int64) + (s3.toInt64 * (1 : Int64))) + (s2.toInt64 * (1 : Int64))))) + (s0.toInt64 * ((((0 : Int64) + (s3.toInt64 * (1 : Int64))) + (s2.toInt64 * (1 : Int64))) + (s1.toInt64 * (1 : Int64)))))))) + (((1 : Int64) * s0.toInt64) * (((((0 : Int64) + (s3.toInt64 * (1 : Int64))) + (s2.toInt64 * (1 : Int64))) + (s1.toInt64 * (1 : Int64))) - (((0 : Int64) + (s3.toInt64 * (1 : Int64))) + (s2.toInt64 * (1 : Int64))))))) = (st + ((((((s0.toInt64) * (s1.toInt64)) + (0 : Int64)) + (0 : Int64)) + (0 : Int64)) + (0 : Int64))) := by
  generalize s0.toInt64 = y0
  generalize s1.toInt64 = y1
  generalize s2.toInt64 = y2
  generalize s3.toInt64 = y3
  grind
theorem own_id_2_2 (s0 s1 s2 s3 : Int32) (st : Int64) : (st + (((0 : Int64) + ((1 : Int64) * ((((((0 : Int64) + (s3.toInt64 * (0 : Int64))) + (s2.toInt64 * ((0 : Int64) + (s3.toInt64 * (1 : Int64))))) + (s1.toInt64 * (((0 : Int64) + (s3.toInt64 * (1 : Int64))) + (s2.toInt64 * (1 : Int64))))) + (s0.toInt64 * ((((0 : Int64) + (s3.toInt64 * (1 : Int64))) + (s2.toInt64 * (1 : Int64))) + (s1.toInt64 * (1 : Int64))))) - (((((0 : Int64) + (s3.toInt64 * (0 : Int64))) + (s2.toInt64 * ((0 : Int64) + (s3.toInt64 * (1 : Int64))))) + (s1.toInt64 * (((0 : Int64) + (s3.toInt64 * (1 : Int64))) + (s2.toInt64 * (1 : Int64))))) + (s0.toInt64 * ((((0 : Int64) + (s3.toInt64 * (1 : Int64))) + (s2.toInt64 * (1 : Int64))) + (s1.toInt64 * (1 : Int64)))))))) + (((1 : Int64) * s0.toInt64) * (((((0 : Int64) + (s3.toInt64 * (1 : Int64))) + (s2.toInt64 * (1 : Int64))) + (s1.toInt64 * (1 : Int64))) - ((0 : Int64) + (s3.toInt64 * (1 : Int64))))))) = (st + ((((((s0.toInt64) * (s1.toInt64)) + ((s0.toInt64) * (s2.toInt64))) + (0 : Int64)) + (0 : Int64)) + (0 : Int64))) := by
  generalize s0.toInt64 = y0
  generalize s1.toInt64 = y1
  generalize s2.toInt64 = y2
  generalize s3.toInt64 = y3
  grind
theorem own_id_2_3 (s0 s1 s2 s3 : Int32) (st : Int64) : (st + (((0 : Int64) + ((1 : Int64) * ((((((0 : Int64) + (s3.toInt64 * (0 : Int64))) + (s2.toInt64 * ((0 : Int64) + (s3.toInt64 * (1 : Int64))))) + (s1.toInt64 * (((0 : Int64) + (s3.toInt64 * (1 : Int64))) + (s2.toInt64 * (1 : Int64))))) + (s0.toInt64 * ((((0 : Int64) + (s3.toInt64 * (1 : Int64))) + (s2.toInt64 * (1 : Int64))) + (s1.toInt64 * (1 : Int64))))) - ((((0 : Int64) + (s3.toInt64 * (0 : Int64))) + (s2.toInt64 * ((0 : Int64) + (s3.toInt64 * (1 : Int64))))) + (s1.toInt64 * (((0 : Int64) + (s3.toInt64 * (1 : Int64))) + (s2.toInt64 * (1 : Int64)))))))) + (((1 : Int64) * s1.toInt64) * ((((0 : Int64) + (s3.toInt64 * (1 : Int64))) + (s2.toInt64 * (1 : Int64))) - (((0 : Int64) + (s3.toInt64 * (1 : Int64))) + (s2.toInt64 * (1 : Int64))))))) = (st + ((((((s0.toInt64) * (s1.toInt64)) + ((s0.toInt64) * (s2.toInt64))) + ((s0.toInt64) * (s3.toInt64))) + (0 : Int64)) + (0 : Int64))) := by
  generalize s0.toInt64 = y0
  generalize s1.toInt64 = y1
  generalize s2.toInt64 = y2
  generalize s3.toInt64 = y3
  grind
theorem own_id_2_4 (s0 s1 s2 s3 : Int32) (st : Int64) : (st + (((0 : Int64) + ((1 : Int64) * ((((((0 : Int64) + (s3.toInt64 * (0 : Int64))) + (s2.toInt64 * ((0 : Int64) + (s3.toInt64 * (1 : Int64))))) + (s1.toInt64 * (((0 : Int64) + (s3.toInt64 * (1 : Int64))) + (s2.toInt64 * (1 : Int64))))) + (s0.toInt64 * ((((0 : Int64) + (s3.toInt64 * (1 : Int64))) + (s2.toInt64 * (1 : Int64))) + (s1.toInt64 * (1 : Int64))))) - ((((0 : Int64) + (s3.toInt64 * (0 : Int64))) + (s2.toInt64 * ((0 : Int64) + (s3.toInt64 * (1 : Int64))))) + (s1.toInt64 * (((0 : Int64) + (s3.toInt64 * (1 : Int64))) + (s2.toInt64 * (1 : Int64)))))))) + (((1 : Int64) * s1.toInt64) * ((((0 : Int64) + (s3.toInt64 * (1 : Int64))) + (s2.toInt64 * (1 : Int64))) - ((0 : Int64) + (s3.toInt64 * (1 : Int64))))))) = (st + ((((((s0.toInt64) * (s1.toInt64)) + ((s0.toInt64) * (s2.toInt64))) + ((s0.toInt64) * (s3.toInt64))) + ((s1.toInt64) * (s2.toInt64))) + (0 : Int64))) := by
  generalize s0.toInt64 = y0
  generalize s1.toInt64 = y1
  generalize s2.toInt64 = y2
  generalize s3.toInt64 = y3
  grind
theorem own_id_2_5 (s0 s1 s2 s3 : Int32) (st : Int64) : (st + (((0 : Int64) + ((1 : Int64) * ((((((0 : Int64) + (s3.toInt64 * (0 : Int64))) + (s2.toInt64 * ((0 : Int64) + (s3.toInt64 * (1 : Int64))))) + (s1.toInt64 * (((0 : Int64) + (s3.toInt64 * (1 : Int64))) + (s2.toInt64 * (1 : Int64))))) + (s0.toInt64 * ((((0 : Int64) + (s3.toInt64 * (1 : Int64))) + (s2.toInt64 * (1 : Int64))) + (s1.toInt64 * (1 : Int64))))) - (((0 : Int64) + (s3.toInt64 * (0 : Int64))) + (s2.toInt64 * ((0 : Int64) + (s3.toInt64 * (1 : Int64)))))))) + (((1 : Int64) * s2.toInt64) * (((0 : Int64) + (s3.toInt64 * (1 : Int64))) - ((0 : Int64) + (s3.toInt64 * (1 : Int64))))))) = (st + ((((((s0.toInt64) * (s1.toInt64)) + ((s0.toInt64) * (s2.toInt64))) + ((s0.toInt64) * (s3.toInt64))) + ((s1.toInt64) * (s2.toInt64))) + ((s1.toInt64) * (s3.toInt64)))) := by
  generalize s0.toInt64 = y0
  generalize s1.toInt64 = y1
  generalize s2.toInt64 = y2
  generalize s3.toInt64 = y3
  grind
theorem own_id_3_0 (s0 s1 s2 s3 : Int32) (st : Int64) : (st + ((((0 : Int64) + ((1 : Int64) * ((((((0 : Int64) + (s3.toInt64 * (0 : Int64))) + (s2.toInt64 * ((0 : Int64) + (s3.toInt64 * (0 : Int64))))) + (s1.toInt64 * (((0 : Int64) + (s3.toInt64 * (0 : Int64))) + (s2.toInt64 * ((0 : Int64) + (s3.toInt64 * (1 : Int64))))))) + (s0.toInt64 * ((((0 : Int64) + (s3.toInt64 * (0 : Int64))) + (s2.toInt64 * ((0 : Int64) + (s3.toInt64 * (1 : Int64))))) + (s1.toInt64 * (((0 : Int64) + (s3.toInt64 * (1 : Int64))) + (s2.toInt64 * (1 : Int64))))))) - (((((0 : Int64) + (s3.toInt64 * (0 : Int64))) + (s2.toInt64 * ((0 : Int64) + (s3.toInt64 * (0 : Int64))))) + (s1.toInt64 * (((0 : Int64) + (s3.toInt64 * (0 : Int64))) + (s2.toInt64 * ((0 : Int64) + (s3.toInt64 * (1 : Int64))))))) + (s0.toInt64 * ((((0 : Int64) + (s3.toInt64 * (0 : Int64))) + (s2.toInt64 * ((0 : Int64) + (s3.toInt64 * (1 : Int64))))) + (s1.toInt64 * (((0 : Int64) + (s3.toInt64 * (1 : Int64))) + (s2.toInt64 * (1 : Int64)))))))))) + (((1 : Int64) * s0.toInt64) * (((((0 : Int64) + (s3.toInt64 * (0 : Int64))) + (s2.toInt64 * ((0 : Int64) + (s3.toInt64 * (1 : Int64))))) + (s1.toInt64 * (((0 : Int64) + (s3.toInt64 * (1 : Int64))) + (s2.toInt64 * (1 : Int64))))) - ((((0 : Int64) + (s3.toInt64 * (0 : Int64))) + (s2.toInt64 * ((0 : Int64) + (s3.toInt64 * (1 : Int64))))) + (s1.toInt64 * (((0 : Int64) + (s3.toInt64 * (1 : Int64))) + (s2.toInt64 * (1 : Int64)))))))) + ((((1 : Int64) * s0.toInt64) * s1.toInt64) * ((((0 : Int64) + (s3.toInt64 * (1 : Int64))) + (s2.toInt64 * (1 : Int64))) - (((0 : Int64) + (s3.toInt64 * (1 : Int64))) + (s2.toInt64 * (1 : Int64))))))) = (st + (0 : Int64)) := by
  generalize s0.toInt64 = y0
  generalize s1.toInt64 = y1
  generalize s2.toInt64 = y2
  generalize s3.toInt64 = y3
  grind
theorem own_id_3_1 (s0 s1 s2 s3 : Int32) (st : Int64) : (st + ((((0 : Int64) + ((1 : Int64) * ((((((0 : Int64) + (s3.toInt64 * (0 : Int64))) + (s2.toInt64 * ((0 : Int64) + (s3.toInt64 * (0 : Int64))))) + (s1.toInt64 * (((0 : Int64) + (s3.toInt64 * (0 : Int64))) + (s2.toInt64 * ((0 : Int64) + (s3.toInt64 * (1 : Int64))))))) + (s0.toInt64 * ((((0 : Int64) + (s3.toInt64 * (0 : Int64))) + (s2.toInt64 * ((0 : Int64) + (s3.toInt64 * (1 : Int64))))) + (s1.toInt64 * (((0 : Int64) + (s3.toInt64 * (1 : Int64))) + (s2.toInt64 * (1 : Int64))))))) - (((((0 : Int64) + (s3.toInt64 * (0 : Int64))) + (s2.toInt64 * ((0 : Int64) + (s3.toInt64 * (0 : Int64))))) + (s1.toInt64 * (((0 : Int64) + (s3.toInt64 * (0 : Int64))) + (s2.toInt64 * ((0 : Int64) + (s3.toInt64 * (1 : Int64))))))) + (s0.toInt64 * ((((0 : Int64) + (s3.toInt64 * (0 : Int64))) + (s2.toInt64 * ((0 : Int64) + (s3.toInt64 * (1 : Int64))))) + (s1.toInt64 * (((0 : Int64) + (s3.toInt64 * (1 : Int64))) + (s2.toInt64 * (1 : Int64)))))))))) + (((1 : Int64) * s0.toInt64) * (((((0 : Int64) + (s3.toInt64 * (0 : Int64))) + (s2.toInt64 * ((0 : Int64) + (s3.toInt64 * (1 : Int64))))) + (s1.toInt64 * (((0 : Int64) + (s3.toInt64 * (1 : Int64))) + (s2.toInt64 * (1 : Int64))))) - ((((0 : Int64) + (s3.toInt64 * (0 : Int64))) + (s2.toInt64 * ((0 : Int64) + (s3.toInt64 * (1 : Int64))))) + (s1.toInt64 * (((0 : Int64) + (s3.toInt64 * (1 : Int64))) + (s2.toInt64 * (1 : Int64)))))))) + ((((1 : Int64) * s0.toInt64) * s1.toInt64) * ((((0 : Int64) + (s3.toInt64 * (1 : Int64))) + (s2.toInt64 * (1 : Int64))) - ((0 : Int64) + (s3.toInt64 * (1 : Int64))))))) = (st + (((((s0.toInt64) * (s1.toInt64)) * (s2.toInt64)) + (0 : Int64)) + (0 : Int64))) := by
  generalize s0.toInt64 = y0
  generalize s1.toInt64 = y1
  generalize s2.toInt64 = y2
  generalize s3.toInt64 = y3
  grind
theorem own_id_3_2 (s0 s1 s2 s3 : Int32) (st : Int64) : (st + ((((0 : Int64) + ((1 : Int64) * ((((((0 : Int64) + (s3.toInt64 * (0 : Int64))) + (s2.toInt64 * ((0 : Int64) + (s3.toInt64 * (0 : Int64))))) + (s1.toInt64 * (((0 : Int64) + (s3.toInt64 * (0 : Int64))) + (s2.toInt64 * ((0 : Int64) + (s3.toInt64 * (1 : Int64))))))) + (s0.toInt64 * ((((0 : Int64) + (s3.toInt64 * (0 : Int64))) + (s2.toInt64 * ((0 : Int64) + (s3.toInt64 * (1 : Int64))))) + (s1.toInt64 * (((0 : Int64) + (s3.toInt64 * (1 : Int64))) + (s2.toInt64 * (1 : Int64))))))) - (((((0 : Int64) + (s3.toInt64 * (0 : Int64))) + (s2.toInt64 * ((0 : Int64) + (s3.toInt64 * (0 : Int64))))) + (s1.toInt64 * (((0 : Int64) + (s3.toInt64 * (0 : Int64))) + (s2.toInt64 * ((0 : Int64) + (s3.toInt64 * (1 : Int64))))))) + (s0.toInt64 * ((((0 : Int64) + (s3.toInt64 * (0 : Int64))) + (s2.toInt64 * ((0 : Int64) + (s3.toInt64 * (1 : Int64))))) + (s1.toInt64 * (((0 : Int64) + (s3.toInt64 * (1 : Int64))) + (s2.toInt64 * (1 : Int64)))))))))) + (((1 : Int64) * s0.toInt64) * (((((0 : Int64) + (s3.toInt64 * (0 : Int64))) + (s2.toInt64 * ((0 : Int64) + (s3.toInt64 * (1 : Int64))))) + (s1.toInt64 * (((0 : Int64) + (s3.toInt64 * (1 : Int64))) + (s2.toInt64 * (1 : Int64))))) - (((0 : Int64) + (s3.toInt64 * (0 : Int64))) + (s2.toInt64 * ((0 : Int64) + (s3.toInt64 * (1 : Int64)))))))) + ((((1 : Int64) * s0.toInt64) * s2.toInt64) * (((0 : Int64) + (s3.toInt64 * (1 : Int64))) - ((0 : Int64) + (s3.toInt64 * (1 : Int64))))))) = (st + (((((s0.toInt64) * (s1.toInt64)) * (s2.toInt64)) + (((s0.toInt64) * (s1.toInt64)) * (s3.toInt64))) + (0 : Int64))) := by
  generalize s0.toInt64 = y0
  generalize s1.toInt64 = y1
  generalize s2.toInt64 = y2
  generalize s3.toInt64 = y3
  grind
theorem own_id_3_3 (s0 s1 s2 s3 : Int32) (st : Int64) : (st + ((((0 : Int64) + ((1 : Int64) * ((((((0 : Int64) + (s3.toInt64 * (0 : Int64))) + (s2.toInt64 * ((0 : Int64) + (s3.toInt64 * (0 : Int64))))) + (s1.toInt64 * (((0 : Int64) + (s3.toInt64 * (0 : Int64))) + (s2.toInt64 * ((0 : Int64) + (s3.toInt64 * (1 : Int64))))))) + (s0.toInt64 * ((((0 : Int64) + (s3.toInt64 * (0 : Int64))) + (s2.toInt64 * ((0 : Int64) + (s3.toInt64 * (1 : Int64))))) + (s1.toInt64 * (((0 : Int64) + (s3.toInt64 * (1 : Int64))) + (s2.toInt64 * (1 : Int64))))))) - ((((0 : Int64) + (s3.toInt64 * (0 : Int64))) + (s2.toInt64 * ((0 : Int64) + (s3.toInt64 * (0 : Int64))))) + (s1.toInt64 * (((0 : Int64) + (s3.toInt64 * (0 : Int64))) + (s2.toInt64 * ((0 : Int64) + (s3.toInt64 * (1 : Int64)))))))))) + (((1 : Int64) * s1.toInt64) * ((((0 : Int64) + (s3.toInt64 * (0 : Int64))) + (s2.toInt64 * ((0 : Int64) + (s3.toInt64 * (1 : Int64))))) - (((0 : Int64) + (s3.toInt64 * (0 : Int64))) + (s2.toInt64 * ((0 : Int64) + (s3.toInt64 * (1 : Int64)))))))) + ((((1 : Int64) * s1.toInt64) * s2.toInt64) * (((0 : Int64) + (s3.toInt64 * (1 : Int64))) - ((0 : Int64) + (s3.toInt64 * (1 : Int64))))))) = (st + (((((s0.toInt64) * (s1.toInt64)) * (s2.toInt64)) + (((s0.toInt64) * (s1.toInt64)) * (s3.toInt64))) + (((s0.toInt64) * (s2.toInt64)) * (s3.toInt64)))) := by
  generalize s0.toInt64 = y0
  generalize s1.toInt64 = y1
  generalize s2.toInt64 = y2
  generalize s3.toInt64 = y3
  grind
theorem own_id_4_0 (s0 s1 s2 s3 : Int32) (st : Int64) : (st + (((((0 : Int64) + ((1 : Int64) * ((((((0 : Int64) + (s3.toInt64 * (0 : Int64))) + (s2.toInt64 * ((0 : Int64) + (s3.toInt64 * (0 : Int64))))) + (s1.toInt64 * (((0 : Int64) + (s3.toInt64 * (0 : Int64))) + (s2.toInt64 * ((0 : Int64) + (s3.toInt64 * (0 : Int64))))))) + (s0.toInt64 * ((((0 : Int64) + (s3.toInt64 * (0 : Int64))) + (s2.toInt64 * ((0 : Int64) + (s3.toInt64 * (0 : Int64))))) + (s1.toInt64 * (((0 : Int64) + (s3.toInt64 * (0 : Int64))) + (s2.toInt64 * ((0 : Int64) + (s3.toInt64 * (1 : Int64))))))))) - (((((0 : Int64) + (s3.toInt64 * (0 : Int64))) + (s2.toInt64 * ((0 : Int64) + (s3.toInt64 * (0 : Int64))))) + (s1.toInt64 * (((0 : Int64) + (s3.toInt64 * (0 : Int64))) + (s2.toInt64 * ((0 : Int64) + (s3.toInt64 * (0 : Int64))))))) + (s0.toInt64 * ((((0 : Int64) + (s3.toInt64 * (0 : Int64))) + (s2.toInt64 * ((0 : Int64) + (s3.toInt64 * (0 : Int64))))) + (s1.toInt64 * (((0 : Int64) + (s3.toInt64 * (0 : Int64))) + (s2.toInt64 * ((0 : Int64) + (s3.toInt64 * (1 : Int64)))))))))))) + (((1 : Int64) * s0.toInt64) * (((((0 : Int64) + (s3.toInt64 * (0 : Int64))) + (s2.toInt64 * ((0 : Int64) + (s3.toInt64 * (0 : Int64))))) + (s1.toInt64 * (((0 : Int64) + (s3.toInt64 * (0 : Int64))) + (s2.toInt64 * ((0 : Int64) + (s3.toInt64 * (1 : Int64))))))) - ((((0 : Int64) + (s3.toInt64 * (0 : Int64))) + (s2.toInt64 * ((0 : Int64) + (s3.toInt64 * (0 : Int64))))) + (s1.toInt64 * (((0 : Int64) + (s3.toInt64 * (0 : Int64))) + (s2.toInt64 * ((0 : Int64) + (s3.toInt64 * (1 : Int64)))))))))) + ((((1 : Int64) * s0.toInt64) * s1.toInt64) * ((((0 : Int64) + (s3.toInt64 * (0 : Int64))) + (s2.toInt64 * ((0 : Int64) + (s3.toInt64 * (1 : Int64))))) - (((0 : Int64) + (s3.toInt64 * (0 : Int64))) + (s2.toInt64 * ((0 : Int64) + (s3.toInt64 * (1 : Int64)))))))) + (((((1 : Int64) * s0.toInt64) * s1.toInt64) * s2.toInt64) * (((0 : Int64) + (s3.toInt64 * (1 : Int64))) - ((0 : Int64) + (s3.toInt64 * (1 : Int64))))))) = (st + (0 : Int64)) := by
  generalize s0.toInt64 = y0
  generalize s1.toInt64 = y1
  generalize s2.toInt64 = y2
  generalize s3.toInt64 = y3
  grind
theorem ef_own_law (m : MethodId) (pk : Int64) (ff : Int32) (sk : Int32) (pk2 : Int32) (st : Int64)  : entryFrame m #[(.long pk), (.int ff), (.int sk), (.int pk2), (.long st)] maxLocals = mkF m 0 #[jv pk, sc, iv ff, iv sk, iv pk2, jv st, sc, un, un, un, un, un, un, un, un, un, un, un, un, un, un, un, un, un, un, un, un, un, un, un, un, un, un, un, un, un, un, un, un, un] [] := by
  first | (simp [entryFrame, mkF, argsToLocals, Value.category, maxLocals]; done) | rfl
set_option maxRecDepth 65536 in
set_option maxHeartbeats 40000000 in
theorem own_arm_1_0 {p : Program} {l : Launch} {e : Env} {s : State} {m : MethodId} {below : List Frame} {meth : Method} {c : Code} {Z : State} {a0 : Array Value} {n0 : Nat} {pk : Int64} {ff : Int32} {sk : Int32} {pk2 : Int32} {st : Int64} {sb : Addr} {mb : Addr} {sz : List Int32} {kk : Int32} {rr : Int32} {m0 : Int32} {s0 : Int32} {m1 : Int32} {s1 : Int32} {m2 : Int32} {s2 : Int32} {m3 : Int32} {s3 : Int32} (C : Cx p s m meth c Z a0 x.cls code maxLocals ret x.name) {T72 : State} {h74 : Heap} (X73 : St Z p l e room_1 s m #[(.long pk), (.int ff), (.int sk), (.int pk2), (.long st)] below meth c n0 T72 h74 (0 + 1 + 1) (0 + 5 + 4)) (A77 : La Z h74 sb .int (ia sz)) (A76 : La Z h74 mb .int ([(.int m0), (.int m1), (.int m2), (.int m3)])) (E78 : Exa Z h74 mb "[I") (ne_sb_mb : sb ≠ mb) (ga_sb : n0 ≤ sb) (ga_mb : n0 ≤ mb) (hl : sz.length = 5) (b0 : 0 ≤ m0.toInt ∧ m0.toInt < (5 : Nat)) (b1 : 0 ≤ m1.toInt ∧ m1.toInt < (5 : Nat)) (b2 : 0 ≤ m2.toInt ∧ m2.toInt < (5 : Nat)) (b3 : 0 ≤ m3.toInt ∧ m3.toInt < (5 : Nat)) (z0 : at32 sz m0 = s0) (z1 : at32 sz m1 = s1) (z2 : at32 sz m2 = s2) (z3 : at32 sz m3 = s3) (d01 : ¬ m0.toInt = m1.toInt) (d02 : ¬ m0.toInt = m2.toInt) (d03 : ¬ m0.toInt = m3.toInt) (d12 : ¬ m1.toInt = m2.toInt) (d13 : ¬ m1.toInt = m3.toInt) (d23 : ¬ m2.toInt = m3.toInt) : Go p e below (FinQ s room_1.cells room_1.slots n0 (fun v h' => v = some (.int 1))) (T72.setTop (mkF m 197 #[jv pk, sc, iv ff, iv sk, iv pk2, jv st, sc, rv sb, iv kk, iv m0, iv m1, iv m2, iv m3, rv mb, jv (s0.toInt64), sc, jv (s1.toInt64), sc, jv (s2.toInt64), sc, jv (s3.toInt64), sc, iv (1 : Int32), iv rr, un, un, un, iv (0 : Int32), un, un, un, un, un, un, un, un, un, un, un, un] [])) := by
  refine go_iconst C X73 198 rfl at_197 (z := 1) rfl ?_
  refine go_newarr C X73 (C.w 0 rfl) (cap := 1) (by decide) (by decide) (by decide) (by decide) (by decide) (pc' := 200) rfl at_198 (fun T79 h81 qb ha_qb ga_qb E82 A83  X80 => ?_)
  have ne_sb_qb : sb ≠ qb := Nat.ne_of_lt (Nat.lt_of_lt_of_le A77.lt (Nat.le_of_eq ha_qb.symm))
  have ne_mb_qb : mb ≠ qb := Nat.ne_of_lt (Nat.lt_of_lt_of_le A76.lt (Nat.le_of_eq ha_qb.symm))
  have A84 := A77.ext E82
  have A85 := A76.ext E82
  have E86 := E78.ext E82
  replace A83 : La Z h81 qb .int ([(.int (0 : Int32))]) := A83
  refine go_dup C X80 201 rfl at_200 rfl ?_
  refine go_iconst C X80 202 rfl at_201 (z := 0) rfl ?_
  refine go_aload C X80 204 rfl at_202 rfl rfl ?_
  refine go_iload C X80 206 rfl at_204 rfl ?_
  refine go_iaload C X80 A85 (by decide) (v := (.int m0)) rfl (pc' := 207) rfl at_206 ?_
  refine go_iastore C X80 A83 (by decide) (by show _ < (1 : Int); decide) ga_qb (pc' := 208) rfl at_207 (fun T87 h89 W90 A91 X88 => ?_)
  have A92 := A84.other W90 ne_sb_qb
  have A93 := A85.other W90 ne_mb_qb
  have E94 := E86.wr W90
  replace A91 : La Z h89 qb .int ([(.int m0)]) := A91
  refine go_astore C X88 210 rfl at_208 rfl #[jv pk, sc, iv ff, iv sk, iv pk2, jv st, sc, rv sb, iv kk, iv m0, iv m1, iv m2, iv m3, rv mb, jv (s0.toInt64), sc, jv (s1.toInt64), sc, jv (s2.toInt64), sc, jv (s3.toInt64), sc, iv (1 : Int32), iv rr, rv qb, un, un, iv (0 : Int32), un, un, un, un, un, un, un, un, un, un, un, un] rfl ?_
  refine go_iload C X88 212 rfl at_210 rfl ?_
  refine go_if_le C X88 at_212 (pc' := 215) (pc2 := 220) rfl (by decide) (by decide) (fun (c212 : 0 ≤ 0) => ?_) (fun (c212 : 0 < 0) => False.elim (by first | omega | exact absurd c212 (by decide)))
  refine go_lconst C X88 221 rfl at_220 (z := 0) rfl ?_
  refine go_iload C X88 223 rfl at_221 rfl ?_
  refine go_iconst C X88 224 rfl at_223 (z := 1) rfl ?_
  refine go_icmp_le C X88 at_224 (pc' := 227) (pc2 := 232) rfl (by decide) (by decide) (fun (c224 : 0 ≤ 1) => ?_) (fun (c224 : 1 < 0) => False.elim (by first | omega | exact absurd c224 (by decide)))
  refine go_lconst C X88 233 rfl at_232 (z := 0) rfl ?_
  refine go_laddL C X88 234 rfl at_233 (z := (0)) rfl ?_
  refine go_iload C X88 236 rfl at_234 rfl ?_
  refine go_iconst C X88 237 rfl at_236 (z := 2) rfl ?_
  refine go_icmp_le C X88 at_237 (pc' := 240) (pc2 := 245) rfl (by decide) (by decide) (fun (c237 : 0 ≤ 2) => ?_) (fun (c237 : 2 < 0) => False.elim (by first | omega | exact absurd c237 (by decide)))
  refine go_lconst C X88 246 rfl at_245 (z := 0) rfl ?_
  refine go_laddL C X88 247 rfl at_246 (z := (0)) rfl ?_
  refine go_lstore C X88 249 rfl at_247 #[jv pk, sc, iv ff, iv sk, iv pk2, jv st, sc, rv sb, iv kk, iv m0, iv m1, iv m2, iv m3, rv mb, jv (s0.toInt64), sc, jv (s1.toInt64), sc, jv (s2.toInt64), sc, jv (s3.toInt64), sc, iv (1 : Int32), iv rr, rv qb, jv (0 : Int64), sc, iv (0 : Int32), un, un, un, un, un, un, un, un, un, un, un, un] rfl ?_
  refine go_goto C X88 at_249 (pc' := 626) (by decide) (by decide) ?_
  refine go_new C X88 (C.w 7 rfl) (C.w 8 rfl) (C.w 9 rfl) (by decide) (by decide) (pc' := 629) rfl at_626 (fun T95 h97 ps ha_ps ga_ps E98 E99 D100 X96 => ?_)
  have ne_sb_ps : sb ≠ ps := Nat.ne_of_lt (Nat.lt_of_lt_of_le A92.lt (Nat.le_of_eq ha_ps.symm))
  have ne_mb_ps : mb ≠ ps := Nat.ne_of_lt (Nat.lt_of_lt_of_le A93.lt (Nat.le_of_eq ha_ps.symm))
  have ne_qb_ps : qb ≠ ps := Nat.ne_of_lt (Nat.lt_of_lt_of_le A91.lt (Nat.le_of_eq ha_ps.symm))
  have A101 := A92.ext E98
  have A102 := A93.ext E98
  have E103 := E94.ext E98
  have A104 := A91.ext E98
  have F105 : Fld Z h97 ps "com/example/covertide/covertide/engine/ParameterSets" "sizes" "[I" .null := D100 (Or.inr (C.w 17 rfl)) (ty := (.array .int)) (by decide)
  have F106 : Fld Z h97 ps "com/example/covertide/covertide/engine/ParameterSets" "members" "[I" .null := D100 (Or.inr (C.w 28 rfl)) (ty := (.array .int)) (by decide)
  have F107 : Fld Z h97 ps "com/example/covertide/covertide/engine/ParameterSets" "indexOf" "[I" .null := D100 (Or.inr (C.w 30 rfl)) (ty := (.array .int)) (by decide)
  have F108 : Fld Z h97 ps "com/example/covertide/covertide/engine/ParameterSets" "size" "I" (.int (0 : Int32)) := D100 (Or.inr (C.w 36 rfl)) (ty := .int) (by decide)
  have F109 : Fld Z h97 ps "com/example/covertide/covertide/engine/ParameterSets" "start" "J" (.long (0 : Int64)) := D100 (Or.inr (C.w 38 rfl)) (ty := .long) (by decide)
  have F110 : Fld Z h97 ps "com/example/covertide/covertide/engine/ParameterSets" "suffixSums" "[[J" .null := D100 (Or.inr (C.w 50 rfl)) (ty := (.array (.array .long))) (by decide)
  have F111 : Fld Z h97 ps "com/example/covertide/covertide/engine/ParameterSets" "combinations" "J" (.long (0 : Int64)) := D100 (Or.inr (C.w 52 rfl)) (ty := .long) (by decide)
  refine go_dup C X96 630 rfl at_629 rfl ?_
  refine go_aload C X96 632 rfl at_630 rfl rfl ?_
  refine go_aload C X96 634 rfl at_632 rfl rfl ?_
  refine go_iload C X96 636 rfl at_634 rfl ?_
  refine go_lload C X96 638 rfl at_636 rfl ?_
  have hsz_638 := X96.sz
  have lt_sb_638 := A101.lt
  have lt_mb_638 := A102.lt
  have lt_qb_638 := A104.lt
  have lt_ps_638 := E99.lt
  refine go_special C X96 (C.w 10 rfl) (C.w 11 rfl) (C.w 9 rfl) (C.w 12 rfl) rfl (own_init_1 l Z a0 C.ws ps sb mb st sz m0 m1 m2 m3 s0 s1 s2 s3 h97 n0 X96.old E99 F105 F106 F107 F108 F109 F110 F111 A101 A102 E103 ga_ps (Ne.symm ne_sb_ps) (Ne.symm ne_mb_ps) hl b0 z0 b1 z1 b2 z2 b3 z3) (argsL := [(.ref sb), (.ref mb), (.int (1 : Int32)), (.long st)]) (rest := [(.ref ps)]) (lenOf pd_4 rfl) rfl (by decide) (by decide) (Nat.le_of_ble_eq_true rfl) (by decide) (by decide) rfl rfl (pc' := 641) rfl at_638 ?_
  rintro T112 h114 _ ⟨rfl, xb, ob, r0, r1, K6, E6, Fs, Fx, Ft, Fu, sx6, so6, sz6r0, sz6r1, Ax6, Ao6, A6r0, A6r1⟩ X113
  show Go p e below _ (T112.setTop (mkF m 641 #[jv pk, sc, iv ff, iv sk, iv pk2, jv st, sc, rv sb, iv kk, iv m0, iv m1, iv m2, iv m3, rv mb, jv (s0.toInt64), sc, jv (s1.toInt64), sc, jv (s2.toInt64), sc, jv (s3.toInt64), sc, iv (1 : Int32), iv rr, rv qb, jv (0 : Int64), sc, iv (0 : Int32), un, un, un, un, un, un, un, un, un, un, un, un] [(.ref ps)]))
  have ne_sb_xb : sb ≠ xb := Nat.ne_of_lt (Nat.lt_of_lt_of_le lt_sb_638 sx6)
  have ne_mb_xb : mb ≠ xb := Nat.ne_of_lt (Nat.lt_of_lt_of_le lt_mb_638 sx6)
  have ne_qb_xb : qb ≠ xb := Nat.ne_of_lt (Nat.lt_of_lt_of_le lt_qb_638 sx6)
  have ne_ps_xb : ps ≠ xb := Nat.ne_of_lt (Nat.lt_of_lt_of_le lt_ps_638 sx6)
  have ga_xb : n0 ≤ xb := Nat.le_trans hsz_638 sx6
  have ne_sb_ob : sb ≠ ob := Nat.ne_of_lt (Nat.lt_of_lt_of_le lt_sb_638 so6)
  have ne_mb_ob : mb ≠ ob := Nat.ne_of_lt (Nat.lt_of_lt_of_le lt_mb_638 so6)
  have ne_qb_ob : qb ≠ ob := Nat.ne_of_lt (Nat.lt_of_lt_of_le lt_qb_638 so6)
  have ne_ps_ob : ps ≠ ob := Nat.ne_of_lt (Nat.lt_of_lt_of_le lt_ps_638 so6)
  have ga_ob : n0 ≤ ob := Nat.le_trans hsz_638 so6
  have ne_sb_r0 : sb ≠ r0 := Nat.ne_of_lt (Nat.lt_of_lt_of_le lt_sb_638 sz6r0)
  have ne_mb_r0 : mb ≠ r0 := Nat.ne_of_lt (Nat.lt_of_lt_of_le lt_mb_638 sz6r0)
  have ne_qb_r0 : qb ≠ r0 := Nat.ne_of_lt (Nat.lt_of_lt_of_le lt_qb_638 sz6r0)
  have ne_ps_r0 : ps ≠ r0 := Nat.ne_of_lt (Nat.lt_of_lt_of_le lt_ps_638 sz6r0)
  have ga_r0 : n0 ≤ r0 := Nat.le_trans hsz_638 sz6r0
  have ne_sb_r1 : sb ≠ r1 := Nat.ne_of_lt (Nat.lt_of_lt_of_le lt_sb_638 sz6r1)
  have ne_mb_r1 : mb ≠ r1 := Nat.ne_of_lt (Nat.lt_of_lt_of_le lt_mb_638 sz6r1)
  have ne_qb_r1 : qb ≠ r1 := Nat.ne_of_lt (Nat.lt_of_lt_of_le lt_qb_638 sz6r1)
  have ne_ps_r1 : ps ≠ r1 := Nat.ne_of_lt (Nat.lt_of_lt_of_le lt_ps_638 sz6r1)
  have ga_r1 : n0 ≤ r1 := Nat.le_trans hsz_638 sz6r1
  have A115 := A101.keep K6 (ninS ne_sb_ps nin0)
  have A116 := A102.keep K6 (ninS ne_mb_ps nin0)
  have E117 := E103.keep K6
  have A118 := A104.keep K6 (ninS ne_qb_ps nin0)
  have E119 := E99.keep K6
  have xl : ((put32 (put32 (put32 (put32 [-1, -1, -1, -1, -1] m0 0) m1 1) m2 2) m3 3)).length = 5 := by simp [put32_len]
  have x0 : at32 (put32 (put32 (put32 (put32 [-1, -1, -1, -1, -1] m0 0) m1 1) m2 2) m3 3) m0 = 0 := by rw [own_put_miss b3.1 b0.1 (fun q => d03 q.symm)]; rw [own_put_miss b2.1 b0.1 (fun q => d02 q.symm)]; rw [own_put_miss b1.1 b0.1 (fun q => d01 q.symm)]; exact own_put_hit b0.1 (by simpa [put32_len] using b0.2)
  have x1 : at32 (put32 (put32 (put32 (put32 [-1, -1, -1, -1, -1] m0 0) m1 1) m2 2) m3 3) m1 = 1 := by rw [own_put_miss b3.1 b1.1 (fun q => d13 q.symm)]; rw [own_put_miss b2.1 b1.1 (fun q => d12 q.symm)]; exact own_put_hit b1.1 (by simpa [put32_len] using b1.2)
  have x2 : at32 (put32 (put32 (put32 (put32 [-1, -1, -1, -1, -1] m0 0) m1 1) m2 2) m3 3) m2 = 2 := by rw [own_put_miss b3.1 b2.1 (fun q => d23 q.symm)]; exact own_put_hit b2.1 (by simpa [put32_len] using b2.2)
  have x3 : at32 (put32 (put32 (put32 (put32 [-1, -1, -1, -1, -1] m0 0) m1 1) m2 2) m3 3) m3 = 3 := by exact own_put_hit b3.1 (by simpa [put32_len] using b3.2)
  generalize (put32 (put32 (put32 (put32 [-1, -1, -1, -1, -1] m0 0) m1 1) m2 2) m3 3) = ix at *
  refine go_astore C X113 643 rfl at_641 rfl #[jv pk, sc, iv ff, iv sk, iv pk2, jv st, sc, rv sb, iv kk, iv m0, iv m1, iv m2, iv m3, rv mb, jv (s0.toInt64), sc, jv (s1.toInt64), sc, jv (s2.toInt64), sc, jv (s3.toInt64), sc, iv (1 : Int32), iv rr, rv qb, jv (0 : Int64), sc, rv ps, un, un, un, un, un, un, un, un, un, un, un, un] rfl ?_
  refine go_aload C X113 645 rfl at_643 rfl rfl ?_
  refine go_aload C X113 647 rfl at_645 rfl rfl ?_
  refine go_virtual C X113 E6 (C.w 53 rfl) (C.w 54 rfl) (notFace_of_selects (args := #[]) (mvT C.hZ (C.w 56 rfl))) (C.w 56 rfl) (C.w 55 rfl) (C.w 9 rfl) (C.w 57 rfl) (own_bit_1_0 l Z a0 C.ws ps qb sb xb ob r0 r1 sz ix m0 m1 m2 m3 s0 s1 s2 s3 st _ _ _ _ _ _ _ _ _ _ h114 n0 X113.old Fs Fx Ft Fu A115 Ax6 Ao6 A6r0 A6r1 A118 hl xl b0 z0 b1 z1 b2 z2 b3 z3 x0 x1 x2 x3) (argsL := [(.ref qb)]) (rest := []) (lenOf pd_5 rfl) rfl (by decide) (by decide) (Nat.le_of_ble_eq_true rfl) (by decide) (by decide) rfl rfl (pc' := 650) rfl at_647 ?_
  rintro T120 _ _ ⟨rfl, rfl⟩ X121
  show Go p e below _ (T120.setTop (mkF m 650 #[jv pk, sc, iv ff, iv sk, iv pk2, jv st, sc, rv sb, iv kk, iv m0, iv m1, iv m2, iv m3, rv mb, jv (s0.toInt64), sc, jv (s1.toInt64), sc, jv (s2.toInt64), sc, jv (s3.toInt64), sc, iv (1 : Int32), iv rr, rv qb, jv (0 : Int64), sc, rv ps, un, un, un, un, un, un, un, un, un, un, un, un] [(.long (st + ((0 : Int64) + ((1 : Int64) * ((((((0 : Int64) + (s3.toInt64 * (1 : Int64))) + (s2.toInt64 * (1 : Int64))) + (s1.toInt64 * (1 : Int64))) + (s0.toInt64 * (1 : Int64))) - (((((0 : Int64) + (s3.toInt64 * (1 : Int64))) + (s2.toInt64 * (1 : Int64))) + (s1.toInt64 * (1 : Int64))) + (s0.toInt64 * (1 : Int64))))))))]))
  refine go_lload C X121 652 rfl at_650 rfl ?_
  refine go_lload C X121 654 rfl at_652 rfl ?_
  refine go_ladd C X121 655 rfl at_654 ?_
  refine go_lif_ne C X121 (pc1 := 656) rfl at_655 at_656 (pc' := 659) (pc2 := 663) rfl (by decide) (by decide) (fun c656 => False.elim (c656 (own_id_1_0 s0 s1 s2 s3 st))) (fun _ => ?_)
  refine go_iconst C X121 660 rfl at_659 (z := 1) rfl ?_
  refine go_goto C X121 at_660 (pc' := 664) (by decide) (by decide) ?_
  exact go_retN C X121 (by simp) (z' := 1) rfl at_664 rfl (by decide) (by decide)
set_option maxRecDepth 65536 in
set_option maxHeartbeats 40000000 in
theorem own_arm_1_1 {p : Program} {l : Launch} {e : Env} {s : State} {m : MethodId} {below : List Frame} {meth : Method} {c : Code} {Z : State} {a0 : Array Value} {n0 : Nat} {pk : Int64} {ff : Int32} {sk : Int32} {pk2 : Int32} {st : Int64} {sb : Addr} {mb : Addr} {sz : List Int32} {kk : Int32} {rr : Int32} {m0 : Int32} {s0 : Int32} {m1 : Int32} {s1 : Int32} {m2 : Int32} {s2 : Int32} {m3 : Int32} {s3 : Int32} (C : Cx p s m meth c Z a0 x.cls code maxLocals ret x.name) {T72 : State} {h74 : Heap} (X73 : St Z p l e room_1 s m #[(.long pk), (.int ff), (.int sk), (.int pk2), (.long st)] below meth c n0 T72 h74 (0 + 1 + 1) (0 + 5 + 4)) (A77 : La Z h74 sb .int (ia sz)) (A76 : La Z h74 mb .int ([(.int m0), (.int m1), (.int m2), (.int m3)])) (E78 : Exa Z h74 mb "[I") (ne_sb_mb : sb ≠ mb) (ga_sb : n0 ≤ sb) (ga_mb : n0 ≤ mb) (hl : sz.length = 5) (b0 : 0 ≤ m0.toInt ∧ m0.toInt < (5 : Nat)) (b1 : 0 ≤ m1.toInt ∧ m1.toInt < (5 : Nat)) (b2 : 0 ≤ m2.toInt ∧ m2.toInt < (5 : Nat)) (b3 : 0 ≤ m3.toInt ∧ m3.toInt < (5 : Nat)) (z0 : at32 sz m0 = s0) (z1 : at32 sz m1 = s1) (z2 : at32 sz m2 = s2) (z3 : at32 sz m3 = s3) (d01 : ¬ m0.toInt = m1.toInt) (d02 : ¬ m0.toInt = m2.toInt) (d03 : ¬ m0.toInt = m3.toInt) (d12 : ¬ m1.toInt = m2.toInt) (d13 : ¬ m1.toInt = m3.toInt) (d23 : ¬ m2.toInt = m3.toInt) : Go p e below (FinQ s room_1.cells room_1.slots n0 (fun v h' => v = some (.int 1))) (T72.setTop (mkF m 197 #[jv pk, sc, iv ff, iv sk, iv pk2, jv st, sc, rv sb, iv kk, iv m0, iv m1, iv m2, iv m3, rv mb, jv (s0.toInt64), sc, jv (s1.toInt64), sc, jv (s2.toInt64), sc, jv (s3.toInt64), sc, iv (1 : Int32), iv rr, un, un, un, iv (1 : Int32), un, un, un, un, un, un, un, un, un, un, un, un] [])) := by
  refine go_iconst C X73 198 rfl at_197 (z := 1) rfl ?_
  refine go_newarr C X73 (C.w 0 rfl) (cap := 1) (by decide) (by decide) (by decide) (by decide) (by decide) (pc' := 200) rfl at_198 (fun T123 h125 qb ha_qb ga_qb E126 A127  X124 => ?_)
  have ne_sb_qb : sb ≠ qb := Nat.ne_of_lt (Nat.lt_of_lt_of_le A77.lt (Nat.le_of_eq ha_qb.symm))
  have ne_mb_qb : mb ≠ qb := Nat.ne_of_lt (Nat.lt_of_lt_of_le A76.lt (Nat.le_of_eq ha_qb.symm))
  have A128 := A77.ext E126
  have A129 := A76.ext E126
  have E130 := E78.ext E126
  replace A127 : La Z h125 qb .int ([(.int (0 : Int32))]) := A127
  refine go_dup C X124 201 rfl at_200 rfl ?_
  refine go_iconst C X124 202 rfl at_201 (z := 0) rfl ?_
  refine go_aload C X124 204 rfl at_202 rfl rfl ?_
  refine go_iload C X124 206 rfl at_204 rfl ?_
  refine go_iaload C X124 A129 (by decide) (v := (.int m1)) rfl (pc' := 207) rfl at_206 ?_
  refine go_iastore C X124 A127 (by decide) (by show _ < (1 : Int); decide) ga_qb (pc' := 208) rfl at_207 (fun T131 h133 W134 A135 X132 => ?_)
  have A136 := A128.other W134 ne_sb_qb
  have A137 := A129.other W134 ne_mb_qb
  have E138 := E130.wr W134
  replace A135 : La Z h133 qb .int ([(.int m1)]) := A135
  refine go_astore C X132 210 rfl at_208 rfl #[jv pk, sc, iv ff, iv sk, iv pk2, jv st, sc, rv sb, iv kk, iv m0, iv m1, iv m2, iv m3, rv mb, jv (s0.toInt64), sc, jv (s1.toInt64), sc, jv (s2.toInt64), sc, jv (s3.toInt64), sc, iv (1 : Int32), iv rr, rv qb, un, un, iv (1 : Int32), un, un, un, un, un, un, un, un, un, un, un, un] rfl ?_
  refine go_iload C X132 212 rfl at_210 rfl ?_
  refine go_if_le C X132 at_212 (pc' := 215) (pc2 := 220) rfl (by decide) (by decide) (fun (c212 : 1 ≤ 0) => False.elim (by first | omega | exact absurd c212 (by decide))) (fun (c212 : 0 < 1) => ?_)
  refine go_lload C X132 217 rfl at_215 rfl ?_
  refine go_goto C X132 at_217 (pc' := 221) (by decide) (by decide) ?_
  refine go_iload C X132 223 rfl at_221 rfl ?_
  refine go_iconst C X132 224 rfl at_223 (z := 1) rfl ?_
  refine go_icmp_le C X132 at_224 (pc' := 227) (pc2 := 232) rfl (by decide) (by decide) (fun (c224 : 1 ≤ 1) => ?_) (fun (c224 : 1 < 1) => False.elim (by first | omega | exact absurd c224 (by decide)))
  refine go_lconst C X132 233 rfl at_232 (z := 0) rfl ?_
  refine go_ladd C X132 234 rfl at_233 ?_
  refine go_iload C X132 236 rfl at_234 rfl ?_
  refine go_iconst C X132 237 rfl at_236 (z := 2) rfl ?_
  refine go_icmp_le C X132 at_237 (pc' := 240) (pc2 := 245) rfl (by decide) (by decide) (fun (c237 : 1 ≤ 2) => ?_) (fun (c237 : 2 < 1) => False.elim (by first | omega | exact absurd c237 (by decide)))
  refine go_lconst C X132 246 rfl at_245 (z := 0) rfl ?_
  refine go_ladd C X132 247 rfl at_246 ?_
  refine go_lstore C X132 249 rfl at_247 #[jv pk, sc, iv ff, iv sk, iv pk2, jv st, sc, rv sb, iv kk, iv m0, iv m1, iv m2, iv m3, rv mb, jv (s0.toInt64), sc, jv (s1.toInt64), sc, jv (s2.toInt64), sc, jv (s3.toInt64), sc, iv (1 : Int32), iv rr, rv qb, jv (((s0.toInt64) + (0 : Int64)) + (0 : Int64)), sc, iv (1 : Int32), un, un, un, un, un, un, un, un, un, un, un, un] rfl ?_
  refine go_goto C X132 at_249 (pc' := 626) (by decide) (by decide) ?_
  refine go_new C X132 (C.w 7 rfl) (C.w 8 rfl) (C.w 9 rfl) (by decide) (by decide) (pc' := 629) rfl at_626 (fun T139 h141 ps ha_ps ga_ps E142 E143 D144 X140 => ?_)
  have ne_sb_ps : sb ≠ ps := Nat.ne_of_lt (Nat.lt_of_lt_of_le A136.lt (Nat.le_of_eq ha_ps.symm))
  have ne_mb_ps : mb ≠ ps := Nat.ne_of_lt (Nat.lt_of_lt_of_le A137.lt (Nat.le_of_eq ha_ps.symm))
  have ne_qb_ps : qb ≠ ps := Nat.ne_of_lt (Nat.lt_of_lt_of_le A135.lt (Nat.le_of_eq ha_ps.symm))
  have A145 := A136.ext E142
  have A146 := A137.ext E142
  have E147 := E138.ext E142
  have A148 := A135.ext E142
  have F149 : Fld Z h141 ps "com/example/covertide/covertide/engine/ParameterSets" "sizes" "[I" .null := D144 (Or.inr (C.w 17 rfl)) (ty := (.array .int)) (by decide)
  have F150 : Fld Z h141 ps "com/example/covertide/covertide/engine/ParameterSets" "members" "[I" .null := D144 (Or.inr (C.w 28 rfl)) (ty := (.array .int)) (by decide)
  have F151 : Fld Z h141 ps "com/example/covertide/covertide/engine/ParameterSets" "indexOf" "[I" .null := D144 (Or.inr (C.w 30 rfl)) (ty := (.array .int)) (by decide)
  have F152 : Fld Z h141 ps "com/example/covertide/covertide/engine/ParameterSets" "size" "I" (.int (0 : Int32)) := D144 (Or.inr (C.w 36 rfl)) (ty := .int) (by decide)
  have F153 : Fld Z h141 ps "com/example/covertide/covertide/engine/ParameterSets" "start" "J" (.long (0 : Int64)) := D144 (Or.inr (C.w 38 rfl)) (ty := .long) (by decide)
  have F154 : Fld Z h141 ps "com/example/covertide/covertide/engine/ParameterSets" "suffixSums" "[[J" .null := D144 (Or.inr (C.w 50 rfl)) (ty := (.array (.array .long))) (by decide)
  have F155 : Fld Z h141 ps "com/example/covertide/covertide/engine/ParameterSets" "combinations" "J" (.long (0 : Int64)) := D144 (Or.inr (C.w 52 rfl)) (ty := .long) (by decide)
  refine go_dup C X140 630 rfl at_629 rfl ?_
  refine go_aload C X140 632 rfl at_630 rfl rfl ?_
  refine go_aload C X140 634 rfl at_632 rfl rfl ?_
  refine go_iload C X140 636 rfl at_634 rfl ?_
  refine go_lload C X140 638 rfl at_636 rfl ?_
  have hsz_638 := X140.sz
  have lt_sb_638 := A145.lt
  have lt_mb_638 := A146.lt
  have lt_qb_638 := A148.lt
  have lt_ps_638 := E143.lt
  refine go_special C X140 (C.w 10 rfl) (C.w 11 rfl) (C.w 9 rfl) (C.w 12 rfl) rfl (own_init_1 l Z a0 C.ws ps sb mb st sz m0 m1 m2 m3 s0 s1 s2 s3 h141 n0 X140.old E143 F149 F150 F151 F152 F153 F154 F155 A145 A146 E147 ga_ps (Ne.symm ne_sb_ps) (Ne.symm ne_mb_ps) hl b0 z0 b1 z1 b2 z2 b3 z3) (argsL := [(.ref sb), (.ref mb), (.int (1 : Int32)), (.long st)]) (rest := [(.ref ps)]) (lenOf pd_4 rfl) rfl (by decide) (by decide) (Nat.le_of_ble_eq_true rfl) (by decide) (by decide) rfl rfl (pc' := 641) rfl at_638 ?_
  rintro T156 h158 _ ⟨rfl, xb, ob, r0, r1, K6, E6, Fs, Fx, Ft, Fu, sx6, so6, sz6r0, sz6r1, Ax6, Ao6, A6r0, A6r1⟩ X157
  show Go p e below _ (T156.setTop (mkF m 641 #[jv pk, sc, iv ff, iv sk, iv pk2, jv st, sc, rv sb, iv kk, iv m0, iv m1, iv m2, iv m3, rv mb, jv (s0.toInt64), sc, jv (s1.toInt64), sc, jv (s2.toInt64), sc, jv (s3.toInt64), sc, iv (1 : Int32), iv rr, rv qb, jv (((s0.toInt64) + (0 : Int64)) + (0 : Int64)), sc, iv (1 : Int32), un, un, un, un, un, un, un, un, un, un, un, un] [(.ref ps)]))
  have ne_sb_xb : sb ≠ xb := Nat.ne_of_lt (Nat.lt_of_lt_of_le lt_sb_638 sx6)
  have ne_mb_xb : mb ≠ xb := Nat.ne_of_lt (Nat.lt_of_lt_of_le lt_mb_638 sx6)
  have ne_qb_xb : qb ≠ xb := Nat.ne_of_lt (Nat.lt_of_lt_of_le lt_qb_638 sx6)
  have ne_ps_xb : ps ≠ xb := Nat.ne_of_lt (Nat.lt_of_lt_of_le lt_ps_638 sx6)
  have ga_xb : n0 ≤ xb := Nat.le_trans hsz_638 sx6
  have ne_sb_ob : sb ≠ ob := Nat.ne_of_lt (Nat.lt_of_lt_of_le lt_sb_638 so6)
  have ne_mb_ob : mb ≠ ob := Nat.ne_of_lt (Nat.lt_of_lt_of_le lt_mb_638 so6)
  have ne_qb_ob : qb ≠ ob := Nat.ne_of_lt (Nat.lt_of_lt_of_le lt_qb_638 so6)
  have ne_ps_ob : ps ≠ ob := Nat.ne_of_lt (Nat.lt_of_lt_of_le lt_ps_638 so6)
  have ga_ob : n0 ≤ ob := Nat.le_trans hsz_638 so6
  have ne_sb_r0 : sb ≠ r0 := Nat.ne_of_lt (Nat.lt_of_lt_of_le lt_sb_638 sz6r0)
  have ne_mb_r0 : mb ≠ r0 := Nat.ne_of_lt (Nat.lt_of_lt_of_le lt_mb_638 sz6r0)
  have ne_qb_r0 : qb ≠ r0 := Nat.ne_of_lt (Nat.lt_of_lt_of_le lt_qb_638 sz6r0)
  have ne_ps_r0 : ps ≠ r0 := Nat.ne_of_lt (Nat.lt_of_lt_of_le lt_ps_638 sz6r0)
  have ga_r0 : n0 ≤ r0 := Nat.le_trans hsz_638 sz6r0
  have ne_sb_r1 : sb ≠ r1 := Nat.ne_of_lt (Nat.lt_of_lt_of_le lt_sb_638 sz6r1)
  have ne_mb_r1 : mb ≠ r1 := Nat.ne_of_lt (Nat.lt_of_lt_of_le lt_mb_638 sz6r1)
  have ne_qb_r1 : qb ≠ r1 := Nat.ne_of_lt (Nat.lt_of_lt_of_le lt_qb_638 sz6r1)
  have ne_ps_r1 : ps ≠ r1 := Nat.ne_of_lt (Nat.lt_of_lt_of_le lt_ps_638 sz6r1)
  have ga_r1 : n0 ≤ r1 := Nat.le_trans hsz_638 sz6r1
  have A159 := A145.keep K6 (ninS ne_sb_ps nin0)
  have A160 := A146.keep K6 (ninS ne_mb_ps nin0)
  have E161 := E147.keep K6
  have A162 := A148.keep K6 (ninS ne_qb_ps nin0)
  have E163 := E143.keep K6
  have xl : ((put32 (put32 (put32 (put32 [-1, -1, -1, -1, -1] m0 0) m1 1) m2 2) m3 3)).length = 5 := by simp [put32_len]
  have x0 : at32 (put32 (put32 (put32 (put32 [-1, -1, -1, -1, -1] m0 0) m1 1) m2 2) m3 3) m0 = 0 := by rw [own_put_miss b3.1 b0.1 (fun q => d03 q.symm)]; rw [own_put_miss b2.1 b0.1 (fun q => d02 q.symm)]; rw [own_put_miss b1.1 b0.1 (fun q => d01 q.symm)]; exact own_put_hit b0.1 (by simpa [put32_len] using b0.2)
  have x1 : at32 (put32 (put32 (put32 (put32 [-1, -1, -1, -1, -1] m0 0) m1 1) m2 2) m3 3) m1 = 1 := by rw [own_put_miss b3.1 b1.1 (fun q => d13 q.symm)]; rw [own_put_miss b2.1 b1.1 (fun q => d12 q.symm)]; exact own_put_hit b1.1 (by simpa [put32_len] using b1.2)
  have x2 : at32 (put32 (put32 (put32 (put32 [-1, -1, -1, -1, -1] m0 0) m1 1) m2 2) m3 3) m2 = 2 := by rw [own_put_miss b3.1 b2.1 (fun q => d23 q.symm)]; exact own_put_hit b2.1 (by simpa [put32_len] using b2.2)
  have x3 : at32 (put32 (put32 (put32 (put32 [-1, -1, -1, -1, -1] m0 0) m1 1) m2 2) m3 3) m3 = 3 := by exact own_put_hit b3.1 (by simpa [put32_len] using b3.2)
  generalize (put32 (put32 (put32 (put32 [-1, -1, -1, -1, -1] m0 0) m1 1) m2 2) m3 3) = ix at *
  refine go_astore C X157 643 rfl at_641 rfl #[jv pk, sc, iv ff, iv sk, iv pk2, jv st, sc, rv sb, iv kk, iv m0, iv m1, iv m2, iv m3, rv mb, jv (s0.toInt64), sc, jv (s1.toInt64), sc, jv (s2.toInt64), sc, jv (s3.toInt64), sc, iv (1 : Int32), iv rr, rv qb, jv (((s0.toInt64) + (0 : Int64)) + (0 : Int64)), sc, rv ps, un, un, un, un, un, un, un, un, un, un, un, un] rfl ?_
  refine go_aload C X157 645 rfl at_643 rfl rfl ?_
  refine go_aload C X157 647 rfl at_645 rfl rfl ?_
  refine go_virtual C X157 E6 (C.w 53 rfl) (C.w 54 rfl) (notFace_of_selects (args := #[]) (mvT C.hZ (C.w 56 rfl))) (C.w 56 rfl) (C.w 55 rfl) (C.w 9 rfl) (C.w 57 rfl) (own_bit_1_1 l Z a0 C.ws ps qb sb xb ob r0 r1 sz ix m0 m1 m2 m3 s0 s1 s2 s3 st _ _ _ _ _ _ _ _ _ _ h158 n0 X157.old Fs Fx Ft Fu A159 Ax6 Ao6 A6r0 A6r1 A162 hl xl b0 z0 b1 z1 b2 z2 b3 z3 x0 x1 x2 x3) (argsL := [(.ref qb)]) (rest := []) (lenOf pd_5 rfl) rfl (by decide) (by decide) (Nat.le_of_ble_eq_true rfl) (by decide) (by decide) rfl rfl (pc' := 650) rfl at_647 ?_
  rintro T164 _ _ ⟨rfl, rfl⟩ X165
  show Go p e below _ (T164.setTop (mkF m 650 #[jv pk, sc, iv ff, iv sk, iv pk2, jv st, sc, rv sb, iv kk, iv m0, iv m1, iv m2, iv m3, rv mb, jv (s0.toInt64), sc, jv (s1.toInt64), sc, jv (s2.toInt64), sc, jv (s3.toInt64), sc, iv (1 : Int32), iv rr, rv qb, jv (((s0.toInt64) + (0 : Int64)) + (0 : Int64)), sc, rv ps, un, un, un, un, un, un, un, un, un, un, un, un] [(.long (st + ((0 : Int64) + ((1 : Int64) * ((((((0 : Int64) + (s3.toInt64 * (1 : Int64))) + (s2.toInt64 * (1 : Int64))) + (s1.toInt64 * (1 : Int64))) + (s0.toInt64 * (1 : Int64))) - ((((0 : Int64) + (s3.toInt64 * (1 : Int64))) + (s2.toInt64 * (1 : Int64))) + (s1.toInt64 * (1 : Int64))))))))]))
  refine go_lload C X165 652 rfl at_650 rfl ?_
  refine go_lload C X165 654 rfl at_652 rfl ?_
  refine go_ladd C X165 655 rfl at_654 ?_
  refine go_lif_ne C X165 (pc1 := 656) rfl at_655 at_656 (pc' := 659) (pc2 := 663) rfl (by decide) (by decide) (fun c656 => False.elim (c656 (own_id_1_1 s0 s1 s2 s3 st))) (fun _ => ?_)
  refine go_iconst C X165 660 rfl at_659 (z := 1) rfl ?_
  refine go_goto C X165 at_660 (pc' := 664) (by decide) (by decide) ?_
  exact go_retN C X165 (by simp) (z' := 1) rfl at_664 rfl (by decide) (by decide)
set_option maxRecDepth 65536 in
set_option maxHeartbeats 40000000 in
theorem own_arm_1_2 {p : Program} {l : Launch} {e : Env} {s : State} {m : MethodId} {below : List Frame} {meth : Method} {c : Code} {Z : State} {a0 : Array Value} {n0 : Nat} {pk : Int64} {ff : Int32} {sk : Int32} {pk2 : Int32} {st : Int64} {sb : Addr} {mb : Addr} {sz : List Int32} {kk : Int32} {rr : Int32} {m0 : Int32} {s0 : Int32} {m1 : Int32} {s1 : Int32} {m2 : Int32} {s2 : Int32} {m3 : Int32} {s3 : Int32} (C : Cx p s m meth c Z a0 x.cls code maxLocals ret x.name) {T72 : State} {h74 : Heap} (X73 : St Z p l e room_1 s m #[(.long pk), (.int ff), (.int sk), (.int pk2), (.long st)] below meth c n0 T72 h74 (0 + 1 + 1) (0 + 5 + 4)) (A77 : La Z h74 sb .int (ia sz)) (A76 : La Z h74 mb .int ([(.int m0), (.int m1), (.int m2), (.int m3)])) (E78 : Exa Z h74 mb "[I") (ne_sb_mb : sb ≠ mb) (ga_sb : n0 ≤ sb) (ga_mb : n0 ≤ mb) (hl : sz.length = 5) (b0 : 0 ≤ m0.toInt ∧ m0.toInt < (5 : Nat)) (b1 : 0 ≤ m1.toInt ∧ m1.toInt < (5 : Nat)) (b2 : 0 ≤ m2.toInt ∧ m2.toInt < (5 : Nat)) (b3 : 0 ≤ m3.toInt ∧ m3.toInt < (5 : Nat)) (z0 : at32 sz m0 = s0) (z1 : at32 sz m1 = s1) (z2 : at32 sz m2 = s2) (z3 : at32 sz m3 = s3) (d01 : ¬ m0.toInt = m1.toInt) (d02 : ¬ m0.toInt = m2.toInt) (d03 : ¬ m0.toInt = m3.toInt) (d12 : ¬ m1.toInt = m2.toInt) (d13 : ¬ m1.toInt = m3.toInt) (d23 : ¬ m2.toInt = m3.toInt) : Go p e below (FinQ s room_1.cells room_1.slots n0 (fun v h' => v = some (.int 1))) (T72.setTop (mkF m 197 #[jv pk, sc, iv ff, iv sk, iv pk2, jv st, sc, rv sb, iv kk, iv m0, iv m1, iv m2, iv m3, rv mb, jv (s0.toInt64), sc, jv (s1.toInt64), sc, jv (s2.toInt64), sc, jv (s3.toInt64), sc, iv (1 : Int32), iv rr, un, un, un, iv (2 : Int32), un, un, un, un, un, un, un, un, un, un, un, un] [])) := by
  refine go_iconst C X73 198 rfl at_197 (z := 1) rfl ?_
  refine go_newarr C X73 (C.w 0 rfl) (cap := 1) (by decide) (by decide) (by decide) (by decide) (by decide) (pc' := 200) rfl at_198 (fun T167 h169 qb ha_qb ga_qb E170 A171  X168 => ?_)
  have ne_sb_qb : sb ≠ qb := Nat.ne_of_lt (Nat.lt_of_lt_of_le A77.lt (Nat.le_of_eq ha_qb.symm))
  have ne_mb_qb : mb ≠ qb := Nat.ne_of_lt (Nat.lt_of_lt_of_le A76.lt (Nat.le_of_eq ha_qb.symm))
  have A172 := A77.ext E170
  have A173 := A76.ext E170
  have E174 := E78.ext E170
  replace A171 : La Z h169 qb .int ([(.int (0 : Int32))]) := A171
  refine go_dup C X168 201 rfl at_200 rfl ?_
  refine go_iconst C X168 202 rfl at_201 (z := 0) rfl ?_
  refine go_aload C X168 204 rfl at_202 rfl rfl ?_
  refine go_iload C X168 206 rfl at_204 rfl ?_
  refine go_iaload C X168 A173 (by decide) (v := (.int m2)) rfl (pc' := 207) rfl at_206 ?_
  refine go_iastore C X168 A171 (by decide) (by show _ < (1 : Int); decide) ga_qb (pc' := 208) rfl at_207 (fun T175 h177 W178 A179 X176 => ?_)
  have A180 := A172.other W178 ne_sb_qb
  have A181 := A173.other W178 ne_mb_qb
  have E182 := E174.wr W178
  replace A179 : La Z h177 qb .int ([(.int m2)]) := A179
  refine go_astore C X176 210 rfl at_208 rfl #[jv pk, sc, iv ff, iv sk, iv pk2, jv st, sc, rv sb, iv kk, iv m0, iv m1, iv m2, iv m3, rv mb, jv (s0.toInt64), sc, jv (s1.toInt64), sc, jv (s2.toInt64), sc, jv (s3.toInt64), sc, iv (1 : Int32), iv rr, rv qb, un, un, iv (2 : Int32), un, un, un, un, un, un, un, un, un, un, un, un] rfl ?_
  refine go_iload C X176 212 rfl at_210 rfl ?_
  refine go_if_le C X176 at_212 (pc' := 215) (pc2 := 220) rfl (by decide) (by decide) (fun (c212 : 2 ≤ 0) => False.elim (by first | omega | exact absurd c212 (by decide))) (fun (c212 : 0 < 2) => ?_)
  refine go_lload C X176 217 rfl at_215 rfl ?_
  refine go_goto C X176 at_217 (pc' := 221) (by decide) (by decide) ?_
  refine go_iload C X176 223 rfl at_221 rfl ?_
  refine go_iconst C X176 224 rfl at_223 (z := 1) rfl ?_
  refine go_icmp_le C X176 at_224 (pc' := 227) (pc2 := 232) rfl (by decide) (by decide) (fun (c224 : 2 ≤ 1) => False.elim (by first | omega | exact absurd c224 (by decide))) (fun (c224 : 1 < 2) => ?_)
  refine go_lload C X176 229 rfl at_227 rfl ?_
  refine go_goto C X176 at_229 (pc' := 233) (by decide) (by decide) ?_
  refine go_ladd C X176 234 rfl at_233 ?_
  refine go_iload C X176 236 rfl at_234 rfl ?_
  refine go_iconst C X176 237 rfl at_236 (z := 2) rfl ?_
  refine go_icmp_le C X176 at_237 (pc' := 240) (pc2 := 245) rfl (by decide) (by decide) (fun (c237 : 2 ≤ 2) => ?_) (fun (c237 : 2 < 2) => False.elim (by first | omega | exact absurd c237 (by decide)))
  refine go_lconst C X176 246 rfl at_245 (z := 0) rfl ?_
  refine go_ladd C X176 247 rfl at_246 ?_
  refine go_lstore C X176 249 rfl at_247 #[jv pk, sc, iv ff, iv sk, iv pk2, jv st, sc, rv sb, iv kk, iv m0, iv m1, iv m2, iv m3, rv mb, jv (s0.toInt64), sc, jv (s1.toInt64), sc, jv (s2.toInt64), sc, jv (s3.toInt64), sc, iv (1 : Int32), iv rr, rv qb, jv (((s0.toInt64) + (s1.toInt64)) + (0 : Int64)), sc, iv (2 : Int32), un, un, un, un, un, un, un, un, un, un, un, un] rfl ?_
  refine go_goto C X176 at_249 (pc' := 626) (by decide) (by decide) ?_
  refine go_new C X176 (C.w 7 rfl) (C.w 8 rfl) (C.w 9 rfl) (by decide) (by decide) (pc' := 629) rfl at_626 (fun T183 h185 ps ha_ps ga_ps E186 E187 D188 X184 => ?_)
  have ne_sb_ps : sb ≠ ps := Nat.ne_of_lt (Nat.lt_of_lt_of_le A180.lt (Nat.le_of_eq ha_ps.symm))
  have ne_mb_ps : mb ≠ ps := Nat.ne_of_lt (Nat.lt_of_lt_of_le A181.lt (Nat.le_of_eq ha_ps.symm))
  have ne_qb_ps : qb ≠ ps := Nat.ne_of_lt (Nat.lt_of_lt_of_le A179.lt (Nat.le_of_eq ha_ps.symm))
  have A189 := A180.ext E186
  have A190 := A181.ext E186
  have E191 := E182.ext E186
  have A192 := A179.ext E186
  have F193 : Fld Z h185 ps "com/example/covertide/covertide/engine/ParameterSets" "sizes" "[I" .null := D188 (Or.inr (C.w 17 rfl)) (ty := (.array .int)) (by decide)
  have F194 : Fld Z h185 ps "com/example/covertide/covertide/engine/ParameterSets" "members" "[I" .null := D188 (Or.inr (C.w 28 rfl)) (ty := (.array .int)) (by decide)
  have F195 : Fld Z h185 ps "com/example/covertide/covertide/engine/ParameterSets" "indexOf" "[I" .null := D188 (Or.inr (C.w 30 rfl)) (ty := (.array .int)) (by decide)
  have F196 : Fld Z h185 ps "com/example/covertide/covertide/engine/ParameterSets" "size" "I" (.int (0 : Int32)) := D188 (Or.inr (C.w 36 rfl)) (ty := .int) (by decide)
  have F197 : Fld Z h185 ps "com/example/covertide/covertide/engine/ParameterSets" "start" "J" (.long (0 : Int64)) := D188 (Or.inr (C.w 38 rfl)) (ty := .long) (by decide)
  have F198 : Fld Z h185 ps "com/example/covertide/covertide/engine/ParameterSets" "suffixSums" "[[J" .null := D188 (Or.inr (C.w 50 rfl)) (ty := (.array (.array .long))) (by decide)
  have F199 : Fld Z h185 ps "com/example/covertide/covertide/engine/ParameterSets" "combinations" "J" (.long (0 : Int64)) := D188 (Or.inr (C.w 52 rfl)) (ty := .long) (by decide)
  refine go_dup C X184 630 rfl at_629 rfl ?_
  refine go_aload C X184 632 rfl at_630 rfl rfl ?_
  refine go_aload C X184 634 rfl at_632 rfl rfl ?_
  refine go_iload C X184 636 rfl at_634 rfl ?_
  refine go_lload C X184 638 rfl at_636 rfl ?_
  have hsz_638 := X184.sz
  have lt_sb_638 := A189.lt
  have lt_mb_638 := A190.lt
  have lt_qb_638 := A192.lt
  have lt_ps_638 := E187.lt
  refine go_special C X184 (C.w 10 rfl) (C.w 11 rfl) (C.w 9 rfl) (C.w 12 rfl) rfl (own_init_1 l Z a0 C.ws ps sb mb st sz m0 m1 m2 m3 s0 s1 s2 s3 h185 n0 X184.old E187 F193 F194 F195 F196 F197 F198 F199 A189 A190 E191 ga_ps (Ne.symm ne_sb_ps) (Ne.symm ne_mb_ps) hl b0 z0 b1 z1 b2 z2 b3 z3) (argsL := [(.ref sb), (.ref mb), (.int (1 : Int32)), (.long st)]) (rest := [(.ref ps)]) (lenOf pd_4 rfl) rfl (by decide) (by decide) (Nat.le_of_ble_eq_true rfl) (by decide) (by decide) rfl rfl (pc' := 641) rfl at_638 ?_
  rintro T200 h202 _ ⟨rfl, xb, ob, r0, r1, K6, E6, Fs, Fx, Ft, Fu, sx6, so6, sz6r0, sz6r1, Ax6, Ao6, A6r0, A6r1⟩ X201
  show Go p e below _ (T200.setTop (mkF m 641 #[jv pk, sc, iv ff, iv sk, iv pk2, jv st, sc, rv sb, iv kk, iv m0, iv m1, iv m2, iv m3, rv mb, jv (s0.toInt64), sc, jv (s1.toInt64), sc, jv (s2.toInt64), sc, jv (s3.toInt64), sc, iv (1 : Int32), iv rr, rv qb, jv (((s0.toInt64) + (s1.toInt64)) + (0 : Int64)), sc, iv (2 : Int32), un, un, un, un, un, un, un, un, un, un, un, un] [(.ref ps)]))
  have ne_sb_xb : sb ≠ xb := Nat.ne_of_lt (Nat.lt_of_lt_of_le lt_sb_638 sx6)
  have ne_mb_xb : mb ≠ xb := Nat.ne_of_lt (Nat.lt_of_lt_of_le lt_mb_638 sx6)
  have ne_qb_xb : qb ≠ xb := Nat.ne_of_lt (Nat.lt_of_lt_of_le lt_qb_638 sx6)
  have ne_ps_xb : ps ≠ xb := Nat.ne_of_lt (Nat.lt_of_lt_of_le lt_ps_638 sx6)
  have ga_xb : n0 ≤ xb := Nat.le_trans hsz_638 sx6
  have ne_sb_ob : sb ≠ ob := Nat.ne_of_lt (Nat.lt_of_lt_of_le lt_sb_638 so6)
  have ne_mb_ob : mb ≠ ob := Nat.ne_of_lt (Nat.lt_of_lt_of_le lt_mb_638 so6)
  have ne_qb_ob : qb ≠ ob := Nat.ne_of_lt (Nat.lt_of_lt_of_le lt_qb_638 so6)
  have ne_ps_ob : ps ≠ ob := Nat.ne_of_lt (Nat.lt_of_lt_of_le lt_ps_638 so6)
  have ga_ob : n0 ≤ ob := Nat.le_trans hsz_638 so6
  have ne_sb_r0 : sb ≠ r0 := Nat.ne_of_lt (Nat.lt_of_lt_of_le lt_sb_638 sz6r0)
  have ne_mb_r0 : mb ≠ r0 := Nat.ne_of_lt (Nat.lt_of_lt_of_le lt_mb_638 sz6r0)
  have ne_qb_r0 : qb ≠ r0 := Nat.ne_of_lt (Nat.lt_of_lt_of_le lt_qb_638 sz6r0)
  have ne_ps_r0 : ps ≠ r0 := Nat.ne_of_lt (Nat.lt_of_lt_of_le lt_ps_638 sz6r0)
  have ga_r0 : n0 ≤ r0 := Nat.le_trans hsz_638 sz6r0
  have ne_sb_r1 : sb ≠ r1 := Nat.ne_of_lt (Nat.lt_of_lt_of_le lt_sb_638 sz6r1)
  have ne_mb_r1 : mb ≠ r1 := Nat.ne_of_lt (Nat.lt_of_lt_of_le lt_mb_638 sz6r1)
  have ne_qb_r1 : qb ≠ r1 := Nat.ne_of_lt (Nat.lt_of_lt_of_le lt_qb_638 sz6r1)
  have ne_ps_r1 : ps ≠ r1 := Nat.ne_of_lt (Nat.lt_of_lt_of_le lt_ps_638 sz6r1)
  have ga_r1 : n0 ≤ r1 := Nat.le_trans hsz_638 sz6r1
  have A203 := A189.keep K6 (ninS ne_sb_ps nin0)
  have A204 := A190.keep K6 (ninS ne_mb_ps nin0)
  have E205 := E191.keep K6
  have A206 := A192.keep K6 (ninS ne_qb_ps nin0)
  have E207 := E187.keep K6
  have xl : ((put32 (put32 (put32 (put32 [-1, -1, -1, -1, -1] m0 0) m1 1) m2 2) m3 3)).length = 5 := by simp [put32_len]
  have x0 : at32 (put32 (put32 (put32 (put32 [-1, -1, -1, -1, -1] m0 0) m1 1) m2 2) m3 3) m0 = 0 := by rw [own_put_miss b3.1 b0.1 (fun q => d03 q.symm)]; rw [own_put_miss b2.1 b0.1 (fun q => d02 q.symm)]; rw [own_put_miss b1.1 b0.1 (fun q => d01 q.symm)]; exact own_put_hit b0.1 (by simpa [put32_len] using b0.2)
  have x1 : at32 (put32 (put32 (put32 (put32 [-1, -1, -1, -1, -1] m0 0) m1 1) m2 2) m3 3) m1 = 1 := by rw [own_put_miss b3.1 b1.1 (fun q => d13 q.symm)]; rw [own_put_miss b2.1 b1.1 (fun q => d12 q.symm)]; exact own_put_hit b1.1 (by simpa [put32_len] using b1.2)
  have x2 : at32 (put32 (put32 (put32 (put32 [-1, -1, -1, -1, -1] m0 0) m1 1) m2 2) m3 3) m2 = 2 := by rw [own_put_miss b3.1 b2.1 (fun q => d23 q.symm)]; exact own_put_hit b2.1 (by simpa [put32_len] using b2.2)
  have x3 : at32 (put32 (put32 (put32 (put32 [-1, -1, -1, -1, -1] m0 0) m1 1) m2 2) m3 3) m3 = 3 := by exact own_put_hit b3.1 (by simpa [put32_len] using b3.2)
  generalize (put32 (put32 (put32 (put32 [-1, -1, -1, -1, -1] m0 0) m1 1) m2 2) m3 3) = ix at *
  refine go_astore C X201 643 rfl at_641 rfl #[jv pk, sc, iv ff, iv sk, iv pk2, jv st, sc, rv sb, iv kk, iv m0, iv m1, iv m2, iv m3, rv mb, jv (s0.toInt64), sc, jv (s1.toInt64), sc, jv (s2.toInt64), sc, jv (s3.toInt64), sc, iv (1 : Int32), iv rr, rv qb, jv (((s0.toInt64) + (s1.toInt64)) + (0 : Int64)), sc, rv ps, un, un, un, un, un, un, un, un, un, un, un, un] rfl ?_
  refine go_aload C X201 645 rfl at_643 rfl rfl ?_
  refine go_aload C X201 647 rfl at_645 rfl rfl ?_
  refine go_virtual C X201 E6 (C.w 53 rfl) (C.w 54 rfl) (notFace_of_selects (args := #[]) (mvT C.hZ (C.w 56 rfl))) (C.w 56 rfl) (C.w 55 rfl) (C.w 9 rfl) (C.w 57 rfl) (own_bit_1_2 l Z a0 C.ws ps qb sb xb ob r0 r1 sz ix m0 m1 m2 m3 s0 s1 s2 s3 st _ _ _ _ _ _ _ _ _ _ h202 n0 X201.old Fs Fx Ft Fu A203 Ax6 Ao6 A6r0 A6r1 A206 hl xl b0 z0 b1 z1 b2 z2 b3 z3 x0 x1 x2 x3) (argsL := [(.ref qb)]) (rest := []) (lenOf pd_5 rfl) rfl (by decide) (by decide) (Nat.le_of_ble_eq_true rfl) (by decide) (by decide) rfl rfl (pc' := 650) rfl at_647 ?_
  rintro T208 _ _ ⟨rfl, rfl⟩ X209
  show Go p e below _ (T208.setTop (mkF m 650 #[jv pk, sc, iv ff, iv sk, iv pk2, jv st, sc, rv sb, iv kk, iv m0, iv m1, iv m2, iv m3, rv mb, jv (s0.toInt64), sc, jv (s1.toInt64), sc, jv (s2.toInt64), sc, jv (s3.toInt64), sc, iv (1 : Int32), iv rr, rv qb, jv (((s0.toInt64) + (s1.toInt64)) + (0 : Int64)), sc, rv ps, un, un, un, un, un, un, un, un, un, un, un, un] [(.long (st + ((0 : Int64) + ((1 : Int64) * ((((((0 : Int64) + (s3.toInt64 * (1 : Int64))) + (s2.toInt64 * (1 : Int64))) + (s1.toInt64 * (1 : Int64))) + (s0.toInt64 * (1 : Int64))) - (((0 : Int64) + (s3.toInt64 * (1 : Int64))) + (s2.toInt64 * (1 : Int64))))))))]))
  refine go_lload C X209 652 rfl at_650 rfl ?_
  refine go_lload C X209 654 rfl at_652 rfl ?_
  refine go_ladd C X209 655 rfl at_654 ?_
  refine go_lif_ne C X209 (pc1 := 656) rfl at_655 at_656 (pc' := 659) (pc2 := 663) rfl (by decide) (by decide) (fun c656 => False.elim (c656 (own_id_1_2 s0 s1 s2 s3 st))) (fun _ => ?_)
  refine go_iconst C X209 660 rfl at_659 (z := 1) rfl ?_
  refine go_goto C X209 at_660 (pc' := 664) (by decide) (by decide) ?_
  exact go_retN C X209 (by simp) (z' := 1) rfl at_664 rfl (by decide) (by decide)
set_option maxRecDepth 65536 in
set_option maxHeartbeats 40000000 in
theorem own_arm_1_3 {p : Program} {l : Launch} {e : Env} {s : State} {m : MethodId} {below : List Frame} {meth : Method} {c : Code} {Z : State} {a0 : Array Value} {n0 : Nat} {pk : Int64} {ff : Int32} {sk : Int32} {pk2 : Int32} {st : Int64} {sb : Addr} {mb : Addr} {sz : List Int32} {kk : Int32} {rr : Int32} {m0 : Int32} {s0 : Int32} {m1 : Int32} {s1 : Int32} {m2 : Int32} {s2 : Int32} {m3 : Int32} {s3 : Int32} (C : Cx p s m meth c Z a0 x.cls code maxLocals ret x.name) {T72 : State} {h74 : Heap} (X73 : St Z p l e room_1 s m #[(.long pk), (.int ff), (.int sk), (.int pk2), (.long st)] below meth c n0 T72 h74 (0 + 1 + 1) (0 + 5 + 4)) (A77 : La Z h74 sb .int (ia sz)) (A76 : La Z h74 mb .int ([(.int m0), (.int m1), (.int m2), (.int m3)])) (E78 : Exa Z h74 mb "[I") (ne_sb_mb : sb ≠ mb) (ga_sb : n0 ≤ sb) (ga_mb : n0 ≤ mb) (hl : sz.length = 5) (b0 : 0 ≤ m0.toInt ∧ m0.toInt < (5 : Nat)) (b1 : 0 ≤ m1.toInt ∧ m1.toInt < (5 : Nat)) (b2 : 0 ≤ m2.toInt ∧ m2.toInt < (5 : Nat)) (b3 : 0 ≤ m3.toInt ∧ m3.toInt < (5 : Nat)) (z0 : at32 sz m0 = s0) (z1 : at32 sz m1 = s1) (z2 : at32 sz m2 = s2) (z3 : at32 sz m3 = s3) (d01 : ¬ m0.toInt = m1.toInt) (d02 : ¬ m0.toInt = m2.toInt) (d03 : ¬ m0.toInt = m3.toInt) (d12 : ¬ m1.toInt = m2.toInt) (d13 : ¬ m1.toInt = m3.toInt) (d23 : ¬ m2.toInt = m3.toInt) : Go p e below (FinQ s room_1.cells room_1.slots n0 (fun v h' => v = some (.int 1))) (T72.setTop (mkF m 197 #[jv pk, sc, iv ff, iv sk, iv pk2, jv st, sc, rv sb, iv kk, iv m0, iv m1, iv m2, iv m3, rv mb, jv (s0.toInt64), sc, jv (s1.toInt64), sc, jv (s2.toInt64), sc, jv (s3.toInt64), sc, iv (1 : Int32), iv rr, un, un, un, iv (3 : Int32), un, un, un, un, un, un, un, un, un, un, un, un] [])) := by
  refine go_iconst C X73 198 rfl at_197 (z := 1) rfl ?_
  refine go_newarr C X73 (C.w 0 rfl) (cap := 1) (by decide) (by decide) (by decide) (by decide) (by decide) (pc' := 200) rfl at_198 (fun T211 h213 qb ha_qb ga_qb E214 A215  X212 => ?_)
  have ne_sb_qb : sb ≠ qb := Nat.ne_of_lt (Nat.lt_of_lt_of_le A77.lt (Nat.le_of_eq ha_qb.symm))
  have ne_mb_qb : mb ≠ qb := Nat.ne_of_lt (Nat.lt_of_lt_of_le A76.lt (Nat.le_of_eq ha_qb.symm))
  have A216 := A77.ext E214
  have A217 := A76.ext E214
  have E218 := E78.ext E214
  replace A215 : La Z h213 qb .int ([(.int (0 : Int32))]) := A215
  refine go_dup C X212 201 rfl at_200 rfl ?_
  refine go_iconst C X212 202 rfl at_201 (z := 0) rfl ?_
  refine go_aload C X212 204 rfl at_202 rfl rfl ?_
  refine go_iload C X212 206 rfl at_204 rfl ?_
  refine go_iaload C X212 A217 (by decide) (v := (.int m3)) rfl (pc' := 207) rfl at_206 ?_
  refine go_iastore C X212 A215 (by decide) (by show _ < (1 : Int); decide) ga_qb (pc' := 208) rfl at_207 (fun T219 h221 W222 A223 X220 => ?_)
  have A224 := A216.other W222 ne_sb_qb
  have A225 := A217.other W222 ne_mb_qb
  have E226 := E218.wr W222
  replace A223 : La Z h221 qb .int ([(.int m3)]) := A223
  refine go_astore C X220 210 rfl at_208 rfl #[jv pk, sc, iv ff, iv sk, iv pk2, jv st, sc, rv sb, iv kk, iv m0, iv m1, iv m2, iv m3, rv mb, jv (s0.toInt64), sc, jv (s1.toInt64), sc, jv (s2.toInt64), sc, jv (s3.toInt64), sc, iv (1 : Int32), iv rr, rv qb, un, un, iv (3 : Int32), un, un, un, un, un, un, un, un, un, un, un, un] rfl ?_
  refine go_iload C X220 212 rfl at_210 rfl ?_
  refine go_if_le C X220 at_212 (pc' := 215) (pc2 := 220) rfl (by decide) (by decide) (fun (c212 : 3 ≤ 0) => False.elim (by first | omega | exact absurd c212 (by decide))) (fun (c212 : 0 < 3) => ?_)
  refine go_lload C X220 217 rfl at_215 rfl ?_
  refine go_goto C X220 at_217 (pc' := 221) (by decide) (by decide) ?_
  refine go_iload C X220 223 rfl at_221 rfl ?_
  refine go_iconst C X220 224 rfl at_223 (z := 1) rfl ?_
  refine go_icmp_le C X220 at_224 (pc' := 227) (pc2 := 232) rfl (by decide) (by decide) (fun (c224 : 3 ≤ 1) => False.elim (by first | omega | exact absurd c224 (by decide))) (fun (c224 : 1 < 3) => ?_)
  refine go_lload C X220 229 rfl at_227 rfl ?_
  refine go_goto C X220 at_229 (pc' := 233) (by decide) (by decide) ?_
  refine go_ladd C X220 234 rfl at_233 ?_
  refine go_iload C X220 236 rfl at_234 rfl ?_
  refine go_iconst C X220 237 rfl at_236 (z := 2) rfl ?_
  refine go_icmp_le C X220 at_237 (pc' := 240) (pc2 := 245) rfl (by decide) (by decide) (fun (c237 : 3 ≤ 2) => False.elim (by first | omega | exact absurd c237 (by decide))) (fun (c237 : 2 < 3) => ?_)
  refine go_lload C X220 242 rfl at_240 rfl ?_
  refine go_goto C X220 at_242 (pc' := 246) (by decide) (by decide) ?_
  refine go_ladd C X220 247 rfl at_246 ?_
  refine go_lstore C X220 249 rfl at_247 #[jv pk, sc, iv ff, iv sk, iv pk2, jv st, sc, rv sb, iv kk, iv m0, iv m1, iv m2, iv m3, rv mb, jv (s0.toInt64), sc, jv (s1.toInt64), sc, jv (s2.toInt64), sc, jv (s3.toInt64), sc, iv (1 : Int32), iv rr, rv qb, jv (((s0.toInt64) + (s1.toInt64)) + (s2.toInt64)), sc, iv (3 : Int32), un, un, un, un, un, un, un, un, un, un, un, un] rfl ?_
  refine go_goto C X220 at_249 (pc' := 626) (by decide) (by decide) ?_
  refine go_new C X220 (C.w 7 rfl) (C.w 8 rfl) (C.w 9 rfl) (by decide) (by decide) (pc' := 629) rfl at_626 (fun T227 h229 ps ha_ps ga_ps E230 E231 D232 X228 => ?_)
  have ne_sb_ps : sb ≠ ps := Nat.ne_of_lt (Nat.lt_of_lt_of_le A224.lt (Nat.le_of_eq ha_ps.symm))
  have ne_mb_ps : mb ≠ ps := Nat.ne_of_lt (Nat.lt_of_lt_of_le A225.lt (Nat.le_of_eq ha_ps.symm))
  have ne_qb_ps : qb ≠ ps := Nat.ne_of_lt (Nat.lt_of_lt_of_le A223.lt (Nat.le_of_eq ha_ps.symm))
  have A233 := A224.ext E230
  have A234 := A225.ext E230
  have E235 := E226.ext E230
  have A236 := A223.ext E230
  have F237 : Fld Z h229 ps "com/example/covertide/covertide/engine/ParameterSets" "sizes" "[I" .null := D232 (Or.inr (C.w 17 rfl)) (ty := (.array .int)) (by decide)
  have F238 : Fld Z h229 ps "com/example/covertide/covertide/engine/ParameterSets" "members" "[I" .null := D232 (Or.inr (C.w 28 rfl)) (ty := (.array .int)) (by decide)
  have F239 : Fld Z h229 ps "com/example/covertide/covertide/engine/ParameterSets" "indexOf" "[I" .null := D232 (Or.inr (C.w 30 rfl)) (ty := (.array .int)) (by decide)
  have F240 : Fld Z h229 ps "com/example/covertide/covertide/engine/ParameterSets" "size" "I" (.int (0 : Int32)) := D232 (Or.inr (C.w 36 rfl)) (ty := .int) (by decide)
  have F241 : Fld Z h229 ps "com/example/covertide/covertide/engine/ParameterSets" "start" "J" (.long (0 : Int64)) := D232 (Or.inr (C.w 38 rfl)) (ty := .long) (by decide)
  have F242 : Fld Z h229 ps "com/example/covertide/covertide/engine/ParameterSets" "suffixSums" "[[J" .null := D232 (Or.inr (C.w 50 rfl)) (ty := (.array (.array .long))) (by decide)
  have F243 : Fld Z h229 ps "com/example/covertide/covertide/engine/ParameterSets" "combinations" "J" (.long (0 : Int64)) := D232 (Or.inr (C.w 52 rfl)) (ty := .long) (by decide)
  refine go_dup C X228 630 rfl at_629 rfl ?_
  refine go_aload C X228 632 rfl at_630 rfl rfl ?_
  refine go_aload C X228 634 rfl at_632 rfl rfl ?_
  refine go_iload C X228 636 rfl at_634 rfl ?_
  refine go_lload C X228 638 rfl at_636 rfl ?_
  have hsz_638 := X228.sz
  have lt_sb_638 := A233.lt
  have lt_mb_638 := A234.lt
  have lt_qb_638 := A236.lt
  have lt_ps_638 := E231.lt
  refine go_special C X228 (C.w 10 rfl) (C.w 11 rfl) (C.w 9 rfl) (C.w 12 rfl) rfl (own_init_1 l Z a0 C.ws ps sb mb st sz m0 m1 m2 m3 s0 s1 s2 s3 h229 n0 X228.old E231 F237 F238 F239 F240 F241 F242 F243 A233 A234 E235 ga_ps (Ne.symm ne_sb_ps) (Ne.symm ne_mb_ps) hl b0 z0 b1 z1 b2 z2 b3 z3) (argsL := [(.ref sb), (.ref mb), (.int (1 : Int32)), (.long st)]) (rest := [(.ref ps)]) (lenOf pd_4 rfl) rfl (by decide) (by decide) (Nat.le_of_ble_eq_true rfl) (by decide) (by decide) rfl rfl (pc' := 641) rfl at_638 ?_
  rintro T244 h246 _ ⟨rfl, xb, ob, r0, r1, K6, E6, Fs, Fx, Ft, Fu, sx6, so6, sz6r0, sz6r1, Ax6, Ao6, A6r0, A6r1⟩ X245
  show Go p e below _ (T244.setTop (mkF m 641 #[jv pk, sc, iv ff, iv sk, iv pk2, jv st, sc, rv sb, iv kk, iv m0, iv m1, iv m2, iv m3, rv mb, jv (s0.toInt64), sc, jv (s1.toInt64), sc, jv (s2.toInt64), sc, jv (s3.toInt64), sc, iv (1 : Int32), iv rr, rv qb, jv (((s0.toInt64) + (s1.toInt64)) + (s2.toInt64)), sc, iv (3 : Int32), un, un, un, un, un, un, un, un, un, un, un, un] [(.ref ps)]))
  have ne_sb_xb : sb ≠ xb := Nat.ne_of_lt (Nat.lt_of_lt_of_le lt_sb_638 sx6)
  have ne_mb_xb : mb ≠ xb := Nat.ne_of_lt (Nat.lt_of_lt_of_le lt_mb_638 sx6)
  have ne_qb_xb : qb ≠ xb := Nat.ne_of_lt (Nat.lt_of_lt_of_le lt_qb_638 sx6)
  have ne_ps_xb : ps ≠ xb := Nat.ne_of_lt (Nat.lt_of_lt_of_le lt_ps_638 sx6)
  have ga_xb : n0 ≤ xb := Nat.le_trans hsz_638 sx6
  have ne_sb_ob : sb ≠ ob := Nat.ne_of_lt (Nat.lt_of_lt_of_le lt_sb_638 so6)
  have ne_mb_ob : mb ≠ ob := Nat.ne_of_lt (Nat.lt_of_lt_of_le lt_mb_638 so6)
  have ne_qb_ob : qb ≠ ob := Nat.ne_of_lt (Nat.lt_of_lt_of_le lt_qb_638 so6)
  have ne_ps_ob : ps ≠ ob := Nat.ne_of_lt (Nat.lt_of_lt_of_le lt_ps_638 so6)
  have ga_ob : n0 ≤ ob := Nat.le_trans hsz_638 so6
  have ne_sb_r0 : sb ≠ r0 := Nat.ne_of_lt (Nat.lt_of_lt_of_le lt_sb_638 sz6r0)
  have ne_mb_r0 : mb ≠ r0 := Nat.ne_of_lt (Nat.lt_of_lt_of_le lt_mb_638 sz6r0)
  have ne_qb_r0 : qb ≠ r0 := Nat.ne_of_lt (Nat.lt_of_lt_of_le lt_qb_638 sz6r0)
  have ne_ps_r0 : ps ≠ r0 := Nat.ne_of_lt (Nat.lt_of_lt_of_le lt_ps_638 sz6r0)
  have ga_r0 : n0 ≤ r0 := Nat.le_trans hsz_638 sz6r0
  have ne_sb_r1 : sb ≠ r1 := Nat.ne_of_lt (Nat.lt_of_lt_of_le lt_sb_638 sz6r1)
  have ne_mb_r1 : mb ≠ r1 := Nat.ne_of_lt (Nat.lt_of_lt_of_le lt_mb_638 sz6r1)
  have ne_qb_r1 : qb ≠ r1 := Nat.ne_of_lt (Nat.lt_of_lt_of_le lt_qb_638 sz6r1)
  have ne_ps_r1 : ps ≠ r1 := Nat.ne_of_lt (Nat.lt_of_lt_of_le lt_ps_638 sz6r1)
  have ga_r1 : n0 ≤ r1 := Nat.le_trans hsz_638 sz6r1
  have A247 := A233.keep K6 (ninS ne_sb_ps nin0)
  have A248 := A234.keep K6 (ninS ne_mb_ps nin0)
  have E249 := E235.keep K6
  have A250 := A236.keep K6 (ninS ne_qb_ps nin0)
  have E251 := E231.keep K6
  have xl : ((put32 (put32 (put32 (put32 [-1, -1, -1, -1, -1] m0 0) m1 1) m2 2) m3 3)).length = 5 := by simp [put32_len]
  have x0 : at32 (put32 (put32 (put32 (put32 [-1, -1, -1, -1, -1] m0 0) m1 1) m2 2) m3 3) m0 = 0 := by rw [own_put_miss b3.1 b0.1 (fun q => d03 q.symm)]; rw [own_put_miss b2.1 b0.1 (fun q => d02 q.symm)]; rw [own_put_miss b1.1 b0.1 (fun q => d01 q.symm)]; exact own_put_hit b0.1 (by simpa [put32_len] using b0.2)
  have x1 : at32 (put32 (put32 (put32 (put32 [-1, -1, -1, -1, -1] m0 0) m1 1) m2 2) m3 3) m1 = 1 := by rw [own_put_miss b3.1 b1.1 (fun q => d13 q.symm)]; rw [own_put_miss b2.1 b1.1 (fun q => d12 q.symm)]; exact own_put_hit b1.1 (by simpa [put32_len] using b1.2)
  have x2 : at32 (put32 (put32 (put32 (put32 [-1, -1, -1, -1, -1] m0 0) m1 1) m2 2) m3 3) m2 = 2 := by rw [own_put_miss b3.1 b2.1 (fun q => d23 q.symm)]; exact own_put_hit b2.1 (by simpa [put32_len] using b2.2)
  have x3 : at32 (put32 (put32 (put32 (put32 [-1, -1, -1, -1, -1] m0 0) m1 1) m2 2) m3 3) m3 = 3 := by exact own_put_hit b3.1 (by simpa [put32_len] using b3.2)
  generalize (put32 (put32 (put32 (put32 [-1, -1, -1, -1, -1] m0 0) m1 1) m2 2) m3 3) = ix at *
  refine go_astore C X245 643 rfl at_641 rfl #[jv pk, sc, iv ff, iv sk, iv pk2, jv st, sc, rv sb, iv kk, iv m0, iv m1, iv m2, iv m3, rv mb, jv (s0.toInt64), sc, jv (s1.toInt64), sc, jv (s2.toInt64), sc, jv (s3.toInt64), sc, iv (1 : Int32), iv rr, rv qb, jv (((s0.toInt64) + (s1.toInt64)) + (s2.toInt64)), sc, rv ps, un, un, un, un, un, un, un, un, un, un, un, un] rfl ?_
  refine go_aload C X245 645 rfl at_643 rfl rfl ?_
  refine go_aload C X245 647 rfl at_645 rfl rfl ?_
  refine go_virtual C X245 E6 (C.w 53 rfl) (C.w 54 rfl) (notFace_of_selects (args := #[]) (mvT C.hZ (C.w 56 rfl))) (C.w 56 rfl) (C.w 55 rfl) (C.w 9 rfl) (C.w 57 rfl) (own_bit_1_3 l Z a0 C.ws ps qb sb xb ob r0 r1 sz ix m0 m1 m2 m3 s0 s1 s2 s3 st _ _ _ _ _ _ _ _ _ _ h246 n0 X245.old Fs Fx Ft Fu A247 Ax6 Ao6 A6r0 A6r1 A250 hl xl b0 z0 b1 z1 b2 z2 b3 z3 x0 x1 x2 x3) (argsL := [(.ref qb)]) (rest := []) (lenOf pd_5 rfl) rfl (by decide) (by decide) (Nat.le_of_ble_eq_true rfl) (by decide) (by decide) rfl rfl (pc' := 650) rfl at_647 ?_
  rintro T252 _ _ ⟨rfl, rfl⟩ X253
  show Go p e below _ (T252.setTop (mkF m 650 #[jv pk, sc, iv ff, iv sk, iv pk2, jv st, sc, rv sb, iv kk, iv m0, iv m1, iv m2, iv m3, rv mb, jv (s0.toInt64), sc, jv (s1.toInt64), sc, jv (s2.toInt64), sc, jv (s3.toInt64), sc, iv (1 : Int32), iv rr, rv qb, jv (((s0.toInt64) + (s1.toInt64)) + (s2.toInt64)), sc, rv ps, un, un, un, un, un, un, un, un, un, un, un, un] [(.long (st + ((0 : Int64) + ((1 : Int64) * ((((((0 : Int64) + (s3.toInt64 * (1 : Int64))) + (s2.toInt64 * (1 : Int64))) + (s1.toInt64 * (1 : Int64))) + (s0.toInt64 * (1 : Int64))) - ((0 : Int64) + (s3.toInt64 * (1 : Int64))))))))]))
  refine go_lload C X253 652 rfl at_650 rfl ?_
  refine go_lload C X253 654 rfl at_652 rfl ?_
  refine go_ladd C X253 655 rfl at_654 ?_
  refine go_lif_ne C X253 (pc1 := 656) rfl at_655 at_656 (pc' := 659) (pc2 := 663) rfl (by decide) (by decide) (fun c656 => False.elim (c656 (own_id_1_3 s0 s1 s2 s3 st))) (fun _ => ?_)
  refine go_iconst C X253 660 rfl at_659 (z := 1) rfl ?_
  refine go_goto C X253 at_660 (pc' := 664) (by decide) (by decide) ?_
  exact go_retN C X253 (by simp) (z' := 1) rfl at_664 rfl (by decide) (by decide)
set_option maxRecDepth 65536 in
set_option maxHeartbeats 40000000 in
theorem own_arm_2_0 {p : Program} {l : Launch} {e : Env} {s : State} {m : MethodId} {below : List Frame} {meth : Method} {c : Code} {Z : State} {a0 : Array Value} {n0 : Nat} {pk : Int64} {ff : Int32} {sk : Int32} {pk2 : Int32} {st : Int64} {sb : Addr} {mb : Addr} {sz : List Int32} {kk : Int32} {rr : Int32} {m0 : Int32} {s0 : Int32} {m1 : Int32} {s1 : Int32} {m2 : Int32} {s2 : Int32} {m3 : Int32} {s3 : Int32} (C : Cx p s m meth c Z a0 x.cls code maxLocals ret x.name) {T72 : State} {h74 : Heap} (X73 : St Z p l e room_1 s m #[(.long pk), (.int ff), (.int sk), (.int pk2), (.long st)] below meth c n0 T72 h74 (0 + 1 + 1) (0 + 5 + 4)) (A77 : La Z h74 sb .int (ia sz)) (A76 : La Z h74 mb .int ([(.int m0), (.int m1), (.int m2), (.int m3)])) (E78 : Exa Z h74 mb "[I") (ne_sb_mb : sb ≠ mb) (ga_sb : n0 ≤ sb) (ga_mb : n0 ≤ mb) (hl : sz.length = 5) (b0 : 0 ≤ m0.toInt ∧ m0.toInt < (5 : Nat)) (b1 : 0 ≤ m1.toInt ∧ m1.toInt < (5 : Nat)) (b2 : 0 ≤ m2.toInt ∧ m2.toInt < (5 : Nat)) (b3 : 0 ≤ m3.toInt ∧ m3.toInt < (5 : Nat)) (z0 : at32 sz m0 = s0) (z1 : at32 sz m1 = s1) (z2 : at32 sz m2 = s2) (z3 : at32 sz m3 = s3) (d01 : ¬ m0.toInt = m1.toInt) (d02 : ¬ m0.toInt = m2.toInt) (d03 : ¬ m0.toInt = m3.toInt) (d12 : ¬ m1.toInt = m2.toInt) (d13 : ¬ m1.toInt = m3.toInt) (d23 : ¬ m2.toInt = m3.toInt) : Go p e below (FinQ s room_1.cells room_1.slots n0 (fun v h' => v = some (.int 1))) (T72.setTop (mkF m 265 #[jv pk, sc, iv ff, iv sk, iv pk2, jv st, sc, rv sb, iv kk, iv m0, iv m1, iv m2, iv m3, rv mb, jv (s0.toInt64), sc, jv (s1.toInt64), sc, jv (s2.toInt64), sc, jv (s3.toInt64), sc, iv (2 : Int32), iv rr, un, un, un, iv (0 : Int32), un, un, un, un, un, un, un, un, un, un, un, un] [])) := by
  refine go_iload C X73 267 rfl at_265 rfl ?_
  refine go_iconst C X73 268 rfl at_267 (z := 3) rfl ?_
  refine go_icmp_ge C X73 at_268 (pc' := 271) (pc2 := 275) rfl (by decide) (by decide) (fun (c268 : 3 ≤ 0) => False.elim (by first | omega | exact absurd c268 (by decide))) (fun (c268 : 0 < 3) => ?_)
  refine go_iconst C X73 272 rfl at_271 (z := 0) rfl ?_
  refine go_goto C X73 at_272 (pc' := 286) (by decide) (by decide) ?_
  refine go_istore C X73 288 rfl at_286 #[jv pk, sc, iv ff, iv sk, iv pk2, jv st, sc, rv sb, iv kk, iv m0, iv m1, iv m2, iv m3, rv mb, jv (s0.toInt64), sc, jv (s1.toInt64), sc, jv (s2.toInt64), sc, jv (s3.toInt64), sc, iv (2 : Int32), iv rr, un, un, un, iv (0 : Int32), iv (0 : Int32), un, un, un, un, un, un, un, un, un, un, un] rfl ?_
  refine go_iload C X73 290 rfl at_288 rfl ?_
  refine go_iconst C X73 291 rfl at_290 (z := 3) rfl ?_
  refine go_icmp_ge C X73 at_291 (pc' := 294) (pc2 := 301) rfl (by decide) (by decide) (fun (c291 : 3 ≤ 0) => False.elim (by first | omega | exact absurd c291 (by decide))) (fun (c291 : 0 < 3) => ?_)
  refine go_iload C X73 296 rfl at_294 rfl ?_
  refine go_iconst C X73 297 rfl at_296 (z := 1) rfl ?_
  refine go_iaddL C X73 298 rfl at_297 (z := (1)) rfl ?_
  refine go_goto C X73 at_298 (pc' := 315) (by decide) (by decide) ?_
  refine go_istore C X73 317 rfl at_315 #[jv pk, sc, iv ff, iv sk, iv pk2, jv st, sc, rv sb, iv kk, iv m0, iv m1, iv m2, iv m3, rv mb, jv (s0.toInt64), sc, jv (s1.toInt64), sc, jv (s2.toInt64), sc, jv (s3.toInt64), sc, iv (2 : Int32), iv rr, un, un, un, iv (0 : Int32), iv (0 : Int32), iv (1 : Int32), un, un, un, un, un, un, un, un, un, un] rfl ?_
  refine go_iconst C X73 318 rfl at_317 (z := 2) rfl ?_
  refine go_newarr C X73 (C.w 0 rfl) (cap := 2) (by decide) (by decide) (by decide) (by decide) (by decide) (pc' := 320) rfl at_318 (fun T255 h257 qb ha_qb ga_qb E258 A259  X256 => ?_)
  have ne_sb_qb : sb ≠ qb := Nat.ne_of_lt (Nat.lt_of_lt_of_le A77.lt (Nat.le_of_eq ha_qb.symm))
  have ne_mb_qb : mb ≠ qb := Nat.ne_of_lt (Nat.lt_of_lt_of_le A76.lt (Nat.le_of_eq ha_qb.symm))
  have A260 := A77.ext E258
  have A261 := A76.ext E258
  have E262 := E78.ext E258
  replace A259 : La Z h257 qb .int ([(.int (0 : Int32)), (.int (0 : Int32))]) := A259
  refine go_dup C X256 321 rfl at_320 rfl ?_
  refine go_iconst C X256 322 rfl at_321 (z := 0) rfl ?_
  refine go_aload C X256 324 rfl at_322 rfl rfl ?_
  refine go_iload C X256 326 rfl at_324 rfl ?_
  refine go_iaload C X256 A261 (by decide) (v := (.int m0)) rfl (pc' := 327) rfl at_326 ?_
  refine go_iastore C X256 A259 (by decide) (by show _ < (2 : Int); decide) ga_qb (pc' := 328) rfl at_327 (fun T263 h265 W266 A267 X264 => ?_)
  have A268 := A260.other W266 ne_sb_qb
  have A269 := A261.other W266 ne_mb_qb
  have E270 := E262.wr W266
  replace A267 : La Z h265 qb .int ([(.int m0), (.int (0 : Int32))]) := A267
  refine go_dup C X264 329 rfl at_328 rfl ?_
  refine go_iconst C X264 330 rfl at_329 (z := 1) rfl ?_
  refine go_aload C X264 332 rfl at_330 rfl rfl ?_
  refine go_iload C X264 334 rfl at_332 rfl ?_
  refine go_iaload C X264 A269 (by decide) (v := (.int m1)) rfl (pc' := 335) rfl at_334 ?_
  refine go_iastore C X264 A267 (by decide) (by show _ < (2 : Int); decide) ga_qb (pc' := 336) rfl at_335 (fun T271 h273 W274 A275 X272 => ?_)
  have A276 := A268.other W274 ne_sb_qb
  have A277 := A269.other W274 ne_mb_qb
  have E278 := E270.wr W274
  replace A275 : La Z h273 qb .int ([(.int m0), (.int m1)]) := A275
  refine go_astore C X272 338 rfl at_336 rfl #[jv pk, sc, iv ff, iv sk, iv pk2, jv st, sc, rv sb, iv kk, iv m0, iv m1, iv m2, iv m3, rv mb, jv (s0.toInt64), sc, jv (s1.toInt64), sc, jv (s2.toInt64), sc, jv (s3.toInt64), sc, iv (2 : Int32), iv rr, rv qb, un, un, iv (0 : Int32), iv (0 : Int32), iv (1 : Int32), un, un, un, un, un, un, un, un, un, un] rfl ?_
  refine go_lload C X272 340 rfl at_338 rfl ?_
  refine go_lload C X272 342 rfl at_340 rfl ?_
  refine go_lmul C X272 343 rfl at_342 ?_
  refine go_lstore C X272 345 rfl at_343 #[jv pk, sc, iv ff, iv sk, iv pk2, jv st, sc, rv sb, iv kk, iv m0, iv m1, iv m2, iv m3, rv mb, jv (s0.toInt64), sc, jv (s1.toInt64), sc, jv (s2.toInt64), sc, jv (s3.toInt64), sc, iv (2 : Int32), iv rr, rv qb, un, un, iv (0 : Int32), iv (0 : Int32), iv (1 : Int32), jv ((s0.toInt64) * (s1.toInt64)), sc, un, un, un, un, un, un, un, un] rfl ?_
  refine go_lload C X272 347 rfl at_345 rfl ?_
  refine go_lload C X272 349 rfl at_347 rfl ?_
  refine go_lmul C X272 350 rfl at_349 ?_
  refine go_lstore C X272 352 rfl at_350 #[jv pk, sc, iv ff, iv sk, iv pk2, jv st, sc, rv sb, iv kk, iv m0, iv m1, iv m2, iv m3, rv mb, jv (s0.toInt64), sc, jv (s1.toInt64), sc, jv (s2.toInt64), sc, jv (s3.toInt64), sc, iv (2 : Int32), iv rr, rv qb, un, un, iv (0 : Int32), iv (0 : Int32), iv (1 : Int32), jv ((s0.toInt64) * (s1.toInt64)), sc, jv ((s0.toInt64) * (s2.toInt64)), sc, un, un, un, un, un, un] rfl ?_
  refine go_lload C X272 354 rfl at_352 rfl ?_
  refine go_lload C X272 356 rfl at_354 rfl ?_
  refine go_lmul C X272 357 rfl at_356 ?_
  refine go_lstore C X272 359 rfl at_357 #[jv pk, sc, iv ff, iv sk, iv pk2, jv st, sc, rv sb, iv kk, iv m0, iv m1, iv m2, iv m3, rv mb, jv (s0.toInt64), sc, jv (s1.toInt64), sc, jv (s2.toInt64), sc, jv (s3.toInt64), sc, iv (2 : Int32), iv rr, rv qb, un, un, iv (0 : Int32), iv (0 : Int32), iv (1 : Int32), jv ((s0.toInt64) * (s1.toInt64)), sc, jv ((s0.toInt64) * (s2.toInt64)), sc, jv ((s0.toInt64) * (s3.toInt64)), sc, un, un, un, un] rfl ?_
  refine go_lload C X272 361 rfl at_359 rfl ?_
  refine go_lload C X272 363 rfl at_361 rfl ?_
  refine go_lmul C X272 364 rfl at_363 ?_
  refine go_lstore C X272 366 rfl at_364 #[jv pk, sc, iv ff, iv sk, iv pk2, jv st, sc, rv sb, iv kk, iv m0, iv m1, iv m2, iv m3, rv mb, jv (s0.toInt64), sc, jv (s1.toInt64), sc, jv (s2.toInt64), sc, jv (s3.toInt64), sc, iv (2 : Int32), iv rr, rv qb, un, un, iv (0 : Int32), iv (0 : Int32), iv (1 : Int32), jv ((s0.toInt64) * (s1.toInt64)), sc, jv ((s0.toInt64) * (s2.toInt64)), sc, jv ((s0.toInt64) * (s3.toInt64)), sc, jv ((s1.toInt64) * (s2.toInt64)), sc, un, un] rfl ?_
  refine go_lload C X272 368 rfl at_366 rfl ?_
  refine go_lload C X272 370 rfl at_368 rfl ?_
  refine go_lmul C X272 371 rfl at_370 ?_
  refine go_lstore C X272 373 rfl at_371 #[jv pk, sc, iv ff, iv sk, iv pk2, jv st, sc, rv sb, iv kk, iv m0, iv m1, iv m2, iv m3, rv mb, jv (s0.toInt64), sc, jv (s1.toInt64), sc, jv (s2.toInt64), sc, jv (s3.toInt64), sc, iv (2 : Int32), iv rr, rv qb, un, un, iv (0 : Int32), iv (0 : Int32), iv (1 : Int32), jv ((s0.toInt64) * (s1.toInt64)), sc, jv ((s0.toInt64) * (s2.toInt64)), sc, jv ((s0.toInt64) * (s3.toInt64)), sc, jv ((s1.toInt64) * (s2.toInt64)), sc, jv ((s1.toInt64) * (s3.toInt64)), sc] rfl ?_
  refine go_iload C X272 375 rfl at_373 rfl ?_
  refine go_if_le C X272 at_375 (pc' := 378) (pc2 := 383) rfl (by decide) (by decide) (fun (c375 : 0 ≤ 0) => ?_) (fun (c375 : 0 < 0) => False.elim (by first | omega | exact absurd c375 (by decide)))
  refine go_lconst C X272 384 rfl at_383 (z := 0) rfl ?_
  refine go_iload C X272 386 rfl at_384 rfl ?_
  refine go_iconst C X272 387 rfl at_386 (z := 1) rfl ?_
  refine go_icmp_le C X272 at_387 (pc' := 390) (pc2 := 395) rfl (by decide) (by decide) (fun (c387 : 0 ≤ 1) => ?_) (fun (c387 : 1 < 0) => False.elim (by first | omega | exact absurd c387 (by decide)))
  refine go_lconst C X272 396 rfl at_395 (z := 0) rfl ?_
  refine go_laddL C X272 397 rfl at_396 (z := (0)) rfl ?_
  refine go_iload C X272 399 rfl at_397 rfl ?_
  refine go_iconst C X272 400 rfl at_399 (z := 2) rfl ?_
  refine go_icmp_le C X272 at_400 (pc' := 403) (pc2 := 408) rfl (by decide) (by decide) (fun (c400 : 0 ≤ 2) => ?_) (fun (c400 : 2 < 0) => False.elim (by first | omega | exact absurd c400 (by decide)))
  refine go_lconst C X272 409 rfl at_408 (z := 0) rfl ?_
  refine go_laddL C X272 410 rfl at_409 (z := (0)) rfl ?_
  refine go_iload C X272 412 rfl at_410 rfl ?_
  refine go_iconst C X272 413 rfl at_412 (z := 3) rfl ?_
  refine go_icmp_le C X272 at_413 (pc' := 416) (pc2 := 421) rfl (by decide) (by decide) (fun (c413 : 0 ≤ 3) => ?_) (fun (c413 : 3 < 0) => False.elim (by first | omega | exact absurd c413 (by decide)))
  refine go_lconst C X272 422 rfl at_421 (z := 0) rfl ?_
  refine go_laddL C X272 423 rfl at_422 (z := (0)) rfl ?_
  refine go_iload C X272 425 rfl at_423 rfl ?_
  refine go_iconst C X272 426 rfl at_425 (z := 4) rfl ?_
  refine go_icmp_le C X272 at_426 (pc' := 429) (pc2 := 434) rfl (by decide) (by decide) (fun (c426 : 0 ≤ 4) => ?_) (fun (c426 : 4 < 0) => False.elim (by first | omega | exact absurd c426 (by decide)))
  refine go_lconst C X272 435 rfl at_434 (z := 0) rfl ?_
  refine go_laddL C X272 436 rfl at_435 (z := (0)) rfl ?_
  refine go_lstore C X272 438 rfl at_436 #[jv pk, sc, iv ff, iv sk, iv pk2, jv st, sc, rv sb, iv kk, iv m0, iv m1, iv m2, iv m3, rv mb, jv (s0.toInt64), sc, jv (s1.toInt64), sc, jv (s2.toInt64), sc, jv (s3.toInt64), sc, iv (2 : Int32), iv rr, rv qb, jv (0 : Int64), sc, iv (0 : Int32), iv (0 : Int32), iv (1 : Int32), jv ((s0.toInt64) * (s1.toInt64)), sc, jv ((s0.toInt64) * (s2.toInt64)), sc, jv ((s0.toInt64) * (s3.toInt64)), sc, jv ((s1.toInt64) * (s2.toInt64)), sc, jv ((s1.toInt64) * (s3.toInt64)), sc] rfl ?_
  refine go_goto C X272 at_438 (pc' := 626) (by decide) (by decide) ?_
  refine go_new C X272 (C.w 7 rfl) (C.w 8 rfl) (C.w 9 rfl) (by decide) (by decide) (pc' := 629) rfl at_626 (fun T279 h281 ps ha_ps ga_ps E282 E283 D284 X280 => ?_)
  have ne_sb_ps : sb ≠ ps := Nat.ne_of_lt (Nat.lt_of_lt_of_le A276.lt (Nat.le_of_eq ha_ps.symm))
  have ne_mb_ps : mb ≠ ps := Nat.ne_of_lt (Nat.lt_of_lt_of_le A277.lt (Nat.le_of_eq ha_ps.symm))
  have ne_qb_ps : qb ≠ ps := Nat.ne_of_lt (Nat.lt_of_lt_of_le A275.lt (Nat.le_of_eq ha_ps.symm))
  have A285 := A276.ext E282
  have A286 := A277.ext E282
  have E287 := E278.ext E282
  have A288 := A275.ext E282
  have F289 : Fld Z h281 ps "com/example/covertide/covertide/engine/ParameterSets" "sizes" "[I" .null := D284 (Or.inr (C.w 17 rfl)) (ty := (.array .int)) (by decide)
  have F290 : Fld Z h281 ps "com/example/covertide/covertide/engine/ParameterSets" "members" "[I" .null := D284 (Or.inr (C.w 28 rfl)) (ty := (.array .int)) (by decide)
  have F291 : Fld Z h281 ps "com/example/covertide/covertide/engine/ParameterSets" "indexOf" "[I" .null := D284 (Or.inr (C.w 30 rfl)) (ty := (.array .int)) (by decide)
  have F292 : Fld Z h281 ps "com/example/covertide/covertide/engine/ParameterSets" "size" "I" (.int (0 : Int32)) := D284 (Or.inr (C.w 36 rfl)) (ty := .int) (by decide)
  have F293 : Fld Z h281 ps "com/example/covertide/covertide/engine/ParameterSets" "start" "J" (.long (0 : Int64)) := D284 (Or.inr (C.w 38 rfl)) (ty := .long) (by decide)
  have F294 : Fld Z h281 ps "com/example/covertide/covertide/engine/ParameterSets" "suffixSums" "[[J" .null := D284 (Or.inr (C.w 50 rfl)) (ty := (.array (.array .long))) (by decide)
  have F295 : Fld Z h281 ps "com/example/covertide/covertide/engine/ParameterSets" "combinations" "J" (.long (0 : Int64)) := D284 (Or.inr (C.w 52 rfl)) (ty := .long) (by decide)
  refine go_dup C X280 630 rfl at_629 rfl ?_
  refine go_aload C X280 632 rfl at_630 rfl rfl ?_
  refine go_aload C X280 634 rfl at_632 rfl rfl ?_
  refine go_iload C X280 636 rfl at_634 rfl ?_
  refine go_lload C X280 638 rfl at_636 rfl ?_
  have hsz_638 := X280.sz
  have lt_sb_638 := A285.lt
  have lt_mb_638 := A286.lt
  have lt_qb_638 := A288.lt
  have lt_ps_638 := E283.lt
  refine go_special C X280 (C.w 10 rfl) (C.w 11 rfl) (C.w 9 rfl) (C.w 12 rfl) rfl (own_init_2 l Z a0 C.ws ps sb mb st sz m0 m1 m2 m3 s0 s1 s2 s3 h281 n0 X280.old E283 F289 F290 F291 F292 F293 F294 F295 A285 A286 E287 ga_ps (Ne.symm ne_sb_ps) (Ne.symm ne_mb_ps) hl b0 z0 b1 z1 b2 z2 b3 z3) (argsL := [(.ref sb), (.ref mb), (.int (2 : Int32)), (.long st)]) (rest := [(.ref ps)]) (lenOf pd_4 rfl) rfl (by decide) (by decide) (Nat.le_of_ble_eq_true rfl) (by decide) (by decide) rfl rfl (pc' := 641) rfl at_638 ?_
  rintro T296 h298 _ ⟨rfl, xb, ob, r0, r1, r2, K6, E6, Fs, Fx, Ft, Fu, sx6, so6, sz6r0, sz6r1, sz6r2, Ax6, Ao6, A6r0, A6r1, A6r2⟩ X297
  show Go p e below _ (T296.setTop (mkF m 641 #[jv pk, sc, iv ff, iv sk, iv pk2, jv st, sc, rv sb, iv kk, iv m0, iv m1, iv m2, iv m3, rv mb, jv (s0.toInt64), sc, jv (s1.toInt64), sc, jv (s2.toInt64), sc, jv (s3.toInt64), sc, iv (2 : Int32), iv rr, rv qb, jv (0 : Int64), sc, iv (0 : Int32), iv (0 : Int32), iv (1 : Int32), jv ((s0.toInt64) * (s1.toInt64)), sc, jv ((s0.toInt64) * (s2.toInt64)), sc, jv ((s0.toInt64) * (s3.toInt64)), sc, jv ((s1.toInt64) * (s2.toInt64)), sc, jv ((s1.toInt64) * (s3.toInt64)), sc] [(.ref ps)]))
  have ne_sb_xb : sb ≠ xb := Nat.ne_of_lt (Nat.lt_of_lt_of_le lt_sb_638 sx6)
  have ne_mb_xb : mb ≠ xb := Nat.ne_of_lt (Nat.lt_of_lt_of_le lt_mb_638 sx6)
  have ne_qb_xb : qb ≠ xb := Nat.ne_of_lt (Nat.lt_of_lt_of_le lt_qb_638 sx6)
  have ne_ps_xb : ps ≠ xb := Nat.ne_of_lt (Nat.lt_of_lt_of_le lt_ps_638 sx6)
  have ga_xb : n0 ≤ xb := Nat.le_trans hsz_638 sx6
  have ne_sb_ob : sb ≠ ob := Nat.ne_of_lt (Nat.lt_of_lt_of_le lt_sb_638 so6)
  have ne_mb_ob : mb ≠ ob := Nat.ne_of_lt (Nat.lt_of_lt_of_le lt_mb_638 so6)
  have ne_qb_ob : qb ≠ ob := Nat.ne_of_lt (Nat.lt_of_lt_of_le lt_qb_638 so6)
  have ne_ps_ob : ps ≠ ob := Nat.ne_of_lt (Nat.lt_of_lt_of_le lt_ps_638 so6)
  have ga_ob : n0 ≤ ob := Nat.le_trans hsz_638 so6
  have ne_sb_r0 : sb ≠ r0 := Nat.ne_of_lt (Nat.lt_of_lt_of_le lt_sb_638 sz6r0)
  have ne_mb_r0 : mb ≠ r0 := Nat.ne_of_lt (Nat.lt_of_lt_of_le lt_mb_638 sz6r0)
  have ne_qb_r0 : qb ≠ r0 := Nat.ne_of_lt (Nat.lt_of_lt_of_le lt_qb_638 sz6r0)
  have ne_ps_r0 : ps ≠ r0 := Nat.ne_of_lt (Nat.lt_of_lt_of_le lt_ps_638 sz6r0)
  have ga_r0 : n0 ≤ r0 := Nat.le_trans hsz_638 sz6r0
  have ne_sb_r1 : sb ≠ r1 := Nat.ne_of_lt (Nat.lt_of_lt_of_le lt_sb_638 sz6r1)
  have ne_mb_r1 : mb ≠ r1 := Nat.ne_of_lt (Nat.lt_of_lt_of_le lt_mb_638 sz6r1)
  have ne_qb_r1 : qb ≠ r1 := Nat.ne_of_lt (Nat.lt_of_lt_of_le lt_qb_638 sz6r1)
  have ne_ps_r1 : ps ≠ r1 := Nat.ne_of_lt (Nat.lt_of_lt_of_le lt_ps_638 sz6r1)
  have ga_r1 : n0 ≤ r1 := Nat.le_trans hsz_638 sz6r1
  have ne_sb_r2 : sb ≠ r2 := Nat.ne_of_lt (Nat.lt_of_lt_of_le lt_sb_638 sz6r2)
  have ne_mb_r2 : mb ≠ r2 := Nat.ne_of_lt (Nat.lt_of_lt_of_le lt_mb_638 sz6r2)
  have ne_qb_r2 : qb ≠ r2 := Nat.ne_of_lt (Nat.lt_of_lt_of_le lt_qb_638 sz6r2)
  have ne_ps_r2 : ps ≠ r2 := Nat.ne_of_lt (Nat.lt_of_lt_of_le lt_ps_638 sz6r2)
  have ga_r2 : n0 ≤ r2 := Nat.le_trans hsz_638 sz6r2
  have A299 := A285.keep K6 (ninS ne_sb_ps nin0)
  have A300 := A286.keep K6 (ninS ne_mb_ps nin0)
  have E301 := E287.keep K6
  have A302 := A288.keep K6 (ninS ne_qb_ps nin0)
  have E303 := E283.keep K6
  have xl : ((put32 (put32 (put32 (put32 [-1, -1, -1, -1, -1] m0 0) m1 1) m2 2) m3 3)).length = 5 := by simp [put32_len]
  have x0 : at32 (put32 (put32 (put32 (put32 [-1, -1, -1, -1, -1] m0 0) m1 1) m2 2) m3 3) m0 = 0 := by rw [own_put_miss b3.1 b0.1 (fun q => d03 q.symm)]; rw [own_put_miss b2.1 b0.1 (fun q => d02 q.symm)]; rw [own_put_miss b1.1 b0.1 (fun q => d01 q.symm)]; exact own_put_hit b0.1 (by simpa [put32_len] using b0.2)
  have x1 : at32 (put32 (put32 (put32 (put32 [-1, -1, -1, -1, -1] m0 0) m1 1) m2 2) m3 3) m1 = 1 := by rw [own_put_miss b3.1 b1.1 (fun q => d13 q.symm)]; rw [own_put_miss b2.1 b1.1 (fun q => d12 q.symm)]; exact own_put_hit b1.1 (by simpa [put32_len] using b1.2)
  have x2 : at32 (put32 (put32 (put32 (put32 [-1, -1, -1, -1, -1] m0 0) m1 1) m2 2) m3 3) m2 = 2 := by rw [own_put_miss b3.1 b2.1 (fun q => d23 q.symm)]; exact own_put_hit b2.1 (by simpa [put32_len] using b2.2)
  have x3 : at32 (put32 (put32 (put32 (put32 [-1, -1, -1, -1, -1] m0 0) m1 1) m2 2) m3 3) m3 = 3 := by exact own_put_hit b3.1 (by simpa [put32_len] using b3.2)
  generalize (put32 (put32 (put32 (put32 [-1, -1, -1, -1, -1] m0 0) m1 1) m2 2) m3 3) = ix at *
  refine go_astore C X297 643 rfl at_641 rfl #[jv pk, sc, iv ff, iv sk, iv pk2, jv st, sc, rv sb, iv kk, iv m0, iv m1, iv m2, iv m3, rv mb, jv (s0.toInt64), sc, jv (s1.toInt64), sc, jv (s2.toInt64), sc, jv (s3.toInt64), sc, iv (2 : Int32), iv rr, rv qb, jv (0 : Int64), sc, rv ps, iv (0 : Int32), iv (1 : Int32), jv ((s0.toInt64) * (s1.toInt64)), sc, jv ((s0.toInt64) * (s2.toInt64)), sc, jv ((s0.toInt64) * (s3.toInt64)), sc, jv ((s1.toInt64) * (s2.toInt64)), sc, jv ((s1.toInt64) * (s3.toInt64)), sc] rfl ?_
  refine go_aload C X297 645 rfl at_643 rfl rfl ?_
  refine go_aload C X297 647 rfl at_645 rfl rfl ?_
  refine go_virtual C X297 E6 (C.w 53 rfl) (C.w 54 rfl) (notFace_of_selects (args := #[]) (mvT C.hZ (C.w 56 rfl))) (C.w 56 rfl) (C.w 55 rfl) (C.w 9 rfl) (C.w 57 rfl) (own_bit_2_0 l Z a0 C.ws ps qb sb xb ob r0 r1 r2 sz ix m0 m1 m2 m3 s0 s1 s2 s3 st _ _ _ _ _ _ _ _ _ _ _ _ _ _ _ h298 n0 X297.old Fs Fx Ft Fu A299 Ax6 Ao6 A6r0 A6r1 A6r2 A302 hl xl b0 z0 b1 z1 b2 z2 b3 z3 x0 x1 x2 x3) (argsL := [(.ref qb)]) (rest := []) (lenOf pd_5 rfl) rfl (by decide) (by decide) (Nat.le_of_ble_eq_true rfl) (by decide) (by decide) rfl rfl (pc' := 650) rfl at_647 ?_
  rintro T304 _ _ ⟨rfl, rfl⟩ X305
  show Go p e below _ (T304.setTop (mkF m 650 #[jv pk, sc, iv ff, iv sk, iv pk2, jv st, sc, rv sb, iv kk, iv m0, iv m1, iv m2, iv m3, rv mb, jv (s0.toInt64), sc, jv (s1.toInt64), sc, jv (s2.toInt64), sc, jv (s3.toInt64), sc, iv (2 : Int32), iv rr, rv qb, jv (0 : Int64), sc, rv ps, iv (0 : Int32), iv (1 : Int32), jv ((s0.toInt64) * (s1.toInt64)), sc, jv ((s0.toInt64) * (s2.toInt64)), sc, jv ((s0.toInt64) * (s3.toInt64)), sc, jv ((s1.toInt64) * (s2.toInt64)), sc, jv ((s1.toInt64) * (s3.toInt64)), sc] [(.long (st + (((0 : Int64) + ((1 : Int64) * ((((((0 : Int64) + (s3.toInt64 * (0 : Int64))) + (s2.toInt64 * ((0 : Int64) + (s3.toInt64 * (1 : Int64))))) + (s1.toInt64 * (((0 : Int64) + (s3.toInt64 * (1 : Int64))) + (s2.toInt64 * (1 : Int64))))) + (s0.toInt64 * ((((0 : Int64) + (s3.toInt64 * (1 : Int64))) + (s2.toInt64 * (1 : Int64))) + (s1.toInt64 * (1 : Int64))))) - (((((0 : Int64) + (s3.toInt64 * (0 : Int64))) + (s2.toInt64 * ((0 : Int64) + (s3.toInt64 * (1 : Int64))))) + (s1.toInt64 * (((0 : Int64) + (s3.toInt64 * (1 : Int64))) + (s2.toInt64 * (1 : Int64))))) + (s0.toInt64 * ((((0 : Int64) + (s3.toInt64 * (1 : Int64))) + (s2.toInt64 * (1 : Int64))) + (s1.toInt64 * (1 : Int64)))))))) + (((1 : Int64) * s0.toInt64) * (((((0 : Int64) + (s3.toInt64 * (1 : Int64))) + (s2.toInt64 * (1 : Int64))) + (s1.toInt64 * (1 : Int64))) - ((((0 : Int64) + (s3.toInt64 * (1 : Int64))) + (s2.toInt64 * (1 : Int64))) + (s1.toInt64 * (1 : Int64))))))))]))
  refine go_lload C X305 652 rfl at_650 rfl ?_
  refine go_lload C X305 654 rfl at_652 rfl ?_
  refine go_ladd C X305 655 rfl at_654 ?_
  refine go_lif_ne C X305 (pc1 := 656) rfl at_655 at_656 (pc' := 659) (pc2 := 663) rfl (by decide) (by decide) (fun c656 => False.elim (c656 (own_id_2_0 s0 s1 s2 s3 st))) (fun _ => ?_)
  refine go_iconst C X305 660 rfl at_659 (z := 1) rfl ?_
  refine go_goto C X305 at_660 (pc' := 664) (by decide) (by decide) ?_
  exact go_retN C X305 (by simp) (z' := 1) rfl at_664 rfl (by decide) (by decide)
set_option maxRecDepth 65536 in
set_option maxHeartbeats 40000000 in
theorem own_arm_2_1 {p : Program} {l : Launch} {e : Env} {s : State} {m : MethodId} {below : List Frame} {meth : Method} {c : Code} {Z : State} {a0 : Array Value} {n0 : Nat} {pk : Int64} {ff : Int32} {sk : Int32} {pk2 : Int32} {st : Int64} {sb : Addr} {mb : Addr} {sz : List Int32} {kk : Int32} {rr : Int32} {m0 : Int32} {s0 : Int32} {m1 : Int32} {s1 : Int32} {m2 : Int32} {s2 : Int32} {m3 : Int32} {s3 : Int32} (C : Cx p s m meth c Z a0 x.cls code maxLocals ret x.name) {T72 : State} {h74 : Heap} (X73 : St Z p l e room_1 s m #[(.long pk), (.int ff), (.int sk), (.int pk2), (.long st)] below meth c n0 T72 h74 (0 + 1 + 1) (0 + 5 + 4)) (A77 : La Z h74 sb .int (ia sz)) (A76 : La Z h74 mb .int ([(.int m0), (.int m1), (.int m2), (.int m3)])) (E78 : Exa Z h74 mb "[I") (ne_sb_mb : sb ≠ mb) (ga_sb : n0 ≤ sb) (ga_mb : n0 ≤ mb) (hl : sz.length = 5) (b0 : 0 ≤ m0.toInt ∧ m0.toInt < (5 : Nat)) (b1 : 0 ≤ m1.toInt ∧ m1.toInt < (5 : Nat)) (b2 : 0 ≤ m2.toInt ∧ m2.toInt < (5 : Nat)) (b3 : 0 ≤ m3.toInt ∧ m3.toInt < (5 : Nat)) (z0 : at32 sz m0 = s0) (z1 : at32 sz m1 = s1) (z2 : at32 sz m2 = s2) (z3 : at32 sz m3 = s3) (d01 : ¬ m0.toInt = m1.toInt) (d02 : ¬ m0.toInt = m2.toInt) (d03 : ¬ m0.toInt = m3.toInt) (d12 : ¬ m1.toInt = m2.toInt) (d13 : ¬ m1.toInt = m3.toInt) (d23 : ¬ m2.toInt = m3.toInt) : Go p e below (FinQ s room_1.cells room_1.slots n0 (fun v h' => v = some (.int 1))) (T72.setTop (mkF m 265 #[jv pk, sc, iv ff, iv sk, iv pk2, jv st, sc, rv sb, iv kk, iv m0, iv m1, iv m2, iv m3, rv mb, jv (s0.toInt64), sc, jv (s1.toInt64), sc, jv (s2.toInt64), sc, jv (s3.toInt64), sc, iv (2 : Int32), iv rr, un, un, un, iv (1 : Int32), un, un, un, un, un, un, un, un, un, un, un, un] [])) := by
  refine go_iload C X73 267 rfl at_265 rfl ?_
  refine go_iconst C X73 268 rfl at_267 (z := 3) rfl ?_
  refine go_icmp_ge C X73 at_268 (pc' := 271) (pc2 := 275) rfl (by decide) (by decide) (fun (c268 : 3 ≤ 1) => False.elim (by first | omega | exact absurd c268 (by decide))) (fun (c268 : 1 < 3) => ?_)
  refine go_iconst C X73 272 rfl at_271 (z := 0) rfl ?_
  refine go_goto C X73 at_272 (pc' := 286) (by decide) (by decide) ?_
  refine go_istore C X73 288 rfl at_286 #[jv pk, sc, iv ff, iv sk, iv pk2, jv st, sc, rv sb, iv kk, iv m0, iv m1, iv m2, iv m3, rv mb, jv (s0.toInt64), sc, jv (s1.toInt64), sc, jv (s2.toInt64), sc, jv (s3.toInt64), sc, iv (2 : Int32), iv rr, un, un, un, iv (1 : Int32), iv (0 : Int32), un, un, un, un, un, un, un, un, un, un, un] rfl ?_
  refine go_iload C X73 290 rfl at_288 rfl ?_
  refine go_iconst C X73 291 rfl at_290 (z := 3) rfl ?_
  refine go_icmp_ge C X73 at_291 (pc' := 294) (pc2 := 301) rfl (by decide) (by decide) (fun (c291 : 3 ≤ 1) => False.elim (by first | omega | exact absurd c291 (by decide))) (fun (c291 : 1 < 3) => ?_)
  refine go_iload C X73 296 rfl at_294 rfl ?_
  refine go_iconst C X73 297 rfl at_296 (z := 1) rfl ?_
  refine go_iaddL C X73 298 rfl at_297 (z := (2)) rfl ?_
  refine go_goto C X73 at_298 (pc' := 315) (by decide) (by decide) ?_
  refine go_istore C X73 317 rfl at_315 #[jv pk, sc, iv ff, iv sk, iv pk2, jv st, sc, rv sb, iv kk, iv m0, iv m1, iv m2, iv m3, rv mb, jv (s0.toInt64), sc, jv (s1.toInt64), sc, jv (s2.toInt64), sc, jv (s3.toInt64), sc, iv (2 : Int32), iv rr, un, un, un, iv (1 : Int32), iv (0 : Int32), iv (2 : Int32), un, un, un, un, un, un, un, un, un, un] rfl ?_
  refine go_iconst C X73 318 rfl at_317 (z := 2) rfl ?_
  refine go_newarr C X73 (C.w 0 rfl) (cap := 2) (by decide) (by decide) (by decide) (by decide) (by decide) (pc' := 320) rfl at_318 (fun T307 h309 qb ha_qb ga_qb E310 A311  X308 => ?_)
  have ne_sb_qb : sb ≠ qb := Nat.ne_of_lt (Nat.lt_of_lt_of_le A77.lt (Nat.le_of_eq ha_qb.symm))
  have ne_mb_qb : mb ≠ qb := Nat.ne_of_lt (Nat.lt_of_lt_of_le A76.lt (Nat.le_of_eq ha_qb.symm))
  have A312 := A77.ext E310
  have A313 := A76.ext E310
  have E314 := E78.ext E310
  replace A311 : La Z h309 qb .int ([(.int (0 : Int32)), (.int (0 : Int32))]) := A311
  refine go_dup C X308 321 rfl at_320 rfl ?_
  refine go_iconst C X308 322 rfl at_321 (z := 0) rfl ?_
  refine go_aload C X308 324 rfl at_322 rfl rfl ?_
  refine go_iload C X308 326 rfl at_324 rfl ?_
  refine go_iaload C X308 A313 (by decide) (v := (.int m0)) rfl (pc' := 327) rfl at_326 ?_
  refine go_iastore C X308 A311 (by decide) (by show _ < (2 : Int); decide) ga_qb (pc' := 328) rfl at_327 (fun T315 h317 W318 A319 X316 => ?_)
  have A320 := A312.other W318 ne_sb_qb
  have A321 := A313.other W318 ne_mb_qb
  have E322 := E314.wr W318
  replace A319 : La Z h317 qb .int ([(.int m0), (.int (0 : Int32))]) := A319
  refine go_dup C X316 329 rfl at_328 rfl ?_
  refine go_iconst C X316 330 rfl at_329 (z := 1) rfl ?_
  refine go_aload C X316 332 rfl at_330 rfl rfl ?_
  refine go_iload C X316 334 rfl at_332 rfl ?_
  refine go_iaload C X316 A321 (by decide) (v := (.int m2)) rfl (pc' := 335) rfl at_334 ?_
  refine go_iastore C X316 A319 (by decide) (by show _ < (2 : Int); decide) ga_qb (pc' := 336) rfl at_335 (fun T323 h325 W326 A327 X324 => ?_)
  have A328 := A320.other W326 ne_sb_qb
  have A329 := A321.other W326 ne_mb_qb
  have E330 := E322.wr W326
  replace A327 : La Z h325 qb .int ([(.int m0), (.int m2)]) := A327
  refine go_astore C X324 338 rfl at_336 rfl #[jv pk, sc, iv ff, iv sk, iv pk2, jv st, sc, rv sb, iv kk, iv m0, iv m1, iv m2, iv m3, rv mb, jv (s0.toInt64), sc, jv (s1.toInt64), sc, jv (s2.toInt64), sc, jv (s3.toInt64), sc, iv (2 : Int32), iv rr, rv qb, un, un, iv (1 : Int32), iv (0 : Int32), iv (2 : Int32), un, un, un, un, un, un, un, un, un, un] rfl ?_
  refine go_lload C X324 340 rfl at_338 rfl ?_
  refine go_lload C X324 342 rfl at_340 rfl ?_
  refine go_lmul C X324 343 rfl at_342 ?_
  refine go_lstore C X324 345 rfl at_343 #[jv pk, sc, iv ff, iv sk, iv pk2, jv st, sc, rv sb, iv kk, iv m0, iv m1, iv m2, iv m3, rv mb, jv (s0.toInt64), sc, jv (s1.toInt64), sc, jv (s2.toInt64), sc, jv (s3.toInt64), sc, iv (2 : Int32), iv rr, rv qb, un, un, iv (1 : Int32), iv (0 : Int32), iv (2 : Int32), jv ((s0.toInt64) * (s1.toInt64)), sc, un, un, un, un, un, un, un, un] rfl ?_
  refine go_lload C X324 347 rfl at_345 rfl ?_
  refine go_lload C X324 349 rfl at_347 rfl ?_
  refine go_lmul C X324 350 rfl at_349 ?_
  refine go_lstore C X324 352 rfl at_350 #[jv pk, sc, iv ff, iv sk, iv pk2, jv st, sc, rv sb, iv kk, iv m0, iv m1, iv m2, iv m3, rv mb, jv (s0.toInt64), sc, jv (s1.toInt64), sc, jv (s2.toInt64), sc, jv (s3.toInt64), sc, iv (2 : Int32), iv rr, rv qb, un, un, iv (1 : Int32), iv (0 : Int32), iv (2 : Int32), jv ((s0.toInt64) * (s1.toInt64)), sc, jv ((s0.toInt64) * (s2.toInt64)), sc, un, un, un, un, un, un] rfl ?_
  refine go_lload C X324 354 rfl at_352 rfl ?_
  refine go_lload C X324 356 rfl at_354 rfl ?_
  refine go_lmul C X324 357 rfl at_356 ?_
  refine go_lstore C X324 359 rfl at_357 #[jv pk, sc, iv ff, iv sk, iv pk2, jv st, sc, rv sb, iv kk, iv m0, iv m1, iv m2, iv m3, rv mb, jv (s0.toInt64), sc, jv (s1.toInt64), sc, jv (s2.toInt64), sc, jv (s3.toInt64), sc, iv (2 : Int32), iv rr, rv qb, un, un, iv (1 : Int32), iv (0 : Int32), iv (2 : Int32), jv ((s0.toInt64) * (s1.toInt64)), sc, jv ((s0.toInt64) * (s2.toInt64)), sc, jv ((s0.toInt64) * (s3.toInt64)), sc, un, un, un, un] rfl ?_
  refine go_lload C X324 361 rfl at_359 rfl ?_
  refine go_lload C X324 363 rfl at_361 rfl ?_
  refine go_lmul C X324 364 rfl at_363 ?_
  refine go_lstore C X324 366 rfl at_364 #[jv pk, sc, iv ff, iv sk, iv pk2, jv st, sc, rv sb, iv kk, iv m0, iv m1, iv m2, iv m3, rv mb, jv (s0.toInt64), sc, jv (s1.toInt64), sc, jv (s2.toInt64), sc, jv (s3.toInt64), sc, iv (2 : Int32), iv rr, rv qb, un, un, iv (1 : Int32), iv (0 : Int32), iv (2 : Int32), jv ((s0.toInt64) * (s1.toInt64)), sc, jv ((s0.toInt64) * (s2.toInt64)), sc, jv ((s0.toInt64) * (s3.toInt64)), sc, jv ((s1.toInt64) * (s2.toInt64)), sc, un, un] rfl ?_
  refine go_lload C X324 368 rfl at_366 rfl ?_
  refine go_lload C X324 370 rfl at_368 rfl ?_
  refine go_lmul C X324 371 rfl at_370 ?_
  refine go_lstore C X324 373 rfl at_371 #[jv pk, sc, iv ff, iv sk, iv pk2, jv st, sc, rv sb, iv kk, iv m0, iv m1, iv m2, iv m3, rv mb, jv (s0.toInt64), sc, jv (s1.toInt64), sc, jv (s2.toInt64), sc, jv (s3.toInt64), sc, iv (2 : Int32), iv rr, rv qb, un, un, iv (1 : Int32), iv (0 : Int32), iv (2 : Int32), jv ((s0.toInt64) * (s1.toInt64)), sc, jv ((s0.toInt64) * (s2.toInt64)), sc, jv ((s0.toInt64) * (s3.toInt64)), sc, jv ((s1.toInt64) * (s2.toInt64)), sc, jv ((s1.toInt64) * (s3.toInt64)), sc] rfl ?_
  refine go_iload C X324 375 rfl at_373 rfl ?_
  refine go_if_le C X324 at_375 (pc' := 378) (pc2 := 383) rfl (by decide) (by decide) (fun (c375 : 1 ≤ 0) => False.elim (by first | omega | exact absurd c375 (by decide))) (fun (c375 : 0 < 1) => ?_)
  refine go_lload C X324 380 rfl at_378 rfl ?_
  refine go_goto C X324 at_380 (pc' := 384) (by decide) (by decide) ?_
  refine go_iload C X324 386 rfl at_384 rfl ?_
  refine go_iconst C X324 387 rfl at_386 (z := 1) rfl ?_
  refine go_icmp_le C X324 at_387 (pc' := 390) (pc2 := 395) rfl (by decide) (by decide) (fun (c387 : 1 ≤ 1) => ?_) (fun (c387 : 1 < 1) => False.elim (by first | omega | exact absurd c387 (by decide)))
  refine go_lconst C X324 396 rfl at_395 (z := 0) rfl ?_
  refine go_ladd C X324 397 rfl at_396 ?_
  refine go_iload C X324 399 rfl at_397 rfl ?_
  refine go_iconst C X324 400 rfl at_399 (z := 2) rfl ?_
  refine go_icmp_le C X324 at_400 (pc' := 403) (pc2 := 408) rfl (by decide) (by decide) (fun (c400 : 1 ≤ 2) => ?_) (fun (c400 : 2 < 1) => False.elim (by first | omega | exact absurd c400 (by decide)))
  refine go_lconst C X324 409 rfl at_408 (z := 0) rfl ?_
  refine go_ladd C X324 410 rfl at_409 ?_
  refine go_iload C X324 412 rfl at_410 rfl ?_
  refine go_iconst C X324 413 rfl at_412 (z := 3) rfl ?_
  refine go_icmp_le C X324 at_413 (pc' := 416) (pc2 := 421) rfl (by decide) (by decide) (fun (c413 : 1 ≤ 3) => ?_) (fun (c413 : 3 < 1) => False.elim (by first | omega | exact absurd c413 (by decide)))
  refine go_lconst C X324 422 rfl at_421 (z := 0) rfl ?_
  refine go_ladd C X324 423 rfl at_422 ?_
  refine go_iload C X324 425 rfl at_423 rfl ?_
  refine go_iconst C X324 426 rfl at_425 (z := 4) rfl ?_
  refine go_icmp_le C X324 at_426 (pc' := 429) (pc2 := 434) rfl (by decide) (by decide) (fun (c426 : 1 ≤ 4) => ?_) (fun (c426 : 4 < 1) => False.elim (by first | omega | exact absurd c426 (by decide)))
  refine go_lconst C X324 435 rfl at_434 (z := 0) rfl ?_
  refine go_ladd C X324 436 rfl at_435 ?_
  refine go_lstore C X324 438 rfl at_436 #[jv pk, sc, iv ff, iv sk, iv pk2, jv st, sc, rv sb, iv kk, iv m0, iv m1, iv m2, iv m3, rv mb, jv (s0.toInt64), sc, jv (s1.toInt64), sc, jv (s2.toInt64), sc, jv (s3.toInt64), sc, iv (2 : Int32), iv rr, rv qb, jv ((((((s0.toInt64) * (s1.toInt64)) + (0 : Int64)) + (0 : Int64)) + (0 : Int64)) + (0 : Int64)), sc, iv (1 : Int32), iv (0 : Int32), iv (2 : Int32), jv ((s0.toInt64) * (s1.toInt64)), sc, jv ((s0.toInt64) * (s2.toInt64)), sc, jv ((s0.toInt64) * (s3.toInt64)), sc, jv ((s1.toInt64) * (s2.toInt64)), sc, jv ((s1.toInt64) * (s3.toInt64)), sc] rfl ?_
  refine go_goto C X324 at_438 (pc' := 626) (by decide) (by decide) ?_
  refine go_new C X324 (C.w 7 rfl) (C.w 8 rfl) (C.w 9 rfl) (by decide) (by decide) (pc' := 629) rfl at_626 (fun T331 h333 ps ha_ps ga_ps E334 E335 D336 X332 => ?_)
  have ne_sb_ps : sb ≠ ps := Nat.ne_of_lt (Nat.lt_of_lt_of_le A328.lt (Nat.le_of_eq ha_ps.symm))
  have ne_mb_ps : mb ≠ ps := Nat.ne_of_lt (Nat.lt_of_lt_of_le A329.lt (Nat.le_of_eq ha_ps.symm))
  have ne_qb_ps : qb ≠ ps := Nat.ne_of_lt (Nat.lt_of_lt_of_le A327.lt (Nat.le_of_eq ha_ps.symm))
  have A337 := A328.ext E334
  have A338 := A329.ext E334
  have E339 := E330.ext E334
  have A340 := A327.ext E334
  have F341 : Fld Z h333 ps "com/example/covertide/covertide/engine/ParameterSets" "sizes" "[I" .null := D336 (Or.inr (C.w 17 rfl)) (ty := (.array .int)) (by decide)
  have F342 : Fld Z h333 ps "com/example/covertide/covertide/engine/ParameterSets" "members" "[I" .null := D336 (Or.inr (C.w 28 rfl)) (ty := (.array .int)) (by decide)
  have F343 : Fld Z h333 ps "com/example/covertide/covertide/engine/ParameterSets" "indexOf" "[I" .null := D336 (Or.inr (C.w 30 rfl)) (ty := (.array .int)) (by decide)
  have F344 : Fld Z h333 ps "com/example/covertide/covertide/engine/ParameterSets" "size" "I" (.int (0 : Int32)) := D336 (Or.inr (C.w 36 rfl)) (ty := .int) (by decide)
  have F345 : Fld Z h333 ps "com/example/covertide/covertide/engine/ParameterSets" "start" "J" (.long (0 : Int64)) := D336 (Or.inr (C.w 38 rfl)) (ty := .long) (by decide)
  have F346 : Fld Z h333 ps "com/example/covertide/covertide/engine/ParameterSets" "suffixSums" "[[J" .null := D336 (Or.inr (C.w 50 rfl)) (ty := (.array (.array .long))) (by decide)
  have F347 : Fld Z h333 ps "com/example/covertide/covertide/engine/ParameterSets" "combinations" "J" (.long (0 : Int64)) := D336 (Or.inr (C.w 52 rfl)) (ty := .long) (by decide)
  refine go_dup C X332 630 rfl at_629 rfl ?_
  refine go_aload C X332 632 rfl at_630 rfl rfl ?_
  refine go_aload C X332 634 rfl at_632 rfl rfl ?_
  refine go_iload C X332 636 rfl at_634 rfl ?_
  refine go_lload C X332 638 rfl at_636 rfl ?_
  have hsz_638 := X332.sz
  have lt_sb_638 := A337.lt
  have lt_mb_638 := A338.lt
  have lt_qb_638 := A340.lt
  have lt_ps_638 := E335.lt
  refine go_special C X332 (C.w 10 rfl) (C.w 11 rfl) (C.w 9 rfl) (C.w 12 rfl) rfl (own_init_2 l Z a0 C.ws ps sb mb st sz m0 m1 m2 m3 s0 s1 s2 s3 h333 n0 X332.old E335 F341 F342 F343 F344 F345 F346 F347 A337 A338 E339 ga_ps (Ne.symm ne_sb_ps) (Ne.symm ne_mb_ps) hl b0 z0 b1 z1 b2 z2 b3 z3) (argsL := [(.ref sb), (.ref mb), (.int (2 : Int32)), (.long st)]) (rest := [(.ref ps)]) (lenOf pd_4 rfl) rfl (by decide) (by decide) (Nat.le_of_ble_eq_true rfl) (by decide) (by decide) rfl rfl (pc' := 641) rfl at_638 ?_
  rintro T348 h350 _ ⟨rfl, xb, ob, r0, r1, r2, K6, E6, Fs, Fx, Ft, Fu, sx6, so6, sz6r0, sz6r1, sz6r2, Ax6, Ao6, A6r0, A6r1, A6r2⟩ X349
  show Go p e below _ (T348.setTop (mkF m 641 #[jv pk, sc, iv ff, iv sk, iv pk2, jv st, sc, rv sb, iv kk, iv m0, iv m1, iv m2, iv m3, rv mb, jv (s0.toInt64), sc, jv (s1.toInt64), sc, jv (s2.toInt64), sc, jv (s3.toInt64), sc, iv (2 : Int32), iv rr, rv qb, jv ((((((s0.toInt64) * (s1.toInt64)) + (0 : Int64)) + (0 : Int64)) + (0 : Int64)) + (0 : Int64)), sc, iv (1 : Int32), iv (0 : Int32), iv (2 : Int32), jv ((s0.toInt64) * (s1.toInt64)), sc, jv ((s0.toInt64) * (s2.toInt64)), sc, jv ((s0.toInt64) * (s3.toInt64)), sc, jv ((s1.toInt64) * (s2.toInt64)), sc, jv ((s1.toInt64) * (s3.toInt64)), sc] [(.ref ps)]))
  have ne_sb_xb : sb ≠ xb := Nat.ne_of_lt (Nat.lt_of_lt_of_le lt_sb_638 sx6)
  have ne_mb_xb : mb ≠ xb := Nat.ne_of_lt (Nat.lt_of_lt_of_le lt_mb_638 sx6)
  have ne_qb_xb : qb ≠ xb := Nat.ne_of_lt (Nat.lt_of_lt_of_le lt_qb_638 sx6)
  have ne_ps_xb : ps ≠ xb := Nat.ne_of_lt (Nat.lt_of_lt_of_le lt_ps_638 sx6)
  have ga_xb : n0 ≤ xb := Nat.le_trans hsz_638 sx6
  have ne_sb_ob : sb ≠ ob := Nat.ne_of_lt (Nat.lt_of_lt_of_le lt_sb_638 so6)
  have ne_mb_ob : mb ≠ ob := Nat.ne_of_lt (Nat.lt_of_lt_of_le lt_mb_638 so6)
  have ne_qb_ob : qb ≠ ob := Nat.ne_of_lt (Nat.lt_of_lt_of_le lt_qb_638 so6)
  have ne_ps_ob : ps ≠ ob := Nat.ne_of_lt (Nat.lt_of_lt_of_le lt_ps_638 so6)
  have ga_ob : n0 ≤ ob := Nat.le_trans hsz_638 so6
  have ne_sb_r0 : sb ≠ r0 := Nat.ne_of_lt (Nat.lt_of_lt_of_le lt_sb_638 sz6r0)
  have ne_mb_r0 : mb ≠ r0 := Nat.ne_of_lt (Nat.lt_of_lt_of_le lt_mb_638 sz6r0)
  have ne_qb_r0 : qb ≠ r0 := Nat.ne_of_lt (Nat.lt_of_lt_of_le lt_qb_638 sz6r0)
  have ne_ps_r0 : ps ≠ r0 := Nat.ne_of_lt (Nat.lt_of_lt_of_le lt_ps_638 sz6r0)
  have ga_r0 : n0 ≤ r0 := Nat.le_trans hsz_638 sz6r0
  have ne_sb_r1 : sb ≠ r1 := Nat.ne_of_lt (Nat.lt_of_lt_of_le lt_sb_638 sz6r1)
  have ne_mb_r1 : mb ≠ r1 := Nat.ne_of_lt (Nat.lt_of_lt_of_le lt_mb_638 sz6r1)
  have ne_qb_r1 : qb ≠ r1 := Nat.ne_of_lt (Nat.lt_of_lt_of_le lt_qb_638 sz6r1)
  have ne_ps_r1 : ps ≠ r1 := Nat.ne_of_lt (Nat.lt_of_lt_of_le lt_ps_638 sz6r1)
  have ga_r1 : n0 ≤ r1 := Nat.le_trans hsz_638 sz6r1
  have ne_sb_r2 : sb ≠ r2 := Nat.ne_of_lt (Nat.lt_of_lt_of_le lt_sb_638 sz6r2)
  have ne_mb_r2 : mb ≠ r2 := Nat.ne_of_lt (Nat.lt_of_lt_of_le lt_mb_638 sz6r2)
  have ne_qb_r2 : qb ≠ r2 := Nat.ne_of_lt (Nat.lt_of_lt_of_le lt_qb_638 sz6r2)
  have ne_ps_r2 : ps ≠ r2 := Nat.ne_of_lt (Nat.lt_of_lt_of_le lt_ps_638 sz6r2)
  have ga_r2 : n0 ≤ r2 := Nat.le_trans hsz_638 sz6r2
  have A351 := A337.keep K6 (ninS ne_sb_ps nin0)
  have A352 := A338.keep K6 (ninS ne_mb_ps nin0)
  have E353 := E339.keep K6
  have A354 := A340.keep K6 (ninS ne_qb_ps nin0)
  have E355 := E335.keep K6
  have xl : ((put32 (put32 (put32 (put32 [-1, -1, -1, -1, -1] m0 0) m1 1) m2 2) m3 3)).length = 5 := by simp [put32_len]
  have x0 : at32 (put32 (put32 (put32 (put32 [-1, -1, -1, -1, -1] m0 0) m1 1) m2 2) m3 3) m0 = 0 := by rw [own_put_miss b3.1 b0.1 (fun q => d03 q.symm)]; rw [own_put_miss b2.1 b0.1 (fun q => d02 q.symm)]; rw [own_put_miss b1.1 b0.1 (fun q => d01 q.symm)]; exact own_put_hit b0.1 (by simpa [put32_len] using b0.2)
  have x1 : at32 (put32 (put32 (put32 (put32 [-1, -1, -1, -1, -1] m0 0) m1 1) m2 2) m3 3) m1 = 1 := by rw [own_put_miss b3.1 b1.1 (fun q => d13 q.symm)]; rw [own_put_miss b2.1 b1.1 (fun q => d12 q.symm)]; exact own_put_hit b1.1 (by simpa [put32_len] using b1.2)
  have x2 : at32 (put32 (put32 (put32 (put32 [-1, -1, -1, -1, -1] m0 0) m1 1) m2 2) m3 3) m2 = 2 := by rw [own_put_miss b3.1 b2.1 (fun q => d23 q.symm)]; exact own_put_hit b2.1 (by simpa [put32_len] using b2.2)
  have x3 : at32 (put32 (put32 (put32 (put32 [-1, -1, -1, -1, -1] m0 0) m1 1) m2 2) m3 3) m3 = 3 := by exact own_put_hit b3.1 (by simpa [put32_len] using b3.2)
  generalize (put32 (put32 (put32 (put32 [-1, -1, -1, -1, -1] m0 0) m1 1) m2 2) m3 3) = ix at *
  refine go_astore C X349 643 rfl at_641 rfl #[jv pk, sc, iv ff, iv sk, iv pk2, jv st, sc, rv sb, iv kk, iv m0, iv m1, iv m2, iv m3, rv mb, jv (s0.toInt64), sc, jv (s1.toInt64), sc, jv (s2.toInt64), sc, jv (s3.toInt64), sc, iv (2 : Int32), iv rr, rv qb, jv ((((((s0.toInt64) * (s1.toInt64)) + (0 : Int64)) + (0 : Int64)) + (0 : Int64)) + (0 : Int64)), sc, rv ps, iv (0 : Int32), iv (2 : Int32), jv ((s0.toInt64) * (s1.toInt64)), sc, jv ((s0.toInt64) * (s2.toInt64)), sc, jv ((s0.toInt64) * (s3.toInt64)), sc, jv ((s1.toInt64) * (s2.toInt64)), sc, jv ((s1.toInt64) * (s3.toInt64)), sc] rfl ?_
  refine go_aload C X349 645 rfl at_643 rfl rfl ?_
  refine go_aload C X349 647 rfl at_645 rfl rfl ?_
  refine go_virtual C X349 E6 (C.w 53 rfl) (C.w 54 rfl) (notFace_of_selects (args := #[]) (mvT C.hZ (C.w 56 rfl))) (C.w 56 rfl) (C.w 55 rfl) (C.w 9 rfl) (C.w 57 rfl) (own_bit_2_1 l Z a0 C.ws ps qb sb xb ob r0 r1 r2 sz ix m0 m1 m2 m3 s0 s1 s2 s3 st _ _ _ _ _ _ _ _ _ _ _ _ _ _ _ h350 n0 X349.old Fs Fx Ft Fu A351 Ax6 Ao6 A6r0 A6r1 A6r2 A354 hl xl b0 z0 b1 z1 b2 z2 b3 z3 x0 x1 x2 x3) (argsL := [(.ref qb)]) (rest := []) (lenOf pd_5 rfl) rfl (by decide) (by decide) (Nat.le_of_ble_eq_true rfl) (by decide) (by decide) rfl rfl (pc' := 650) rfl at_647 ?_
  rintro T356 _ _ ⟨rfl, rfl⟩ X357
  show Go p e below _ (T356.setTop (mkF m 650 #[jv pk, sc, iv ff, iv sk, iv pk2, jv st, sc, rv sb, iv kk, iv m0, iv m1, iv m2, iv m3, rv mb, jv (s0.toInt64), sc, jv (s1.toInt64), sc, jv (s2.toInt64), sc, jv (s3.toInt64), sc, iv (2 : Int32), iv rr, rv qb, jv ((((((s0.toInt64) * (s1.toInt64)) + (0 : Int64)) + (0 : Int64)) + (0 : Int64)) + (0 : Int64)), sc, rv ps, iv (0 : Int32), iv (2 : Int32), jv ((s0.toInt64) * (s1.toInt64)), sc, jv ((s0.toInt64) * (s2.toInt64)), sc, jv ((s0.toInt64) * (s3.toInt64)), sc, jv ((s1.toInt64) * (s2.toInt64)), sc, jv ((s1.toInt64) * (s3.toInt64)), sc] [(.long (st + (((0 : Int64) + ((1 : Int64) * ((((((0 : Int64) + (s3.toInt64 * (0 : Int64))) + (s2.toInt64 * ((0 : Int64) + (s3.toInt64 * (1 : Int64))))) + (s1.toInt64 * (((0 : Int64) + (s3.toInt64 * (1 : Int64))) + (s2.toInt64 * (1 : Int64))))) + (s0.toInt64 * ((((0 : Int64) + (s3.toInt64 * (1 : Int64))) + (s2.toInt64 * (1 : Int64))) + (s1.toInt64 * (1 : Int64))))) - (((((0 : Int64) + (s3.toInt64 * (0 : Int64))) + (s2.toInt64 * ((0 : Int64) + (s3.toInt64 * (1 : Int64))))) + (s1.toInt64 * (((0 : Int64) + (s3.toInt64 * (1 : Int64))) + (s2.toInt64 * (1 : Int64))))) + (s0.toInt64 * ((((0 : Int64) + (s3.toInt64 * (1 : Int64))) + (s2.toInt64 * (1 : Int64))) + (s1.toInt64 * (1 : Int64)))))))) + (((1 : Int64) * s0.toInt64) * (((((0 : Int64) + (s3.toInt64 * (1 : Int64))) + (s2.toInt64 * (1 : Int64))) + (s1.toInt64 * (1 : Int64))) - (((0 : Int64) + (s3.toInt64 * (1 : Int64))) + (s2.toInt64 * (1 : Int64))))))))]))
  refine go_lload C X357 652 rfl at_650 rfl ?_
  refine go_lload C X357 654 rfl at_652 rfl ?_
  refine go_ladd C X357 655 rfl at_654 ?_
  refine go_lif_ne C X357 (pc1 := 656) rfl at_655 at_656 (pc' := 659) (pc2 := 663) rfl (by decide) (by decide) (fun c656 => False.elim (c656 (own_id_2_1 s0 s1 s2 s3 st))) (fun _ => ?_)
  refine go_iconst C X357 660 rfl at_659 (z := 1) rfl ?_
  refine go_goto C X357 at_660 (pc' := 664) (by decide) (by decide) ?_
  exact go_retN C X357 (by simp) (z' := 1) rfl at_664 rfl (by decide) (by decide)
set_option maxRecDepth 65536 in
set_option maxHeartbeats 40000000 in
theorem own_arm_2_2 {p : Program} {l : Launch} {e : Env} {s : State} {m : MethodId} {below : List Frame} {meth : Method} {c : Code} {Z : State} {a0 : Array Value} {n0 : Nat} {pk : Int64} {ff : Int32} {sk : Int32} {pk2 : Int32} {st : Int64} {sb : Addr} {mb : Addr} {sz : List Int32} {kk : Int32} {rr : Int32} {m0 : Int32} {s0 : Int32} {m1 : Int32} {s1 : Int32} {m2 : Int32} {s2 : Int32} {m3 : Int32} {s3 : Int32} (C : Cx p s m meth c Z a0 x.cls code maxLocals ret x.name) {T72 : State} {h74 : Heap} (X73 : St Z p l e room_1 s m #[(.long pk), (.int ff), (.int sk), (.int pk2), (.long st)] below meth c n0 T72 h74 (0 + 1 + 1) (0 + 5 + 4)) (A77 : La Z h74 sb .int (ia sz)) (A76 : La Z h74 mb .int ([(.int m0), (.int m1), (.int m2), (.int m3)])) (E78 : Exa Z h74 mb "[I") (ne_sb_mb : sb ≠ mb) (ga_sb : n0 ≤ sb) (ga_mb : n0 ≤ mb) (hl : sz.length = 5) (b0 : 0 ≤ m0.toInt ∧ m0.toInt < (5 : Nat)) (b1 : 0 ≤ m1.toInt ∧ m1.toInt < (5 : Nat)) (b2 : 0 ≤ m2.toInt ∧ m2.toInt < (5 : Nat)) (b3 : 0 ≤ m3.toInt ∧ m3.toInt < (5 : Nat)) (z0 : at32 sz m0 = s0) (z1 : at32 sz m1 = s1) (z2 : at32 sz m2 = s2) (z3 : at32 sz m3 = s3) (d01 : ¬ m0.toInt = m1.toInt) (d02 : ¬ m0.toInt = m2.toInt) (d03 : ¬ m0.toInt = m3.toInt) (d12 : ¬ m1.toInt = m2.toInt) (d13 : ¬ m1.toInt = m3.toInt) (d23 : ¬ m2.toInt = m3.toInt) : Go p e below (FinQ s room_1.cells room_1.slots n0 (fun v h' => v = some (.int 1))) (T72.setTop (mkF m 265 #[jv pk, sc, iv ff, iv sk, iv pk2, jv st, sc, rv sb, iv kk, iv m0, iv m1, iv m2, iv m3, rv mb, jv (s0.toInt64), sc, jv (s1.toInt64), sc, jv (s2.toInt64), sc, jv (s3.toInt64), sc, iv (2 : Int32), iv rr, un, un, un, iv (2 : Int32), un, un, un, un, un, un, un, un, un, un, un, un] [])) := by
  refine go_iload C X73 267 rfl at_265 rfl ?_
  refine go_iconst C X73 268 rfl at_267 (z := 3) rfl ?_
  refine go_icmp_ge C X73 at_268 (pc' := 271) (pc2 := 275) rfl (by decide) (by decide) (fun (c268 : 3 ≤ 2) => False.elim (by first | omega | exact absurd c268 (by decide))) (fun (c268 : 2 < 3) => ?_)
  refine go_iconst C X73 272 rfl at_271 (z := 0) rfl ?_
  refine go_goto C X73 at_272 (pc' := 286) (by decide) (by decide) ?_
  refine go_istore C X73 288 rfl at_286 #[jv pk, sc, iv ff, iv sk, iv pk2, jv st, sc, rv sb, iv kk, iv m0, iv m1, iv m2, iv m3, rv mb, jv (s0.toInt64), sc, jv (s1.toInt64), sc, jv (s2.toInt64), sc, jv (s3.toInt64), sc, iv (2 : Int32), iv rr, un, un, un, iv (2 : Int32), iv (0 : Int32), un, un, un, un, un, un, un, un, un, un, un] rfl ?_
  refine go_iload C X73 290 rfl at_288 rfl ?_
  refine go_iconst C X73 291 rfl at_290 (z := 3) rfl ?_
  refine go_icmp_ge C X73 at_291 (pc' := 294) (pc2 := 301) rfl (by decide) (by decide) (fun (c291 : 3 ≤ 2) => False.elim (by first | omega | exact absurd c291 (by decide))) (fun (c291 : 2 < 3) => ?_)
  refine go_iload C X73 296 rfl at_294 rfl ?_
  refine go_iconst C X73 297 rfl at_296 (z := 1) rfl ?_
  refine go_iaddL C X73 298 rfl at_297 (z := (3)) rfl ?_
  refine go_goto C X73 at_298 (pc' := 315) (by decide) (by decide) ?_
  refine go_istore C X73 317 rfl at_315 #[jv pk, sc, iv ff, iv sk, iv pk2, jv st, sc, rv sb, iv kk, iv m0, iv m1, iv m2, iv m3, rv mb, jv (s0.toInt64), sc, jv (s1.toInt64), sc, jv (s2.toInt64), sc, jv (s3.toInt64), sc, iv (2 : Int32), iv rr, un, un, un, iv (2 : Int32), iv (0 : Int32), iv (3 : Int32), un, un, un, un, un, un, un, un, un, un] rfl ?_
  refine go_iconst C X73 318 rfl at_317 (z := 2) rfl ?_
  refine go_newarr C X73 (C.w 0 rfl) (cap := 2) (by decide) (by decide) (by decide) (by decide) (by decide) (pc' := 320) rfl at_318 (fun T359 h361 qb ha_qb ga_qb E362 A363  X360 => ?_)
  have ne_sb_qb : sb ≠ qb := Nat.ne_of_lt (Nat.lt_of_lt_of_le A77.lt (Nat.le_of_eq ha_qb.symm))
  have ne_mb_qb : mb ≠ qb := Nat.ne_of_lt (Nat.lt_of_lt_of_le A76.lt (Nat.le_of_eq ha_qb.symm))
  have A364 := A77.ext E362
  have A365 := A76.ext E362
  have E366 := E78.ext E362
  replace A363 : La Z h361 qb .int ([(.int (0 : Int32)), (.int (0 : Int32))]) := A363
  refine go_dup C X360 321 rfl at_320 rfl ?_
  refine go_iconst C X360 322 rfl at_321 (z := 0) rfl ?_
  refine go_aload C X360 324 rfl at_322 rfl rfl ?_
  refine go_iload C X360 326 rfl at_324 rfl ?_
  refine go_iaload C X360 A365 (by decide) (v := (.int m0)) rfl (pc' := 327) rfl at_326 ?_
  refine go_iastore C X360 A363 (by decide) (by show _ < (2 : Int); decide) ga_qb (pc' := 328) rfl at_327 (fun T367 h369 W370 A371 X368 => ?_)
  have A372 := A364.other W370 ne_sb_qb
  have A373 := A365.other W370 ne_mb_qb
  have E374 := E366.wr W370
  replace A371 : La Z h369 qb .int ([(.int m0), (.int (0 : Int32))]) := A371
  refine go_dup C X368 329 rfl at_328 rfl ?_
  refine go_iconst C X368 330 rfl at_329 (z := 1) rfl ?_
  refine go_aload C X368 332 rfl at_330 rfl rfl ?_
  refine go_iload C X368 334 rfl at_332 rfl ?_
  refine go_iaload C X368 A373 (by decide) (v := (.int m3)) rfl (pc' := 335) rfl at_334 ?_
  refine go_iastore C X368 A371 (by decide) (by show _ < (2 : Int); decide) ga_qb (pc' := 336) rfl at_335 (fun T375 h377 W378 A379 X376 => ?_)
  have A380 := A372.other W378 ne_sb_qb
  have A381 := A373.other W378 ne_mb_qb
  have E382 := E374.wr W378
  replace A379 : La Z h377 qb .int ([(.int m0), (.int m3)]) := A379
  refine go_astore C X376 338 rfl at_336 rfl #[jv pk, sc, iv ff, iv sk, iv pk2, jv st, sc, rv sb, iv kk, iv m0, iv m1, iv m2, iv m3, rv mb, jv (s0.toInt64), sc, jv (s1.toInt64), sc, jv (s2.toInt64), sc, jv (s3.toInt64), sc, iv (2 : Int32), iv rr, rv qb, un, un, iv (2 : Int32), iv (0 : Int32), iv (3 : Int32), un, un, un, un, un, un, un, un, un, un] rfl ?_
  refine go_lload C X376 340 rfl at_338 rfl ?_
  refine go_lload C X376 342 rfl at_340 rfl ?_
  refine go_lmul C X376 343 rfl at_342 ?_
  refine go_lstore C X376 345 rfl at_343 #[jv pk, sc, iv ff, iv sk, iv pk2, jv st, sc, rv sb, iv kk, iv m0, iv m1, iv m2, iv m3, rv mb, jv (s0.toInt64), sc, jv (s1.toInt64), sc, jv (s2.toInt64), sc, jv (s3.toInt64), sc, iv (2 : Int32), iv rr, rv qb, un, un, iv (2 : Int32), iv (0 : Int32), iv (3 : Int32), jv ((s0.toInt64) * (s1.toInt64)), sc, un, un, un, un, un, un, un, un] rfl ?_
  refine go_lload C X376 347 rfl at_345 rfl ?_
  refine go_lload C X376 349 rfl at_347 rfl ?_
  refine go_lmul C X376 350 rfl at_349 ?_
  refine go_lstore C X376 352 rfl at_350 #[jv pk, sc, iv ff, iv sk, iv pk2, jv st, sc, rv sb, iv kk, iv m0, iv m1, iv m2, iv m3, rv mb, jv (s0.toInt64), sc, jv (s1.toInt64), sc, jv (s2.toInt64), sc, jv (s3.toInt64), sc, iv (2 : Int32), iv rr, rv qb, un, un, iv (2 : Int32), iv (0 : Int32), iv (3 : Int32), jv ((s0.toInt64) * (s1.toInt64)), sc, jv ((s0.toInt64) * (s2.toInt64)), sc, un, un, un, un, un, un] rfl ?_
  refine go_lload C X376 354 rfl at_352 rfl ?_
  refine go_lload C X376 356 rfl at_354 rfl ?_
  refine go_lmul C X376 357 rfl at_356 ?_
  refine go_lstore C X376 359 rfl at_357 #[jv pk, sc, iv ff, iv sk, iv pk2, jv st, sc, rv sb, iv kk, iv m0, iv m1, iv m2, iv m3, rv mb, jv (s0.toInt64), sc, jv (s1.toInt64), sc, jv (s2.toInt64), sc, jv (s3.toInt64), sc, iv (2 : Int32), iv rr, rv qb, un, un, iv (2 : Int32), iv (0 : Int32), iv (3 : Int32), jv ((s0.toInt64) * (s1.toInt64)), sc, jv ((s0.toInt64) * (s2.toInt64)), sc, jv ((s0.toInt64) * (s3.toInt64)), sc, un, un, un, un] rfl ?_
  refine go_lload C X376 361 rfl at_359 rfl ?_
  refine go_lload C X376 363 rfl at_361 rfl ?_
  refine go_lmul C X376 364 rfl at_363 ?_
  refine go_lstore C X376 366 rfl at_364 #[jv pk, sc, iv ff, iv sk, iv pk2, jv st, sc, rv sb, iv kk, iv m0, iv m1, iv m2, iv m3, rv mb, jv (s0.toInt64), sc, jv (s1.toInt64), sc, jv (s2.toInt64), sc, jv (s3.toInt64), sc, iv (2 : Int32), iv rr, rv qb, un, un, iv (2 : Int32), iv (0 : Int32), iv (3 : Int32), jv ((s0.toInt64) * (s1.toInt64)), sc, jv ((s0.toInt64) * (s2.toInt64)), sc, jv ((s0.toInt64) * (s3.toInt64)), sc, jv ((s1.toInt64) * (s2.toInt64)), sc, un, un] rfl ?_
  refine go_lload C X376 368 rfl at_366 rfl ?_
  refine go_lload C X376 370 rfl at_368 rfl ?_
  refine go_lmul C X376 371 rfl at_370 ?_
  refine go_lstore C X376 373 rfl at_371 #[jv pk, sc, iv ff, iv sk, iv pk2, jv st, sc, rv sb, iv kk, iv m0, iv m1, iv m2, iv m3, rv mb, jv (s0.toInt64), sc, jv (s1.toInt64), sc, jv (s2.toInt64), sc, jv (s3.toInt64), sc, iv (2 : Int32), iv rr, rv qb, un, un, iv (2 : Int32), iv (0 : Int32), iv (3 : Int32), jv ((s0.toInt64) * (s1.toInt64)), sc, jv ((s0.toInt64) * (s2.toInt64)), sc, jv ((s0.toInt64) * (s3.toInt64)), sc, jv ((s1.toInt64) * (s2.toInt64)), sc, jv ((s1.toInt64) * (s3.toInt64)), sc] rfl ?_
  refine go_iload C X376 375 rfl at_373 rfl ?_
  refine go_if_le C X376 at_375 (pc' := 378) (pc2 := 383) rfl (by decide) (by decide) (fun (c375 : 2 ≤ 0) => False.elim (by first | omega | exact absurd c375 (by decide))) (fun (c375 : 0 < 2) => ?_)
  refine go_lload C X376 380 rfl at_378 rfl ?_
  refine go_goto C X376 at_380 (pc' := 384) (by decide) (by decide) ?_
  refine go_iload C X376 386 rfl at_384 rfl ?_
  refine go_iconst C X376 387 rfl at_386 (z := 1) rfl ?_
  refine go_icmp_le C X376 at_387 (pc' := 390) (pc2 := 395) rfl (by decide) (by decide) (fun (c387 : 2 ≤ 1) => False.elim (by first | omega | exact absurd c387 (by decide))) (fun (c387 : 1 < 2) => ?_)
  refine go_lload C X376 392 rfl at_390 rfl ?_
  refine go_goto C X376 at_392 (pc' := 396) (by decide) (by decide) ?_
  refine go_ladd C X376 397 rfl at_396 ?_
  refine go_iload C X376 399 rfl at_397 rfl ?_
  refine go_iconst C X376 400 rfl at_399 (z := 2) rfl ?_
  refine go_icmp_le C X376 at_400 (pc' := 403) (pc2 := 408) rfl (by decide) (by decide) (fun (c400 : 2 ≤ 2) => ?_) (fun (c400 : 2 < 2) => False.elim (by first | omega | exact absurd c400 (by decide)))
  refine go_lconst C X376 409 rfl at_408 (z := 0) rfl ?_
  refine go_ladd C X376 410 rfl at_409 ?_
  refine go_iload C X376 412 rfl at_410 rfl ?_
  refine go_iconst C X376 413 rfl at_412 (z := 3) rfl ?_
  refine go_icmp_le C X376 at_413 (pc' := 416) (pc2 := 421) rfl (by decide) (by decide) (fun (c413 : 2 ≤ 3) => ?_) (fun (c413 : 3 < 2) => False.elim (by first | omega | exact absurd c413 (by decide)))
  refine go_lconst C X376 422 rfl at_421 (z := 0) rfl ?_
  refine go_ladd C X376 423 rfl at_422 ?_
  refine go_iload C X376 425 rfl at_423 rfl ?_
  refine go_iconst C X376 426 rfl at_425 (z := 4) rfl ?_
  refine go_icmp_le C X376 at_426 (pc' := 429) (pc2 := 434) rfl (by decide) (by decide) (fun (c426 : 2 ≤ 4) => ?_) (fun (c426 : 4 < 2) => False.elim (by first | omega | exact absurd c426 (by decide)))
  refine go_lconst C X376 435 rfl at_434 (z := 0) rfl ?_
  refine go_ladd C X376 436 rfl at_435 ?_
  refine go_lstore C X376 438 rfl at_436 #[jv pk, sc, iv ff, iv sk, iv pk2, jv st, sc, rv sb, iv kk, iv m0, iv m1, iv m2, iv m3, rv mb, jv (s0.toInt64), sc, jv (s1.toInt64), sc, jv (s2.toInt64), sc, jv (s3.toInt64), sc, iv (2 : Int32), iv rr, rv qb, jv ((((((s0.toInt64) * (s1.toInt64)) + ((s0.toInt64) * (s2.toInt64))) + (0 : Int64)) + (0 : Int64)) + (0 : Int64)), sc, iv (2 : Int32), iv (0 : Int32), iv (3 : Int32), jv ((s0.toInt64) * (s1.toInt64)), sc, jv ((s0.toInt64) * (s2.toInt64)), sc, jv ((s0.toInt64) * (s3.toInt64)), sc, jv ((s1.toInt64) * (s2.toInt64)), sc, jv ((s1.toInt64) * (s3.toInt64)), sc] rfl ?_
  refine go_goto C X376 at_438 (pc' := 626) (by decide) (by decide) ?_
  refine go_new C X376 (C.w 7 rfl) (C.w 8 rfl) (C.w 9 rfl) (by decide) (by decide) (pc' := 629) rfl at_626 (fun T383 h385 ps ha_ps ga_ps E386 E387 D388 X384 => ?_)
  have ne_sb_ps : sb ≠ ps := Nat.ne_of_lt (Nat.lt_of_lt_of_le A380.lt (Nat.le_of_eq ha_ps.symm))
  have ne_mb_ps : mb ≠ ps := Nat.ne_of_lt (Nat.lt_of_lt_of_le A381.lt (Nat.le_of_eq ha_ps.symm))
  have ne_qb_ps : qb ≠ ps := Nat.ne_of_lt (Nat.lt_of_lt_of_le A379.lt (Nat.le_of_eq ha_ps.symm))
  have A389 := A380.ext E386
  have A390 := A381.ext E386
  have E391 := E382.ext E386
  have A392 := A379.ext E386
  have F393 : Fld Z h385 ps "com/example/covertide/covertide/engine/ParameterSets" "sizes" "[I" .null := D388 (Or.inr (C.w 17 rfl)) (ty := (.array .int)) (by decide)
  have F394 : Fld Z h385 ps "com/example/covertide/covertide/engine/ParameterSets" "members" "[I" .null := D388 (Or.inr (C.w 28 rfl)) (ty := (.array .int)) (by decide)
  have F395 : Fld Z h385 ps "com/example/covertide/covertide/engine/ParameterSets" "indexOf" "[I" .null := D388 (Or.inr (C.w 30 rfl)) (ty := (.array .int)) (by decide)
  have F396 : Fld Z h385 ps "com/example/covertide/covertide/engine/ParameterSets" "size" "I" (.int (0 : Int32)) := D388 (Or.inr (C.w 36 rfl)) (ty := .int) (by decide)
  have F397 : Fld Z h385 ps "com/example/covertide/covertide/engine/ParameterSets" "start" "J" (.long (0 : Int64)) := D388 (Or.inr (C.w 38 rfl)) (ty := .long) (by decide)
  have F398 : Fld Z h385 ps "com/example/covertide/covertide/engine/ParameterSets" "suffixSums" "[[J" .null := D388 (Or.inr (C.w 50 rfl)) (ty := (.array (.array .long))) (by decide)
  have F399 : Fld Z h385 ps "com/example/covertide/covertide/engine/ParameterSets" "combinations" "J" (.long (0 : Int64)) := D388 (Or.inr (C.w 52 rfl)) (ty := .long) (by decide)
  refine go_dup C X384 630 rfl at_629 rfl ?_
  refine go_aload C X384 632 rfl at_630 rfl rfl ?_
  refine go_aload C X384 634 rfl at_632 rfl rfl ?_
  refine go_iload C X384 636 rfl at_634 rfl ?_
  refine go_lload C X384 638 rfl at_636 rfl ?_
  have hsz_638 := X384.sz
  have lt_sb_638 := A389.lt
  have lt_mb_638 := A390.lt
  have lt_qb_638 := A392.lt
  have lt_ps_638 := E387.lt
  refine go_special C X384 (C.w 10 rfl) (C.w 11 rfl) (C.w 9 rfl) (C.w 12 rfl) rfl (own_init_2 l Z a0 C.ws ps sb mb st sz m0 m1 m2 m3 s0 s1 s2 s3 h385 n0 X384.old E387 F393 F394 F395 F396 F397 F398 F399 A389 A390 E391 ga_ps (Ne.symm ne_sb_ps) (Ne.symm ne_mb_ps) hl b0 z0 b1 z1 b2 z2 b3 z3) (argsL := [(.ref sb), (.ref mb), (.int (2 : Int32)), (.long st)]) (rest := [(.ref ps)]) (lenOf pd_4 rfl) rfl (by decide) (by decide) (Nat.le_of_ble_eq_true rfl) (by decide) (by decide) rfl rfl (pc' := 641) rfl at_638 ?_
  rintro T400 h402 _ ⟨rfl, xb, ob, r0, r1, r2, K6, E6, Fs, Fx, Ft, Fu, sx6, so6, sz6r0, sz6r1, sz6r2, Ax6, Ao6, A6r0, A6r1, A6r2⟩ X401
  show Go p e below _ (T400.setTop (mkF m 641 #[jv pk, sc, iv ff, iv sk, iv pk2, jv st, sc, rv sb, iv kk, iv m0, iv m1, iv m2, iv m3, rv mb, jv (s0.toInt64), sc, jv (s1.toInt64), sc, jv (s2.toInt64), sc, jv (s3.toInt64), sc, iv (2 : Int32), iv rr, rv qb, jv ((((((s0.toInt64) * (s1.toInt64)) + ((s0.toInt64) * (s2.toInt64))) + (0 : Int64)) + (0 : Int64)) + (0 : Int64)), sc, iv (2 : Int32), iv (0 : Int32), iv (3 : Int32), jv ((s0.toInt64) * (s1.toInt64)), sc, jv ((s0.toInt64) * (s2.toInt64)), sc, jv ((s0.toInt64) * (s3.toInt64)), sc, jv ((s1.toInt64) * (s2.toInt64)), sc, jv ((s1.toInt64) * (s3.toInt64)), sc] [(.ref ps)]))
  have ne_sb_xb : sb ≠ xb := Nat.ne_of_lt (Nat.lt_of_lt_of_le lt_sb_638 sx6)
  have ne_mb_xb : mb ≠ xb := Nat.ne_of_lt (Nat.lt_of_lt_of_le lt_mb_638 sx6)
  have ne_qb_xb : qb ≠ xb := Nat.ne_of_lt (Nat.lt_of_lt_of_le lt_qb_638 sx6)
  have ne_ps_xb : ps ≠ xb := Nat.ne_of_lt (Nat.lt_of_lt_of_le lt_ps_638 sx6)
  have ga_xb : n0 ≤ xb := Nat.le_trans hsz_638 sx6
  have ne_sb_ob : sb ≠ ob := Nat.ne_of_lt (Nat.lt_of_lt_of_le lt_sb_638 so6)
  have ne_mb_ob : mb ≠ ob := Nat.ne_of_lt (Nat.lt_of_lt_of_le lt_mb_638 so6)
  have ne_qb_ob : qb ≠ ob := Nat.ne_of_lt (Nat.lt_of_lt_of_le lt_qb_638 so6)
  have ne_ps_ob : ps ≠ ob := Nat.ne_of_lt (Nat.lt_of_lt_of_le lt_ps_638 so6)
  have ga_ob : n0 ≤ ob := Nat.le_trans hsz_638 so6
  have ne_sb_r0 : sb ≠ r0 := Nat.ne_of_lt (Nat.lt_of_lt_of_le lt_sb_638 sz6r0)
  have ne_mb_r0 : mb ≠ r0 := Nat.ne_of_lt (Nat.lt_of_lt_of_le lt_mb_638 sz6r0)
  have ne_qb_r0 : qb ≠ r0 := Nat.ne_of_lt (Nat.lt_of_lt_of_le lt_qb_638 sz6r0)
  have ne_ps_r0 : ps ≠ r0 := Nat.ne_of_lt (Nat.lt_of_lt_of_le lt_ps_638 sz6r0)
  have ga_r0 : n0 ≤ r0 := Nat.le_trans hsz_638 sz6r0
  have ne_sb_r1 : sb ≠ r1 := Nat.ne_of_lt (Nat.lt_of_lt_of_le lt_sb_638 sz6r1)
  have ne_mb_r1 : mb ≠ r1 := Nat.ne_of_lt (Nat.lt_of_lt_of_le lt_mb_638 sz6r1)
  have ne_qb_r1 : qb ≠ r1 := Nat.ne_of_lt (Nat.lt_of_lt_of_le lt_qb_638 sz6r1)
  have ne_ps_r1 : ps ≠ r1 := Nat.ne_of_lt (Nat.lt_of_lt_of_le lt_ps_638 sz6r1)
  have ga_r1 : n0 ≤ r1 := Nat.le_trans hsz_638 sz6r1
  have ne_sb_r2 : sb ≠ r2 := Nat.ne_of_lt (Nat.lt_of_lt_of_le lt_sb_638 sz6r2)
  have ne_mb_r2 : mb ≠ r2 := Nat.ne_of_lt (Nat.lt_of_lt_of_le lt_mb_638 sz6r2)
  have ne_qb_r2 : qb ≠ r2 := Nat.ne_of_lt (Nat.lt_of_lt_of_le lt_qb_638 sz6r2)
  have ne_ps_r2 : ps ≠ r2 := Nat.ne_of_lt (Nat.lt_of_lt_of_le lt_ps_638 sz6r2)
  have ga_r2 : n0 ≤ r2 := Nat.le_trans hsz_638 sz6r2
  have A403 := A389.keep K6 (ninS ne_sb_ps nin0)
  have A404 := A390.keep K6 (ninS ne_mb_ps nin0)
  have E405 := E391.keep K6
  have A406 := A392.keep K6 (ninS ne_qb_ps nin0)
  have E407 := E387.keep K6
  have xl : ((put32 (put32 (put32 (put32 [-1, -1, -1, -1, -1] m0 0) m1 1) m2 2) m3 3)).length = 5 := by simp [put32_len]
  have x0 : at32 (put32 (put32 (put32 (put32 [-1, -1, -1, -1, -1] m0 0) m1 1) m2 2) m3 3) m0 = 0 := by rw [own_put_miss b3.1 b0.1 (fun q => d03 q.symm)]; rw [own_put_miss b2.1 b0.1 (fun q => d02 q.symm)]; rw [own_put_miss b1.1 b0.1 (fun q => d01 q.symm)]; exact own_put_hit b0.1 (by simpa [put32_len] using b0.2)
  have x1 : at32 (put32 (put32 (put32 (put32 [-1, -1, -1, -1, -1] m0 0) m1 1) m2 2) m3 3) m1 = 1 := by rw [own_put_miss b3.1 b1.1 (fun q => d13 q.symm)]; rw [own_put_miss b2.1 b1.1 (fun q => d12 q.symm)]; exact own_put_hit b1.1 (by simpa [put32_len] using b1.2)
  have x2 : at32 (put32 (put32 (put32 (put32 [-1, -1, -1, -1, -1] m0 0) m1 1) m2 2) m3 3) m2 = 2 := by rw [own_put_miss b3.1 b2.1 (fun q => d23 q.symm)]; exact own_put_hit b2.1 (by simpa [put32_len] using b2.2)
  have x3 : at32 (put32 (put32 (put32 (put32 [-1, -1, -1, -1, -1] m0 0) m1 1) m2 2) m3 3) m3 = 3 := by exact own_put_hit b3.1 (by simpa [put32_len] using b3.2)
  generalize (put32 (put32 (put32 (put32 [-1, -1, -1, -1, -1] m0 0) m1 1) m2 2) m3 3) = ix at *
  refine go_astore C X401 643 rfl at_641 rfl #[jv pk, sc, iv ff, iv sk, iv pk2, jv st, sc, rv sb, iv kk, iv m0, iv m1, iv m2, iv m3, rv mb, jv (s0.toInt64), sc, jv (s1.toInt64), sc, jv (s2.toInt64), sc, jv (s3.toInt64), sc, iv (2 : Int32), iv rr, rv qb, jv ((((((s0.toInt64) * (s1.toInt64)) + ((s0.toInt64) * (s2.toInt64))) + (0 : Int64)) + (0 : Int64)) + (0 : Int64)), sc, rv ps, iv (0 : Int32), iv (3 : Int32), jv ((s0.toInt64) * (s1.toInt64)), sc, jv ((s0.toInt64) * (s2.toInt64)), sc, jv ((s0.toInt64) * (s3.toInt64)), sc, jv ((s1.toInt64) * (s2.toInt64)), sc, jv ((s1.toInt64) * (s3.toInt64)), sc] rfl ?_
  refine go_aload C X401 645 rfl at_643 rfl rfl ?_
  refine go_aload C X401 647 rfl at_645 rfl rfl ?_
  refine go_virtual C X401 E6 (C.w 53 rfl) (C.w 54 rfl) (notFace_of_selects (args := #[]) (mvT C.hZ (C.w 56 rfl))) (C.w 56 rfl) (C.w 55 rfl) (C.w 9 rfl) (C.w 57 rfl) (own_bit_2_2 l Z a0 C.ws ps qb sb xb ob r0 r1 r2 sz ix m0 m1 m2 m3 s0 s1 s2 s3 st _ _ _ _ _ _ _ _ _ _ _ _ _ _ _ h402 n0 X401.old Fs Fx Ft Fu A403 Ax6 Ao6 A6r0 A6r1 A6r2 A406 hl xl b0 z0 b1 z1 b2 z2 b3 z3 x0 x1 x2 x3) (argsL := [(.ref qb)]) (rest := []) (lenOf pd_5 rfl) rfl (by decide) (by decide) (Nat.le_of_ble_eq_true rfl) (by decide) (by decide) rfl rfl (pc' := 650) rfl at_647 ?_
  rintro T408 _ _ ⟨rfl, rfl⟩ X409
  show Go p e below _ (T408.setTop (mkF m 650 #[jv pk, sc, iv ff, iv sk, iv pk2, jv st, sc, rv sb, iv kk, iv m0, iv m1, iv m2, iv m3, rv mb, jv (s0.toInt64), sc, jv (s1.toInt64), sc, jv (s2.toInt64), sc, jv (s3.toInt64), sc, iv (2 : Int32), iv rr, rv qb, jv ((((((s0.toInt64) * (s1.toInt64)) + ((s0.toInt64) * (s2.toInt64))) + (0 : Int64)) + (0 : Int64)) + (0 : Int64)), sc, rv ps, iv (0 : Int32), iv (3 : Int32), jv ((s0.toInt64) * (s1.toInt64)), sc, jv ((s0.toInt64) * (s2.toInt64)), sc, jv ((s0.toInt64) * (s3.toInt64)), sc, jv ((s1.toInt64) * (s2.toInt64)), sc, jv ((s1.toInt64) * (s3.toInt64)), sc] [(.long (st + (((0 : Int64) + ((1 : Int64) * ((((((0 : Int64) + (s3.toInt64 * (0 : Int64))) + (s2.toInt64 * ((0 : Int64) + (s3.toInt64 * (1 : Int64))))) + (s1.toInt64 * (((0 : Int64) + (s3.toInt64 * (1 : Int64))) + (s2.toInt64 * (1 : Int64))))) + (s0.toInt64 * ((((0 : Int64) + (s3.toInt64 * (1 : Int64))) + (s2.toInt64 * (1 : Int64))) + (s1.toInt64 * (1 : Int64))))) - (((((0 : Int64) + (s3.toInt64 * (0 : Int64))) + (s2.toInt64 * ((0 : Int64) + (s3.toInt64 * (1 : Int64))))) + (s1.toInt64 * (((0 : Int64) + (s3.toInt64 * (1 : Int64))) + (s2.toInt64 * (1 : Int64))))) + (s0.toInt64 * ((((0 : Int64) + (s3.toInt64 * (1 : Int64))) + (s2.toInt64 * (1 : Int64))) + (s1.toInt64 * (1 : Int64)))))))) + (((1 : Int64) * s0.toInt64) * (((((0 : Int64) + (s3.toInt64 * (1 : Int64))) + (s2.toInt64 * (1 : Int64))) + (s1.toInt64 * (1 : Int64))) - ((0 : Int64) + (s3.toInt64 * (1 : Int64))))))))]))
  refine go_lload C X409 652 rfl at_650 rfl ?_
  refine go_lload C X409 654 rfl at_652 rfl ?_
  refine go_ladd C X409 655 rfl at_654 ?_
  refine go_lif_ne C X409 (pc1 := 656) rfl at_655 at_656 (pc' := 659) (pc2 := 663) rfl (by decide) (by decide) (fun c656 => False.elim (c656 (own_id_2_2 s0 s1 s2 s3 st))) (fun _ => ?_)
  refine go_iconst C X409 660 rfl at_659 (z := 1) rfl ?_
  refine go_goto C X409 at_660 (pc' := 664) (by decide) (by decide) ?_
  exact go_retN C X409 (by simp) (z' := 1) rfl at_664 rfl (by decide) (by decide)
set_option maxRecDepth 65536 in
set_option maxHeartbeats 40000000 in
theorem own_arm_2_3 {p : Program} {l : Launch} {e : Env} {s : State} {m : MethodId} {below : List Frame} {meth : Method} {c : Code} {Z : State} {a0 : Array Value} {n0 : Nat} {pk : Int64} {ff : Int32} {sk : Int32} {pk2 : Int32} {st : Int64} {sb : Addr} {mb : Addr} {sz : List Int32} {kk : Int32} {rr : Int32} {m0 : Int32} {s0 : Int32} {m1 : Int32} {s1 : Int32} {m2 : Int32} {s2 : Int32} {m3 : Int32} {s3 : Int32} (C : Cx p s m meth c Z a0 x.cls code maxLocals ret x.name) {T72 : State} {h74 : Heap} (X73 : St Z p l e room_1 s m #[(.long pk), (.int ff), (.int sk), (.int pk2), (.long st)] below meth c n0 T72 h74 (0 + 1 + 1) (0 + 5 + 4)) (A77 : La Z h74 sb .int (ia sz)) (A76 : La Z h74 mb .int ([(.int m0), (.int m1), (.int m2), (.int m3)])) (E78 : Exa Z h74 mb "[I") (ne_sb_mb : sb ≠ mb) (ga_sb : n0 ≤ sb) (ga_mb : n0 ≤ mb) (hl : sz.length = 5) (b0 : 0 ≤ m0.toInt ∧ m0.toInt < (5 : Nat)) (b1 : 0 ≤ m1.toInt ∧ m1.toInt < (5 : Nat)) (b2 : 0 ≤ m2.toInt ∧ m2.toInt < (5 : Nat)) (b3 : 0 ≤ m3.toInt ∧ m3.toInt < (5 : Nat)) (z0 : at32 sz m0 = s0) (z1 : at32 sz m1 = s1) (z2 : at32 sz m2 = s2) (z3 : at32 sz m3 = s3) (d01 : ¬ m0.toInt = m1.toInt) (d02 : ¬ m0.toInt = m2.toInt) (d03 : ¬ m0.toInt = m3.toInt) (d12 : ¬ m1.toInt = m2.toInt) (d13 : ¬ m1.toInt = m3.toInt) (d23 : ¬ m2.toInt = m3.toInt) : Go p e below (FinQ s room_1.cells room_1.slots n0 (fun v h' => v = some (.int 1))) (T72.setTop (mkF m 265 #[jv pk, sc, iv ff, iv sk, iv pk2, jv st, sc, rv sb, iv kk, iv m0, iv m1, iv m2, iv m3, rv mb, jv (s0.toInt64), sc, jv (s1.toInt64), sc, jv (s2.toInt64), sc, jv (s3.toInt64), sc, iv (2 : Int32), iv rr, un, un, un, iv (3 : Int32), un, un, un, un, un, un, un, un, un, un, un, un] [])) := by
  refine go_iload C X73 267 rfl at_265 rfl ?_
  refine go_iconst C X73 268 rfl at_267 (z := 3) rfl ?_
  refine go_icmp_ge C X73 at_268 (pc' := 271) (pc2 := 275) rfl (by decide) (by decide) (fun (c268 : 3 ≤ 3) => ?_) (fun (c268 : 3 < 3) => False.elim (by first | omega | exact absurd c268 (by decide)))
  refine go_iload C X73 277 rfl at_275 rfl ?_
  refine go_iconst C X73 278 rfl at_277 (z := 5) rfl ?_
  refine go_icmp_ge C X73 at_278 (pc' := 281) (pc2 := 285) rfl (by decide) (by decide) (fun (c278 : 5 ≤ 3) => False.elim (by first | omega | exact absurd c278 (by decide))) (fun (c278 : 3 < 5) => ?_)
  refine go_iconst C X73 282 rfl at_281 (z := 1) rfl ?_
  refine go_goto C X73 at_282 (pc' := 286) (by decide) (by decide) ?_
  refine go_istore C X73 288 rfl at_286 #[jv pk, sc, iv ff, iv sk, iv pk2, jv st, sc, rv sb, iv kk, iv m0, iv m1, iv m2, iv m3, rv mb, jv (s0.toInt64), sc, jv (s1.toInt64), sc, jv (s2.toInt64), sc, jv (s3.toInt64), sc, iv (2 : Int32), iv rr, un, un, un, iv (3 : Int32), iv (1 : Int32), un, un, un, un, un, un, un, un, un, un, un] rfl ?_
  refine go_iload C X73 290 rfl at_288 rfl ?_
  refine go_iconst C X73 291 rfl at_290 (z := 3) rfl ?_
  refine go_icmp_ge C X73 at_291 (pc' := 294) (pc2 := 301) rfl (by decide) (by decide) (fun (c291 : 3 ≤ 3) => ?_) (fun (c291 : 3 < 3) => False.elim (by first | omega | exact absurd c291 (by decide)))
  refine go_iload C X73 303 rfl at_301 rfl ?_
  refine go_iconst C X73 304 rfl at_303 (z := 5) rfl ?_
  refine go_icmp_ge C X73 at_304 (pc' := 307) (pc2 := 314) rfl (by decide) (by decide) (fun (c304 : 5 ≤ 3) => False.elim (by first | omega | exact absurd c304 (by decide))) (fun (c304 : 3 < 5) => ?_)
  refine go_iload C X73 309 rfl at_307 rfl ?_
  refine go_iconst C X73 310 rfl at_309 (z := 1) rfl ?_
  refine go_isubL C X73 311 rfl at_310 (z := (2)) rfl ?_
  refine go_goto C X73 at_311 (pc' := 315) (by decide) (by decide) ?_
  refine go_istore C X73 317 rfl at_315 #[jv pk, sc, iv ff, iv sk, iv pk2, jv st, sc, rv sb, iv kk, iv m0, iv m1, iv m2, iv m3, rv mb, jv (s0.toInt64), sc, jv (s1.toInt64), sc, jv (s2.toInt64), sc, jv (s3.toInt64), sc, iv (2 : Int32), iv rr, un, un, un, iv (3 : Int32), iv (1 : Int32), iv (2 : Int32), un, un, un, un, un, un, un, un, un, un] rfl ?_
  refine go_iconst C X73 318 rfl at_317 (z := 2) rfl ?_
  refine go_newarr C X73 (C.w 0 rfl) (cap := 2) (by decide) (by decide) (by decide) (by decide) (by decide) (pc' := 320) rfl at_318 (fun T411 h413 qb ha_qb ga_qb E414 A415  X412 => ?_)
  have ne_sb_qb : sb ≠ qb := Nat.ne_of_lt (Nat.lt_of_lt_of_le A77.lt (Nat.le_of_eq ha_qb.symm))
  have ne_mb_qb : mb ≠ qb := Nat.ne_of_lt (Nat.lt_of_lt_of_le A76.lt (Nat.le_of_eq ha_qb.symm))
  have A416 := A77.ext E414
  have A417 := A76.ext E414
  have E418 := E78.ext E414
  replace A415 : La Z h413 qb .int ([(.int (0 : Int32)), (.int (0 : Int32))]) := A415
  refine go_dup C X412 321 rfl at_320 rfl ?_
  refine go_iconst C X412 322 rfl at_321 (z := 0) rfl ?_
  refine go_aload C X412 324 rfl at_322 rfl rfl ?_
  refine go_iload C X412 326 rfl at_324 rfl ?_
  refine go_iaload C X412 A417 (by decide) (v := (.int m1)) rfl (pc' := 327) rfl at_326 ?_
  refine go_iastore C X412 A415 (by decide) (by show _ < (2 : Int); decide) ga_qb (pc' := 328) rfl at_327 (fun T419 h421 W422 A423 X420 => ?_)
  have A424 := A416.other W422 ne_sb_qb
  have A425 := A417.other W422 ne_mb_qb
  have E426 := E418.wr W422
  replace A423 : La Z h421 qb .int ([(.int m1), (.int (0 : Int32))]) := A423
  refine go_dup C X420 329 rfl at_328 rfl ?_
  refine go_iconst C X420 330 rfl at_329 (z := 1) rfl ?_
  refine go_aload C X420 332 rfl at_330 rfl rfl ?_
  refine go_iload C X420 334 rfl at_332 rfl ?_
  refine go_iaload C X420 A425 (by decide) (v := (.int m2)) rfl (pc' := 335) rfl at_334 ?_
  refine go_iastore C X420 A423 (by decide) (by show _ < (2 : Int); decide) ga_qb (pc' := 336) rfl at_335 (fun T427 h429 W430 A431 X428 => ?_)
  have A432 := A424.other W430 ne_sb_qb
  have A433 := A425.other W430 ne_mb_qb
  have E434 := E426.wr W430
  replace A431 : La Z h429 qb .int ([(.int m1), (.int m2)]) := A431
  refine go_astore C X428 338 rfl at_336 rfl #[jv pk, sc, iv ff, iv sk, iv pk2, jv st, sc, rv sb, iv kk, iv m0, iv m1, iv m2, iv m3, rv mb, jv (s0.toInt64), sc, jv (s1.toInt64), sc, jv (s2.toInt64), sc, jv (s3.toInt64), sc, iv (2 : Int32), iv rr, rv qb, un, un, iv (3 : Int32), iv (1 : Int32), iv (2 : Int32), un, un, un, un, un, un, un, un, un, un] rfl ?_
  refine go_lload C X428 340 rfl at_338 rfl ?_
  refine go_lload C X428 342 rfl at_340 rfl ?_
  refine go_lmul C X428 343 rfl at_342 ?_
  refine go_lstore C X428 345 rfl at_343 #[jv pk, sc, iv ff, iv sk, iv pk2, jv st, sc, rv sb, iv kk, iv m0, iv m1, iv m2, iv m3, rv mb, jv (s0.toInt64), sc, jv (s1.toInt64), sc, jv (s2.toInt64), sc, jv (s3.toInt64), sc, iv (2 : Int32), iv rr, rv qb, un, un, iv (3 : Int32), iv (1 : Int32), iv (2 : Int32), jv ((s0.toInt64) * (s1.toInt64)), sc, un, un, un, un, un, un, un, un] rfl ?_
  refine go_lload C X428 347 rfl at_345 rfl ?_
  refine go_lload C X428 349 rfl at_347 rfl ?_
  refine go_lmul C X428 350 rfl at_349 ?_
  refine go_lstore C X428 352 rfl at_350 #[jv pk, sc, iv ff, iv sk, iv pk2, jv st, sc, rv sb, iv kk, iv m0, iv m1, iv m2, iv m3, rv mb, jv (s0.toInt64), sc, jv (s1.toInt64), sc, jv (s2.toInt64), sc, jv (s3.toInt64), sc, iv (2 : Int32), iv rr, rv qb, un, un, iv (3 : Int32), iv (1 : Int32), iv (2 : Int32), jv ((s0.toInt64) * (s1.toInt64)), sc, jv ((s0.toInt64) * (s2.toInt64)), sc, un, un, un, un, un, un] rfl ?_
  refine go_lload C X428 354 rfl at_352 rfl ?_
  refine go_lload C X428 356 rfl at_354 rfl ?_
  refine go_lmul C X428 357 rfl at_356 ?_
  refine go_lstore C X428 359 rfl at_357 #[jv pk, sc, iv ff, iv sk, iv pk2, jv st, sc, rv sb, iv kk, iv m0, iv m1, iv m2, iv m3, rv mb, jv (s0.toInt64), sc, jv (s1.toInt64), sc, jv (s2.toInt64), sc, jv (s3.toInt64), sc, iv (2 : Int32), iv rr, rv qb, un, un, iv (3 : Int32), iv (1 : Int32), iv (2 : Int32), jv ((s0.toInt64) * (s1.toInt64)), sc, jv ((s0.toInt64) * (s2.toInt64)), sc, jv ((s0.toInt64) * (s3.toInt64)), sc, un, un, un, un] rfl ?_
  refine go_lload C X428 361 rfl at_359 rfl ?_
  refine go_lload C X428 363 rfl at_361 rfl ?_
  refine go_lmul C X428 364 rfl at_363 ?_
  refine go_lstore C X428 366 rfl at_364 #[jv pk, sc, iv ff, iv sk, iv pk2, jv st, sc, rv sb, iv kk, iv m0, iv m1, iv m2, iv m3, rv mb, jv (s0.toInt64), sc, jv (s1.toInt64), sc, jv (s2.toInt64), sc, jv (s3.toInt64), sc, iv (2 : Int32), iv rr, rv qb, un, un, iv (3 : Int32), iv (1 : Int32), iv (2 : Int32), jv ((s0.toInt64) * (s1.toInt64)), sc, jv ((s0.toInt64) * (s2.toInt64)), sc, jv ((s0.toInt64) * (s3.toInt64)), sc, jv ((s1.toInt64) * (s2.toInt64)), sc, un, un] rfl ?_
  refine go_lload C X428 368 rfl at_366 rfl ?_
  refine go_lload C X428 370 rfl at_368 rfl ?_
  refine go_lmul C X428 371 rfl at_370 ?_
  refine go_lstore C X428 373 rfl at_371 #[jv pk, sc, iv ff, iv sk, iv pk2, jv st, sc, rv sb, iv kk, iv m0, iv m1, iv m2, iv m3, rv mb, jv (s0.toInt64), sc, jv (s1.toInt64), sc, jv (s2.toInt64), sc, jv (s3.toInt64), sc, iv (2 : Int32), iv rr, rv qb, un, un, iv (3 : Int32), iv (1 : Int32), iv (2 : Int32), jv ((s0.toInt64) * (s1.toInt64)), sc, jv ((s0.toInt64) * (s2.toInt64)), sc, jv ((s0.toInt64) * (s3.toInt64)), sc, jv ((s1.toInt64) * (s2.toInt64)), sc, jv ((s1.toInt64) * (s3.toInt64)), sc] rfl ?_
  refine go_iload C X428 375 rfl at_373 rfl ?_
  refine go_if_le C X428 at_375 (pc' := 378) (pc2 := 383) rfl (by decide) (by decide) (fun (c375 : 3 ≤ 0) => False.elim (by first | omega | exact absurd c375 (by decide))) (fun (c375 : 0 < 3) => ?_)
  refine go_lload C X428 380 rfl at_378 rfl ?_
  refine go_goto C X428 at_380 (pc' := 384) (by decide) (by decide) ?_
  refine go_iload C X428 386 rfl at_384 rfl ?_
  refine go_iconst C X428 387 rfl at_386 (z := 1) rfl ?_
  refine go_icmp_le C X428 at_387 (pc' := 390) (pc2 := 395) rfl (by decide) (by decide) (fun (c387 : 3 ≤ 1) => False.elim (by first | omega | exact absurd c387 (by decide))) (fun (c387 : 1 < 3) => ?_)
  refine go_lload C X428 392 rfl at_390 rfl ?_
  refine go_goto C X428 at_392 (pc' := 396) (by decide) (by decide) ?_
  refine go_ladd C X428 397 rfl at_396 ?_
  refine go_iload C X428 399 rfl at_397 rfl ?_
  refine go_iconst C X428 400 rfl at_399 (z := 2) rfl ?_
  refine go_icmp_le C X428 at_400 (pc' := 403) (pc2 := 408) rfl (by decide) (by decide) (fun (c400 : 3 ≤ 2) => False.elim (by first | omega | exact absurd c400 (by decide))) (fun (c400 : 2 < 3) => ?_)
  refine go_lload C X428 405 rfl at_403 rfl ?_
  refine go_goto C X428 at_405 (pc' := 409) (by decide) (by decide) ?_
  refine go_ladd C X428 410 rfl at_409 ?_
  refine go_iload C X428 412 rfl at_410 rfl ?_
  refine go_iconst C X428 413 rfl at_412 (z := 3) rfl ?_
  refine go_icmp_le C X428 at_413 (pc' := 416) (pc2 := 421) rfl (by decide) (by decide) (fun (c413 : 3 ≤ 3) => ?_) (fun (c413 : 3 < 3) => False.elim (by first | omega | exact absurd c413 (by decide)))
  refine go_lconst C X428 422 rfl at_421 (z := 0) rfl ?_
  refine go_ladd C X428 423 rfl at_422 ?_
  refine go_iload C X428 425 rfl at_423 rfl ?_
  refine go_iconst C X428 426 rfl at_425 (z := 4) rfl ?_
  refine go_icmp_le C X428 at_426 (pc' := 429) (pc2 := 434) rfl (by decide) (by decide) (fun (c426 : 3 ≤ 4) => ?_) (fun (c426 : 4 < 3) => False.elim (by first | omega | exact absurd c426 (by decide)))
  refine go_lconst C X428 435 rfl at_434 (z := 0) rfl ?_
  refine go_ladd C X428 436 rfl at_435 ?_
  refine go_lstore C X428 438 rfl at_436 #[jv pk, sc, iv ff, iv sk, iv pk2, jv st, sc, rv sb, iv kk, iv m0, iv m1, iv m2, iv m3, rv mb, jv (s0.toInt64), sc, jv (s1.toInt64), sc, jv (s2.toInt64), sc, jv (s3.toInt64), sc, iv (2 : Int32), iv rr, rv qb, jv ((((((s0.toInt64) * (s1.toInt64)) + ((s0.toInt64) * (s2.toInt64))) + ((s0.toInt64) * (s3.toInt64))) + (0 : Int64)) + (0 : Int64)), sc, iv (3 : Int32), iv (1 : Int32), iv (2 : Int32), jv ((s0.toInt64) * (s1.toInt64)), sc, jv ((s0.toInt64) * (s2.toInt64)), sc, jv ((s0.toInt64) * (s3.toInt64)), sc, jv ((s1.toInt64) * (s2.toInt64)), sc, jv ((s1.toInt64) * (s3.toInt64)), sc] rfl ?_
  refine go_goto C X428 at_438 (pc' := 626) (by decide) (by decide) ?_
  refine go_new C X428 (C.w 7 rfl) (C.w 8 rfl) (C.w 9 rfl) (by decide) (by decide) (pc' := 629) rfl at_626 (fun T435 h437 ps ha_ps ga_ps E438 E439 D440 X436 => ?_)
  have ne_sb_ps : sb ≠ ps := Nat.ne_of_lt (Nat.lt_of_lt_of_le A432.lt (Nat.le_of_eq ha_ps.symm))
  have ne_mb_ps : mb ≠ ps := Nat.ne_of_lt (Nat.lt_of_lt_of_le A433.lt (Nat.le_of_eq ha_ps.symm))
  have ne_qb_ps : qb ≠ ps := Nat.ne_of_lt (Nat.lt_of_lt_of_le A431.lt (Nat.le_of_eq ha_ps.symm))
  have A441 := A432.ext E438
  have A442 := A433.ext E438
  have E443 := E434.ext E438
  have A444 := A431.ext E438
  have F445 : Fld Z h437 ps "com/example/covertide/covertide/engine/ParameterSets" "sizes" "[I" .null := D440 (Or.inr (C.w 17 rfl)) (ty := (.array .int)) (by decide)
  have F446 : Fld Z h437 ps "com/example/covertide/covertide/engine/ParameterSets" "members" "[I" .null := D440 (Or.inr (C.w 28 rfl)) (ty := (.array .int)) (by decide)
  have F447 : Fld Z h437 ps "com/example/covertide/covertide/engine/ParameterSets" "indexOf" "[I" .null := D440 (Or.inr (C.w 30 rfl)) (ty := (.array .int)) (by decide)
  have F448 : Fld Z h437 ps "com/example/covertide/covertide/engine/ParameterSets" "size" "I" (.int (0 : Int32)) := D440 (Or.inr (C.w 36 rfl)) (ty := .int) (by decide)
  have F449 : Fld Z h437 ps "com/example/covertide/covertide/engine/ParameterSets" "start" "J" (.long (0 : Int64)) := D440 (Or.inr (C.w 38 rfl)) (ty := .long) (by decide)
  have F450 : Fld Z h437 ps "com/example/covertide/covertide/engine/ParameterSets" "suffixSums" "[[J" .null := D440 (Or.inr (C.w 50 rfl)) (ty := (.array (.array .long))) (by decide)
  have F451 : Fld Z h437 ps "com/example/covertide/covertide/engine/ParameterSets" "combinations" "J" (.long (0 : Int64)) := D440 (Or.inr (C.w 52 rfl)) (ty := .long) (by decide)
  refine go_dup C X436 630 rfl at_629 rfl ?_
  refine go_aload C X436 632 rfl at_630 rfl rfl ?_
  refine go_aload C X436 634 rfl at_632 rfl rfl ?_
  refine go_iload C X436 636 rfl at_634 rfl ?_
  refine go_lload C X436 638 rfl at_636 rfl ?_
  have hsz_638 := X436.sz
  have lt_sb_638 := A441.lt
  have lt_mb_638 := A442.lt
  have lt_qb_638 := A444.lt
  have lt_ps_638 := E439.lt
  refine go_special C X436 (C.w 10 rfl) (C.w 11 rfl) (C.w 9 rfl) (C.w 12 rfl) rfl (own_init_2 l Z a0 C.ws ps sb mb st sz m0 m1 m2 m3 s0 s1 s2 s3 h437 n0 X436.old E439 F445 F446 F447 F448 F449 F450 F451 A441 A442 E443 ga_ps (Ne.symm ne_sb_ps) (Ne.symm ne_mb_ps) hl b0 z0 b1 z1 b2 z2 b3 z3) (argsL := [(.ref sb), (.ref mb), (.int (2 : Int32)), (.long st)]) (rest := [(.ref ps)]) (lenOf pd_4 rfl) rfl (by decide) (by decide) (Nat.le_of_ble_eq_true rfl) (by decide) (by decide) rfl rfl (pc' := 641) rfl at_638 ?_
  rintro T452 h454 _ ⟨rfl, xb, ob, r0, r1, r2, K6, E6, Fs, Fx, Ft, Fu, sx6, so6, sz6r0, sz6r1, sz6r2, Ax6, Ao6, A6r0, A6r1, A6r2⟩ X453
  show Go p e below _ (T452.setTop (mkF m 641 #[jv pk, sc, iv ff, iv sk, iv pk2, jv st, sc, rv sb, iv kk, iv m0, iv m1, iv m2, iv m3, rv mb, jv (s0.toInt64), sc, jv (s1.toInt64), sc, jv (s2.toInt64), sc, jv (s3.toInt64), sc, iv (2 : Int32), iv rr, rv qb, jv ((((((s0.toInt64) * (s1.toInt64)) + ((s0.toInt64) * (s2.toInt64))) + ((s0.toInt64) * (s3.toInt64))) + (0 : Int64)) + (0 : Int64)), sc, iv (3 : Int32), iv (1 : Int32), iv (2 : Int32), jv ((s0.toInt64) * (s1.toInt64)), sc, jv ((s0.toInt64) * (s2.toInt64)), sc, jv ((s0.toInt64) * (s3.toInt64)), sc, jv ((s1.toInt64) * (s2.toInt64)), sc, jv ((s1.toInt64) * (s3.toInt64)), sc] [(.ref ps)]))
  have ne_sb_xb : sb ≠ xb := Nat.ne_of_lt (Nat.lt_of_lt_of_le lt_sb_638 sx6)
  have ne_mb_xb : mb ≠ xb := Nat.ne_of_lt (Nat.lt_of_lt_of_le lt_mb_638 sx6)
  have ne_qb_xb : qb ≠ xb := Nat.ne_of_lt (Nat.lt_of_lt_of_le lt_qb_638 sx6)
  have ne_ps_xb : ps ≠ xb := Nat.ne_of_lt (Nat.lt_of_lt_of_le lt_ps_638 sx6)
  have ga_xb : n0 ≤ xb := Nat.le_trans hsz_638 sx6
  have ne_sb_ob : sb ≠ ob := Nat.ne_of_lt (Nat.lt_of_lt_of_le lt_sb_638 so6)
  have ne_mb_ob : mb ≠ ob := Nat.ne_of_lt (Nat.lt_of_lt_of_le lt_mb_638 so6)
  have ne_qb_ob : qb ≠ ob := Nat.ne_of_lt (Nat.lt_of_lt_of_le lt_qb_638 so6)
  have ne_ps_ob : ps ≠ ob := Nat.ne_of_lt (Nat.lt_of_lt_of_le lt_ps_638 so6)
  have ga_ob : n0 ≤ ob := Nat.le_trans hsz_638 so6
  have ne_sb_r0 : sb ≠ r0 := Nat.ne_of_lt (Nat.lt_of_lt_of_le lt_sb_638 sz6r0)
  have ne_mb_r0 : mb ≠ r0 := Nat.ne_of_lt (Nat.lt_of_lt_of_le lt_mb_638 sz6r0)
  have ne_qb_r0 : qb ≠ r0 := Nat.ne_of_lt (Nat.lt_of_lt_of_le lt_qb_638 sz6r0)
  have ne_ps_r0 : ps ≠ r0 := Nat.ne_of_lt (Nat.lt_of_lt_of_le lt_ps_638 sz6r0)
  have ga_r0 : n0 ≤ r0 := Nat.le_trans hsz_638 sz6r0
  have ne_sb_r1 : sb ≠ r1 := Nat.ne_of_lt (Nat.lt_of_lt_of_le lt_sb_638 sz6r1)
  have ne_mb_r1 : mb ≠ r1 := Nat.ne_of_lt (Nat.lt_of_lt_of_le lt_mb_638 sz6r1)
  have ne_qb_r1 : qb ≠ r1 := Nat.ne_of_lt (Nat.lt_of_lt_of_le lt_qb_638 sz6r1)
  have ne_ps_r1 : ps ≠ r1 := Nat.ne_of_lt (Nat.lt_of_lt_of_le lt_ps_638 sz6r1)
  have ga_r1 : n0 ≤ r1 := Nat.le_trans hsz_638 sz6r1
  have ne_sb_r2 : sb ≠ r2 := Nat.ne_of_lt (Nat.lt_of_lt_of_le lt_sb_638 sz6r2)
  have ne_mb_r2 : mb ≠ r2 := Nat.ne_of_lt (Nat.lt_of_lt_of_le lt_mb_638 sz6r2)
  have ne_qb_r2 : qb ≠ r2 := Nat.ne_of_lt (Nat.lt_of_lt_of_le lt_qb_638 sz6r2)
  have ne_ps_r2 : ps ≠ r2 := Nat.ne_of_lt (Nat.lt_of_lt_of_le lt_ps_638 sz6r2)
  have ga_r2 : n0 ≤ r2 := Nat.le_trans hsz_638 sz6r2
  have A455 := A441.keep K6 (ninS ne_sb_ps nin0)
  have A456 := A442.keep K6 (ninS ne_mb_ps nin0)
  have E457 := E443.keep K6
  have A458 := A444.keep K6 (ninS ne_qb_ps nin0)
  have E459 := E439.keep K6
  have xl : ((put32 (put32 (put32 (put32 [-1, -1, -1, -1, -1] m0 0) m1 1) m2 2) m3 3)).length = 5 := by simp [put32_len]
  have x0 : at32 (put32 (put32 (put32 (put32 [-1, -1, -1, -1, -1] m0 0) m1 1) m2 2) m3 3) m0 = 0 := by rw [own_put_miss b3.1 b0.1 (fun q => d03 q.symm)]; rw [own_put_miss b2.1 b0.1 (fun q => d02 q.symm)]; rw [own_put_miss b1.1 b0.1 (fun q => d01 q.symm)]; exact own_put_hit b0.1 (by simpa [put32_len] using b0.2)
  have x1 : at32 (put32 (put32 (put32 (put32 [-1, -1, -1, -1, -1] m0 0) m1 1) m2 2) m3 3) m1 = 1 := by rw [own_put_miss b3.1 b1.1 (fun q => d13 q.symm)]; rw [own_put_miss b2.1 b1.1 (fun q => d12 q.symm)]; exact own_put_hit b1.1 (by simpa [put32_len] using b1.2)
  have x2 : at32 (put32 (put32 (put32 (put32 [-1, -1, -1, -1, -1] m0 0) m1 1) m2 2) m3 3) m2 = 2 := by rw [own_put_miss b3.1 b2.1 (fun q => d23 q.symm)]; exact own_put_hit b2.1 (by simpa [put32_len] using b2.2)
  have x3 : at32 (put32 (put32 (put32 (put32 [-1, -1, -1, -1, -1] m0 0) m1 1) m2 2) m3 3) m3 = 3 := by exact own_put_hit b3.1 (by simpa [put32_len] using b3.2)
  generalize (put32 (put32 (put32 (put32 [-1, -1, -1, -1, -1] m0 0) m1 1) m2 2) m3 3) = ix at *
  refine go_astore C X453 643 rfl at_641 rfl #[jv pk, sc, iv ff, iv sk, iv pk2, jv st, sc, rv sb, iv kk, iv m0, iv m1, iv m2, iv m3, rv mb, jv (s0.toInt64), sc, jv (s1.toInt64), sc, jv (s2.toInt64), sc, jv (s3.toInt64), sc, iv (2 : Int32), iv rr, rv qb, jv ((((((s0.toInt64) * (s1.toInt64)) + ((s0.toInt64) * (s2.toInt64))) + ((s0.toInt64) * (s3.toInt64))) + (0 : Int64)) + (0 : Int64)), sc, rv ps, iv (1 : Int32), iv (2 : Int32), jv ((s0.toInt64) * (s1.toInt64)), sc, jv ((s0.toInt64) * (s2.toInt64)), sc, jv ((s0.toInt64) * (s3.toInt64)), sc, jv ((s1.toInt64) * (s2.toInt64)), sc, jv ((s1.toInt64) * (s3.toInt64)), sc] rfl ?_
  refine go_aload C X453 645 rfl at_643 rfl rfl ?_
  refine go_aload C X453 647 rfl at_645 rfl rfl ?_
  refine go_virtual C X453 E6 (C.w 53 rfl) (C.w 54 rfl) (notFace_of_selects (args := #[]) (mvT C.hZ (C.w 56 rfl))) (C.w 56 rfl) (C.w 55 rfl) (C.w 9 rfl) (C.w 57 rfl) (own_bit_2_3 l Z a0 C.ws ps qb sb xb ob r0 r1 r2 sz ix m0 m1 m2 m3 s0 s1 s2 s3 st _ _ _ _ _ _ _ _ _ _ _ _ _ _ _ h454 n0 X453.old Fs Fx Ft Fu A455 Ax6 Ao6 A6r0 A6r1 A6r2 A458 hl xl b0 z0 b1 z1 b2 z2 b3 z3 x0 x1 x2 x3) (argsL := [(.ref qb)]) (rest := []) (lenOf pd_5 rfl) rfl (by decide) (by decide) (Nat.le_of_ble_eq_true rfl) (by decide) (by decide) rfl rfl (pc' := 650) rfl at_647 ?_
  rintro T460 _ _ ⟨rfl, rfl⟩ X461
  show Go p e below _ (T460.setTop (mkF m 650 #[jv pk, sc, iv ff, iv sk, iv pk2, jv st, sc, rv sb, iv kk, iv m0, iv m1, iv m2, iv m3, rv mb, jv (s0.toInt64), sc, jv (s1.toInt64), sc, jv (s2.toInt64), sc, jv (s3.toInt64), sc, iv (2 : Int32), iv rr, rv qb, jv ((((((s0.toInt64) * (s1.toInt64)) + ((s0.toInt64) * (s2.toInt64))) + ((s0.toInt64) * (s3.toInt64))) + (0 : Int64)) + (0 : Int64)), sc, rv ps, iv (1 : Int32), iv (2 : Int32), jv ((s0.toInt64) * (s1.toInt64)), sc, jv ((s0.toInt64) * (s2.toInt64)), sc, jv ((s0.toInt64) * (s3.toInt64)), sc, jv ((s1.toInt64) * (s2.toInt64)), sc, jv ((s1.toInt64) * (s3.toInt64)), sc] [(.long (st + (((0 : Int64) + ((1 : Int64) * ((((((0 : Int64) + (s3.toInt64 * (0 : Int64))) + (s2.toInt64 * ((0 : Int64) + (s3.toInt64 * (1 : Int64))))) + (s1.toInt64 * (((0 : Int64) + (s3.toInt64 * (1 : Int64))) + (s2.toInt64 * (1 : Int64))))) + (s0.toInt64 * ((((0 : Int64) + (s3.toInt64 * (1 : Int64))) + (s2.toInt64 * (1 : Int64))) + (s1.toInt64 * (1 : Int64))))) - ((((0 : Int64) + (s3.toInt64 * (0 : Int64))) + (s2.toInt64 * ((0 : Int64) + (s3.toInt64 * (1 : Int64))))) + (s1.toInt64 * (((0 : Int64) + (s3.toInt64 * (1 : Int64))) + (s2.toInt64 * (1 : Int64)))))))) + (((1 : Int64) * s1.toInt64) * ((((0 : Int64) + (s3.toInt64 * (1 : Int64))) + (s2.toInt64 * (1 : Int64))) - (((0 : Int64) + (s3.toInt64 * (1 : Int64))) + (s2.toInt64 * (1 : Int64))))))))]))
  refine go_lload C X461 652 rfl at_650 rfl ?_
  refine go_lload C X461 654 rfl at_652 rfl ?_
  refine go_ladd C X461 655 rfl at_654 ?_
  refine go_lif_ne C X461 (pc1 := 656) rfl at_655 at_656 (pc' := 659) (pc2 := 663) rfl (by decide) (by decide) (fun c656 => False.elim (c656 (own_id_2_3 s0 s1 s2 s3 st))) (fun _ => ?_)
  refine go_iconst C X461 660 rfl at_659 (z := 1) rfl ?_
  refine go_goto C X461 at_660 (pc' := 664) (by decide) (by decide) ?_
  exact go_retN C X461 (by simp) (z' := 1) rfl at_664 rfl (by decide) (by decide)
set_option maxRecDepth 65536 in
set_option maxHeartbeats 40000000 in
theorem own_arm_2_4 {p : Program} {l : Launch} {e : Env} {s : State} {m : MethodId} {below : List Frame} {meth : Method} {c : Code} {Z : State} {a0 : Array Value} {n0 : Nat} {pk : Int64} {ff : Int32} {sk : Int32} {pk2 : Int32} {st : Int64} {sb : Addr} {mb : Addr} {sz : List Int32} {kk : Int32} {rr : Int32} {m0 : Int32} {s0 : Int32} {m1 : Int32} {s1 : Int32} {m2 : Int32} {s2 : Int32} {m3 : Int32} {s3 : Int32} (C : Cx p s m meth c Z a0 x.cls code maxLocals ret x.name) {T72 : State} {h74 : Heap} (X73 : St Z p l e room_1 s m #[(.long pk), (.int ff), (.int sk), (.int pk2), (.long st)] below meth c n0 T72 h74 (0 + 1 + 1) (0 + 5 + 4)) (A77 : La Z h74 sb .int (ia sz)) (A76 : La Z h74 mb .int ([(.int m0), (.int m1), (.int m2), (.int m3)])) (E78 : Exa Z h74 mb "[I") (ne_sb_mb : sb ≠ mb) (ga_sb : n0 ≤ sb) (ga_mb : n0 ≤ mb) (hl : sz.length = 5) (b0 : 0 ≤ m0.toInt ∧ m0.toInt < (5 : Nat)) (b1 : 0 ≤ m1.toInt ∧ m1.toInt < (5 : Nat)) (b2 : 0 ≤ m2.toInt ∧ m2.toInt < (5 : Nat)) (b3 : 0 ≤ m3.toInt ∧ m3.toInt < (5 : Nat)) (z0 : at32 sz m0 = s0) (z1 : at32 sz m1 = s1) (z2 : at32 sz m2 = s2) (z3 : at32 sz m3 = s3) (d01 : ¬ m0.toInt = m1.toInt) (d02 : ¬ m0.toInt = m2.toInt) (d03 : ¬ m0.toInt = m3.toInt) (d12 : ¬ m1.toInt = m2.toInt) (d13 : ¬ m1.toInt = m3.toInt) (d23 : ¬ m2.toInt = m3.toInt) : Go p e below (FinQ s room_1.cells room_1.slots n0 (fun v h' => v = some (.int 1))) (T72.setTop (mkF m 265 #[jv pk, sc, iv ff, iv sk, iv pk2, jv st, sc, rv sb, iv kk, iv m0, iv m1, iv m2, iv m3, rv mb, jv (s0.toInt64), sc, jv (s1.toInt64), sc, jv (s2.toInt64), sc, jv (s3.toInt64), sc, iv (2 : Int32), iv rr, un, un, un, iv (4 : Int32), un, un, un, un, un, un, un, un, un, un, un, un] [])) := by
  refine go_iload C X73 267 rfl at_265 rfl ?_
  refine go_iconst C X73 268 rfl at_267 (z := 3) rfl ?_
  refine go_icmp_ge C X73 at_268 (pc' := 271) (pc2 := 275) rfl (by decide) (by decide) (fun (c268 : 3 ≤ 4) => ?_) (fun (c268 : 4 < 3) => False.elim (by first | omega | exact absurd c268 (by decide)))
  refine go_iload C X73 277 rfl at_275 rfl ?_
  refine go_iconst C X73 278 rfl at_277 (z := 5) rfl ?_
  refine go_icmp_ge C X73 at_278 (pc' := 281) (pc2 := 285) rfl (by decide) (by decide) (fun (c278 : 5 ≤ 4) => False.elim (by first | omega | exact absurd c278 (by decide))) (fun (c278 : 4 < 5) => ?_)
  refine go_iconst C X73 282 rfl at_281 (z := 1) rfl ?_
  refine go_goto C X73 at_282 (pc' := 286) (by decide) (by decide) ?_
  refine go_istore C X73 288 rfl at_286 #[jv pk, sc, iv ff, iv sk, iv pk2, jv st, sc, rv sb, iv kk, iv m0, iv m1, iv m2, iv m3, rv mb, jv (s0.toInt64), sc, jv (s1.toInt64), sc, jv (s2.toInt64), sc, jv (s3.toInt64), sc, iv (2 : Int32), iv rr, un, un, un, iv (4 : Int32), iv (1 : Int32), un, un, un, un, un, un, un, un, un, un, un] rfl ?_
  refine go_iload C X73 290 rfl at_288 rfl ?_
  refine go_iconst C X73 291 rfl at_290 (z := 3) rfl ?_
  refine go_icmp_ge C X73 at_291 (pc' := 294) (pc2 := 301) rfl (by decide) (by decide) (fun (c291 : 3 ≤ 4) => ?_) (fun (c291 : 4 < 3) => False.elim (by first | omega | exact absurd c291 (by decide)))
  refine go_iload C X73 303 rfl at_301 rfl ?_
  refine go_iconst C X73 304 rfl at_303 (z := 5) rfl ?_
  refine go_icmp_ge C X73 at_304 (pc' := 307) (pc2 := 314) rfl (by decide) (by decide) (fun (c304 : 5 ≤ 4) => False.elim (by first | omega | exact absurd c304 (by decide))) (fun (c304 : 4 < 5) => ?_)
  refine go_iload C X73 309 rfl at_307 rfl ?_
  refine go_iconst C X73 310 rfl at_309 (z := 1) rfl ?_
  refine go_isubL C X73 311 rfl at_310 (z := (3)) rfl ?_
  refine go_goto C X73 at_311 (pc' := 315) (by decide) (by decide) ?_
  refine go_istore C X73 317 rfl at_315 #[jv pk, sc, iv ff, iv sk, iv pk2, jv st, sc, rv sb, iv kk, iv m0, iv m1, iv m2, iv m3, rv mb, jv (s0.toInt64), sc, jv (s1.toInt64), sc, jv (s2.toInt64), sc, jv (s3.toInt64), sc, iv (2 : Int32), iv rr, un, un, un, iv (4 : Int32), iv (1 : Int32), iv (3 : Int32), un, un, un, un, un, un, un, un, un, un] rfl ?_
  refine go_iconst C X73 318 rfl at_317 (z := 2) rfl ?_
  refine go_newarr C X73 (C.w 0 rfl) (cap := 2) (by decide) (by decide) (by decide) (by decide) (by decide) (pc' := 320) rfl at_318 (fun T463 h465 qb ha_qb ga_qb E466 A467  X464 => ?_)
  have ne_sb_qb : sb ≠ qb := Nat.ne_of_lt (Nat.lt_of_lt_of_le A77.lt (Nat.le_of_eq ha_qb.symm))
  have ne_mb_qb : mb ≠ qb := Nat.ne_of_lt (Nat.lt_of_lt_of_le A76.lt (Nat.le_of_eq ha_qb.symm))
  have A468 := A77.ext E466
  have A469 := A76.ext E466
  have E470 := E78.ext E466
  replace A467 : La Z h465 qb .int ([(.int (0 : Int32)), (.int (0 : Int32))]) := A467
  refine go_dup C X464 321 rfl at_320 rfl ?_
  refine go_iconst C X464 322 rfl at_321 (z := 0) rfl ?_
  refine go_aload C X464 324 rfl at_322 rfl rfl ?_
  refine go_iload C X464 326 rfl at_324 rfl ?_
  refine go_iaload C X464 A469 (by decide) (v := (.int m1)) rfl (pc' := 327) rfl at_326 ?_
  refine go_iastore C X464 A467 (by decide) (by show _ < (2 : Int); decide) ga_qb (pc' := 328) rfl at_327 (fun T471 h473 W474 A475 X472 => ?_)
  have A476 := A468.other W474 ne_sb_qb
  have A477 := A469.other W474 ne_mb_qb
  have E478 := E470.wr W474
  replace A475 : La Z h473 qb .int ([(.int m1), (.int (0 : Int32))]) := A475
  refine go_dup C X472 329 rfl at_328 rfl ?_
  refine go_iconst C X472 330 rfl at_329 (z := 1) rfl ?_
  refine go_aload C X472 332 rfl at_330 rfl rfl ?_
  refine go_iload C X472 334 rfl at_332 rfl ?_
  refine go_iaload C X472 A477 (by decide) (v := (.int m3)) rfl (pc' := 335) rfl at_334 ?_
  refine go_iastore C X472 A475 (by decide) (by show _ < (2 : Int); decide) ga_qb (pc' := 336) rfl at_335 (fun T479 h481 W482 A483 X480 => ?_)
  have A484 := A476.other W482 ne_sb_qb
  have A485 := A477.other W482 ne_mb_qb
  have E486 := E478.wr W482
  replace A483 : La Z h481 qb .int ([(.int m1), (.int m3)]) := A483
  refine go_astore C X480 338 rfl at_336 rfl #[jv pk, sc, iv ff, iv sk, iv pk2, jv st, sc, rv sb, iv kk, iv m0, iv m1, iv m2, iv m3, rv mb, jv (s0.toInt64), sc, jv (s1.toInt64), sc, jv (s2.toInt64), sc, jv (s3.toInt64), sc, iv (2 : Int32), iv rr, rv qb, un, un, iv (4 : Int32), iv (1 : Int32), iv (3 : Int32), un, un, un, un, un, un, un, un, un, un] rfl ?_
  refine go_lload C X480 340 rfl at_338 rfl ?_
  refine go_lload C X480 342 rfl at_340 rfl ?_
  refine go_lmul C X480 343 rfl at_342 ?_
  refine go_lstore C X480 345 rfl at_343 #[jv pk, sc, iv ff, iv sk, iv pk2, jv st, sc, rv sb, iv kk, iv m0, iv m1, iv m2, iv m3, rv mb, jv (s0.toInt64), sc, jv (s1.toInt64), sc, jv (s2.toInt64), sc, jv (s3.toInt64), sc, iv (2 : Int32), iv rr, rv qb, un, un, iv (4 : Int32), iv (1 : Int32), iv (3 : Int32), jv ((s0.toInt64) * (s1.toInt64)), sc, un, un, un, un, un, un, un, un] rfl ?_
  refine go_lload C X480 347 rfl at_345 rfl ?_
  refine go_lload C X480 349 rfl at_347 rfl ?_
  refine go_lmul C X480 350 rfl at_349 ?_
  refine go_lstore C X480 352 rfl at_350 #[jv pk, sc, iv ff, iv sk, iv pk2, jv st, sc, rv sb, iv kk, iv m0, iv m1, iv m2, iv m3, rv mb, jv (s0.toInt64), sc, jv (s1.toInt64), sc, jv (s2.toInt64), sc, jv (s3.toInt64), sc, iv (2 : Int32), iv rr, rv qb, un, un, iv (4 : Int32), iv (1 : Int32), iv (3 : Int32), jv ((s0.toInt64) * (s1.toInt64)), sc, jv ((s0.toInt64) * (s2.toInt64)), sc, un, un, un, un, un, un] rfl ?_
  refine go_lload C X480 354 rfl at_352 rfl ?_
  refine go_lload C X480 356 rfl at_354 rfl ?_
  refine go_lmul C X480 357 rfl at_356 ?_
  refine go_lstore C X480 359 rfl at_357 #[jv pk, sc, iv ff, iv sk, iv pk2, jv st, sc, rv sb, iv kk, iv m0, iv m1, iv m2, iv m3, rv mb, jv (s0.toInt64), sc, jv (s1.toInt64), sc, jv (s2.toInt64), sc, jv (s3.toInt64), sc, iv (2 : Int32), iv rr, rv qb, un, un, iv (4 : Int32), iv (1 : Int32), iv (3 : Int32), jv ((s0.toInt64) * (s1.toInt64)), sc, jv ((s0.toInt64) * (s2.toInt64)), sc, jv ((s0.toInt64) * (s3.toInt64)), sc, un, un, un, un] rfl ?_
  refine go_lload C X480 361 rfl at_359 rfl ?_
  refine go_lload C X480 363 rfl at_361 rfl ?_
  refine go_lmul C X480 364 rfl at_363 ?_
  refine go_lstore C X480 366 rfl at_364 #[jv pk, sc, iv ff, iv sk, iv pk2, jv st, sc, rv sb, iv kk, iv m0, iv m1, iv m2, iv m3, rv mb, jv (s0.toInt64), sc, jv (s1.toInt64), sc, jv (s2.toInt64), sc, jv (s3.toInt64), sc, iv (2 : Int32), iv rr, rv qb, un, un, iv (4 : Int32), iv (1 : Int32), iv (3 : Int32), jv ((s0.toInt64) * (s1.toInt64)), sc, jv ((s0.toInt64) * (s2.toInt64)), sc, jv ((s0.toInt64) * (s3.toInt64)), sc, jv ((s1.toInt64) * (s2.toInt64)), sc, un, un] rfl ?_
  refine go_lload C X480 368 rfl at_366 rfl ?_
  refine go_lload C X480 370 rfl at_368 rfl ?_
  refine go_lmul C X480 371 rfl at_370 ?_
  refine go_lstore C X480 373 rfl at_371 #[jv pk, sc, iv ff, iv sk, iv pk2, jv st, sc, rv sb, iv kk, iv m0, iv m1, iv m2, iv m3, rv mb, jv (s0.toInt64), sc, jv (s1.toInt64), sc, jv (s2.toInt64), sc, jv (s3.toInt64), sc, iv (2 : Int32), iv rr, rv qb, un, un, iv (4 : Int32), iv (1 : Int32), iv (3 : Int32), jv ((s0.toInt64) * (s1.toInt64)), sc, jv ((s0.toInt64) * (s2.toInt64)), sc, jv ((s0.toInt64) * (s3.toInt64)), sc, jv ((s1.toInt64) * (s2.toInt64)), sc, jv ((s1.toInt64) * (s3.toInt64)), sc] rfl ?_
  refine go_iload C X480 375 rfl at_373 rfl ?_
  refine go_if_le C X480 at_375 (pc' := 378) (pc2 := 383) rfl (by decide) (by decide) (fun (c375 : 4 ≤ 0) => False.elim (by first | omega | exact absurd c375 (by decide))) (fun (c375 : 0 < 4) => ?_)
  refine go_lload C X480 380 rfl at_378 rfl ?_
  refine go_goto C X480 at_380 (pc' := 384) (by decide) (by decide) ?_
  refine go_iload C X480 386 rfl at_384 rfl ?_
  refine go_iconst C X480 387 rfl at_386 (z := 1) rfl ?_
  refine go_icmp_le C X480 at_387 (pc' := 390) (pc2 := 395) rfl (by decide) (by decide) (fun (c387 : 4 ≤ 1) => False.elim (by first | omega | exact absurd c387 (by decide))) (fun (c387 : 1 < 4) => ?_)
  refine go_lload C X480 392 rfl at_390 rfl ?_
  refine go_goto C X480 at_392 (pc' := 396) (by decide) (by decide) ?_
  refine go_ladd C X480 397 rfl at_396 ?_
  refine go_iload C X480 399 rfl at_397 rfl ?_
  refine go_iconst C X480 400 rfl at_399 (z := 2) rfl ?_
  refine go_icmp_le C X480 at_400 (pc' := 403) (pc2 := 408) rfl (by decide) (by decide) (fun (c400 : 4 ≤ 2) => False.elim (by first | omega | exact absurd c400 (by decide))) (fun (c400 : 2 < 4) => ?_)
  refine go_lload C X480 405 rfl at_403 rfl ?_
  refine go_goto C X480 at_405 (pc' := 409) (by decide) (by decide) ?_
  refine go_ladd C X480 410 rfl at_409 ?_
  refine go_iload C X480 412 rfl at_410 rfl ?_
  refine go_iconst C X480 413 rfl at_412 (z := 3) rfl ?_
  refine go_icmp_le C X480 at_413 (pc' := 416) (pc2 := 421) rfl (by decide) (by decide) (fun (c413 : 4 ≤ 3) => False.elim (by first | omega | exact absurd c413 (by decide))) (fun (c413 : 3 < 4) => ?_)
  refine go_lload C X480 418 rfl at_416 rfl ?_
  refine go_goto C X480 at_418 (pc' := 422) (by decide) (by decide) ?_
  refine go_ladd C X480 423 rfl at_422 ?_
  refine go_iload C X480 425 rfl at_423 rfl ?_
  refine go_iconst C X480 426 rfl at_425 (z := 4) rfl ?_
  refine go_icmp_le C X480 at_426 (pc' := 429) (pc2 := 434) rfl (by decide) (by decide) (fun (c426 : 4 ≤ 4) => ?_) (fun (c426 : 4 < 4) => False.elim (by first | omega | exact absurd c426 (by decide)))
  refine go_lconst C X480 435 rfl at_434 (z := 0) rfl ?_
  refine go_ladd C X480 436 rfl at_435 ?_
  refine go_lstore C X480 438 rfl at_436 #[jv pk, sc, iv ff, iv sk, iv pk2, jv st, sc, rv sb, iv kk, iv m0, iv m1, iv m2, iv m3, rv mb, jv (s0.toInt64), sc, jv (s1.toInt64), sc, jv (s2.toInt64), sc, jv (s3.toInt64), sc, iv (2 : Int32), iv rr, rv qb, jv ((((((s0.toInt64) * (s1.toInt64)) + ((s0.toInt64) * (s2.toInt64))) + ((s0.toInt64) * (s3.toInt64))) + ((s1.toInt64) * (s2.toInt64))) + (0 : Int64)), sc, iv (4 : Int32), iv (1 : Int32), iv (3 : Int32), jv ((s0.toInt64) * (s1.toInt64)), sc, jv ((s0.toInt64) * (s2.toInt64)), sc, jv ((s0.toInt64) * (s3.toInt64)), sc, jv ((s1.toInt64) * (s2.toInt64)), sc, jv ((s1.toInt64) * (s3.toInt64)), sc] rfl ?_
  refine go_goto C X480 at_438 (pc' := 626) (by decide) (by decide) ?_
  refine go_new C X480 (C.w 7 rfl) (C.w 8 rfl) (C.w 9 rfl) (by decide) (by decide) (pc' := 629) rfl at_626 (fun T487 h489 ps ha_ps ga_ps E490 E491 D492 X488 => ?_)
  have ne_sb_ps : sb ≠ ps := Nat.ne_of_lt (Nat.lt_of_lt_of_le A484.lt (Nat.le_of_eq ha_ps.symm))
  have ne_mb_ps : mb ≠ ps := Nat.ne_of_lt (Nat.lt_of_lt_of_le A485.lt (Nat.le_of_eq ha_ps.symm))
  have ne_qb_ps : qb ≠ ps := Nat.ne_of_lt (Nat.lt_of_lt_of_le A483.lt (Nat.le_of_eq ha_ps.symm))
  have A493 := A484.ext E490
  have A494 := A485.ext E490
  have E495 := E486.ext E490
  have A496 := A483.ext E490
  have F497 : Fld Z h489 ps "com/example/covertide/covertide/engine/ParameterSets" "sizes" "[I" .null := D492 (Or.inr (C.w 17 rfl)) (ty := (.array .int)) (by decide)
  have F498 : Fld Z h489 ps "com/example/covertide/covertide/engine/ParameterSets" "members" "[I" .null := D492 (Or.inr (C.w 28 rfl)) (ty := (.array .int)) (by decide)
  have F499 : Fld Z h489 ps "com/example/covertide/covertide/engine/ParameterSets" "indexOf" "[I" .null := D492 (Or.inr (C.w 30 rfl)) (ty := (.array .int)) (by decide)
  have F500 : Fld Z h489 ps "com/example/covertide/covertide/engine/ParameterSets" "size" "I" (.int (0 : Int32)) := D492 (Or.inr (C.w 36 rfl)) (ty := .int) (by decide)
  have F501 : Fld Z h489 ps "com/example/covertide/covertide/engine/ParameterSets" "start" "J" (.long (0 : Int64)) := D492 (Or.inr (C.w 38 rfl)) (ty := .long) (by decide)
  have F502 : Fld Z h489 ps "com/example/covertide/covertide/engine/ParameterSets" "suffixSums" "[[J" .null := D492 (Or.inr (C.w 50 rfl)) (ty := (.array (.array .long))) (by decide)
  have F503 : Fld Z h489 ps "com/example/covertide/covertide/engine/ParameterSets" "combinations" "J" (.long (0 : Int64)) := D492 (Or.inr (C.w 52 rfl)) (ty := .long) (by decide)
  refine go_dup C X488 630 rfl at_629 rfl ?_
  refine go_aload C X488 632 rfl at_630 rfl rfl ?_
  refine go_aload C X488 634 rfl at_632 rfl rfl ?_
  refine go_iload C X488 636 rfl at_634 rfl ?_
  refine go_lload C X488 638 rfl at_636 rfl ?_
  have hsz_638 := X488.sz
  have lt_sb_638 := A493.lt
  have lt_mb_638 := A494.lt
  have lt_qb_638 := A496.lt
  have lt_ps_638 := E491.lt
  refine go_special C X488 (C.w 10 rfl) (C.w 11 rfl) (C.w 9 rfl) (C.w 12 rfl) rfl (own_init_2 l Z a0 C.ws ps sb mb st sz m0 m1 m2 m3 s0 s1 s2 s3 h489 n0 X488.old E491 F497 F498 F499 F500 F501 F502 F503 A493 A494 E495 ga_ps (Ne.symm ne_sb_ps) (Ne.symm ne_mb_ps) hl b0 z0 b1 z1 b2 z2 b3 z3) (argsL := [(.ref sb), (.ref mb), (.int (2 : Int32)), (.long st)]) (rest := [(.ref ps)]) (lenOf pd_4 rfl) rfl (by decide) (by decide) (Nat.le_of_ble_eq_true rfl) (by decide) (by decide) rfl rfl (pc' := 641) rfl at_638 ?_
  rintro T504 h506 _ ⟨rfl, xb, ob, r0, r1, r2, K6, E6, Fs, Fx, Ft, Fu, sx6, so6, sz6r0, sz6r1, sz6r2, Ax6, Ao6, A6r0, A6r1, A6r2⟩ X505
  show Go p e below _ (T504.setTop (mkF m 641 #[jv pk, sc, iv ff, iv sk, iv pk2, jv st, sc, rv sb, iv kk, iv m0, iv m1, iv m2, iv m3, rv mb, jv (s0.toInt64), sc, jv (s1.toInt64), sc, jv (s2.toInt64), sc, jv (s3.toInt64), sc, iv (2 : Int32), iv rr, rv qb, jv ((((((s0.toInt64) * (s1.toInt64)) + ((s0.toInt64) * (s2.toInt64))) + ((s0.toInt64) * (s3.toInt64))) + ((s1.toInt64) * (s2.toInt64))) + (0 : Int64)), sc, iv (4 : Int32), iv (1 : Int32), iv (3 : Int32), jv ((s0.toInt64) * (s1.toInt64)), sc, jv ((s0.toInt64) * (s2.toInt64)), sc, jv ((s0.toInt64) * (s3.toInt64)), sc, jv ((s1.toInt64) * (s2.toInt64)), sc, jv ((s1.toInt64) * (s3.toInt64)), sc] [(.ref ps)]))
  have ne_sb_xb : sb ≠ xb := Nat.ne_of_lt (Nat.lt_of_lt_of_le lt_sb_638 sx6)
  have ne_mb_xb : mb ≠ xb := Nat.ne_of_lt (Nat.lt_of_lt_of_le lt_mb_638 sx6)
  have ne_qb_xb : qb ≠ xb := Nat.ne_of_lt (Nat.lt_of_lt_of_le lt_qb_638 sx6)
  have ne_ps_xb : ps ≠ xb := Nat.ne_of_lt (Nat.lt_of_lt_of_le lt_ps_638 sx6)
  have ga_xb : n0 ≤ xb := Nat.le_trans hsz_638 sx6
  have ne_sb_ob : sb ≠ ob := Nat.ne_of_lt (Nat.lt_of_lt_of_le lt_sb_638 so6)
  have ne_mb_ob : mb ≠ ob := Nat.ne_of_lt (Nat.lt_of_lt_of_le lt_mb_638 so6)
  have ne_qb_ob : qb ≠ ob := Nat.ne_of_lt (Nat.lt_of_lt_of_le lt_qb_638 so6)
  have ne_ps_ob : ps ≠ ob := Nat.ne_of_lt (Nat.lt_of_lt_of_le lt_ps_638 so6)
  have ga_ob : n0 ≤ ob := Nat.le_trans hsz_638 so6
  have ne_sb_r0 : sb ≠ r0 := Nat.ne_of_lt (Nat.lt_of_lt_of_le lt_sb_638 sz6r0)
  have ne_mb_r0 : mb ≠ r0 := Nat.ne_of_lt (Nat.lt_of_lt_of_le lt_mb_638 sz6r0)
  have ne_qb_r0 : qb ≠ r0 := Nat.ne_of_lt (Nat.lt_of_lt_of_le lt_qb_638 sz6r0)
  have ne_ps_r0 : ps ≠ r0 := Nat.ne_of_lt (Nat.lt_of_lt_of_le lt_ps_638 sz6r0)
  have ga_r0 : n0 ≤ r0 := Nat.le_trans hsz_638 sz6r0
  have ne_sb_r1 : sb ≠ r1 := Nat.ne_of_lt (Nat.lt_of_lt_of_le lt_sb_638 sz6r1)
  have ne_mb_r1 : mb ≠ r1 := Nat.ne_of_lt (Nat.lt_of_lt_of_le lt_mb_638 sz6r1)
  have ne_qb_r1 : qb ≠ r1 := Nat.ne_of_lt (Nat.lt_of_lt_of_le lt_qb_638 sz6r1)
  have ne_ps_r1 : ps ≠ r1 := Nat.ne_of_lt (Nat.lt_of_lt_of_le lt_ps_638 sz6r1)
  have ga_r1 : n0 ≤ r1 := Nat.le_trans hsz_638 sz6r1
  have ne_sb_r2 : sb ≠ r2 := Nat.ne_of_lt (Nat.lt_of_lt_of_le lt_sb_638 sz6r2)
  have ne_mb_r2 : mb ≠ r2 := Nat.ne_of_lt (Nat.lt_of_lt_of_le lt_mb_638 sz6r2)
  have ne_qb_r2 : qb ≠ r2 := Nat.ne_of_lt (Nat.lt_of_lt_of_le lt_qb_638 sz6r2)
  have ne_ps_r2 : ps ≠ r2 := Nat.ne_of_lt (Nat.lt_of_lt_of_le lt_ps_638 sz6r2)
  have ga_r2 : n0 ≤ r2 := Nat.le_trans hsz_638 sz6r2
  have A507 := A493.keep K6 (ninS ne_sb_ps nin0)
  have A508 := A494.keep K6 (ninS ne_mb_ps nin0)
  have E509 := E495.keep K6
  have A510 := A496.keep K6 (ninS ne_qb_ps nin0)
  have E511 := E491.keep K6
  have xl : ((put32 (put32 (put32 (put32 [-1, -1, -1, -1, -1] m0 0) m1 1) m2 2) m3 3)).length = 5 := by simp [put32_len]
  have x0 : at32 (put32 (put32 (put32 (put32 [-1, -1, -1, -1, -1] m0 0) m1 1) m2 2) m3 3) m0 = 0 := by rw [own_put_miss b3.1 b0.1 (fun q => d03 q.symm)]; rw [own_put_miss b2.1 b0.1 (fun q => d02 q.symm)]; rw [own_put_miss b1.1 b0.1 (fun q => d01 q.symm)]; exact own_put_hit b0.1 (by simpa [put32_len] using b0.2)
  have x1 : at32 (put32 (put32 (put32 (put32 [-1, -1, -1, -1, -1] m0 0) m1 1) m2 2) m3 3) m1 = 1 := by rw [own_put_miss b3.1 b1.1 (fun q => d13 q.symm)]; rw [own_put_miss b2.1 b1.1 (fun q => d12 q.symm)]; exact own_put_hit b1.1 (by simpa [put32_len] using b1.2)
  have x2 : at32 (put32 (put32 (put32 (put32 [-1, -1, -1, -1, -1] m0 0) m1 1) m2 2) m3 3) m2 = 2 := by rw [own_put_miss b3.1 b2.1 (fun q => d23 q.symm)]; exact own_put_hit b2.1 (by simpa [put32_len] using b2.2)
  have x3 : at32 (put32 (put32 (put32 (put32 [-1, -1, -1, -1, -1] m0 0) m1 1) m2 2) m3 3) m3 = 3 := by exact own_put_hit b3.1 (by simpa [put32_len] using b3.2)
  generalize (put32 (put32 (put32 (put32 [-1, -1, -1, -1, -1] m0 0) m1 1) m2 2) m3 3) = ix at *
  refine go_astore C X505 643 rfl at_641 rfl #[jv pk, sc, iv ff, iv sk, iv pk2, jv st, sc, rv sb, iv kk, iv m0, iv m1, iv m2, iv m3, rv mb, jv (s0.toInt64), sc, jv (s1.toInt64), sc, jv (s2.toInt64), sc, jv (s3.toInt64), sc, iv (2 : Int32), iv rr, rv qb, jv ((((((s0.toInt64) * (s1.toInt64)) + ((s0.toInt64) * (s2.toInt64))) + ((s0.toInt64) * (s3.toInt64))) + ((s1.toInt64) * (s2.toInt64))) + (0 : Int64)), sc, rv ps, iv (1 : Int32), iv (3 : Int32), jv ((s0.toInt64) * (s1.toInt64)), sc, jv ((s0.toInt64) * (s2.toInt64)), sc, jv ((s0.toInt64) * (s3.toInt64)), sc, jv ((s1.toInt64) * (s2.toInt64)), sc, jv ((s1.toInt64) * (s3.toInt64)), sc] rfl ?_
  refine go_aload C X505 645 rfl at_643 rfl rfl ?_
  refine go_aload C X505 647 rfl at_645 rfl rfl ?_
  refine go_virtual C X505 E6 (C.w 53 rfl) (C.w 54 rfl) (notFace_of_selects (args := #[]) (mvT C.hZ (C.w 56 rfl))) (C.w 56 rfl) (C.w 55 rfl) (C.w 9 rfl) (C.w 57 rfl) (own_bit_2_4 l Z a0 C.ws ps qb sb xb ob r0 r1 r2 sz ix m0 m1 m2 m3 s0 s1 s2 s3 st _ _ _ _ _ _ _ _ _ _ _ _ _ _ _ h506 n0 X505.old Fs Fx Ft Fu A507 Ax6 Ao6 A6r0 A6r1 A6r2 A510 hl xl b0 z0 b1 z1 b2 z2 b3 z3 x0 x1 x2 x3) (argsL := [(.ref qb)]) (rest := []) (lenOf pd_5 rfl) rfl (by decide) (by decide) (Nat.le_of_ble_eq_true rfl) (by decide) (by decide) rfl rfl (pc' := 650) rfl at_647 ?_
  rintro T512 _ _ ⟨rfl, rfl⟩ X513
  show Go p e below _ (T512.setTop (mkF m 650 #[jv pk, sc, iv ff, iv sk, iv pk2, jv st, sc, rv sb, iv kk, iv m0, iv m1, iv m2, iv m3, rv mb, jv (s0.toInt64), sc, jv (s1.toInt64), sc, jv (s2.toInt64), sc, jv (s3.toInt64), sc, iv (2 : Int32), iv rr, rv qb, jv ((((((s0.toInt64) * (s1.toInt64)) + ((s0.toInt64) * (s2.toInt64))) + ((s0.toInt64) * (s3.toInt64))) + ((s1.toInt64) * (s2.toInt64))) + (0 : Int64)), sc, rv ps, iv (1 : Int32), iv (3 : Int32), jv ((s0.toInt64) * (s1.toInt64)), sc, jv ((s0.toInt64) * (s2.toInt64)), sc, jv ((s0.toInt64) * (s3.toInt64)), sc, jv ((s1.toInt64) * (s2.toInt64)), sc, jv ((s1.toInt64) * (s3.toInt64)), sc] [(.long (st + (((0 : Int64) + ((1 : Int64) * ((((((0 : Int64) + (s3.toInt64 * (0 : Int64))) + (s2.toInt64 * ((0 : Int64) + (s3.toInt64 * (1 : Int64))))) + (s1.toInt64 * (((0 : Int64) + (s3.toInt64 * (1 : Int64))) + (s2.toInt64 * (1 : Int64))))) + (s0.toInt64 * ((((0 : Int64) + (s3.toInt64 * (1 : Int64))) + (s2.toInt64 * (1 : Int64))) + (s1.toInt64 * (1 : Int64))))) - ((((0 : Int64) + (s3.toInt64 * (0 : Int64))) + (s2.toInt64 * ((0 : Int64) + (s3.toInt64 * (1 : Int64))))) + (s1.toInt64 * (((0 : Int64) + (s3.toInt64 * (1 : Int64))) + (s2.toInt64 * (1 : Int64)))))))) + (((1 : Int64) * s1.toInt64) * ((((0 : Int64) + (s3.toInt64 * (1 : Int64))) + (s2.toInt64 * (1 : Int64))) - ((0 : Int64) + (s3.toInt64 * (1 : Int64))))))))]))
  refine go_lload C X513 652 rfl at_650 rfl ?_
  refine go_lload C X513 654 rfl at_652 rfl ?_
  refine go_ladd C X513 655 rfl at_654 ?_
  refine go_lif_ne C X513 (pc1 := 656) rfl at_655 at_656 (pc' := 659) (pc2 := 663) rfl (by decide) (by decide) (fun c656 => False.elim (c656 (own_id_2_4 s0 s1 s2 s3 st))) (fun _ => ?_)
  refine go_iconst C X513 660 rfl at_659 (z := 1) rfl ?_
  refine go_goto C X513 at_660 (pc' := 664) (by decide) (by decide) ?_
  exact go_retN C X513 (by simp) (z' := 1) rfl at_664 rfl (by decide) (by decide)
set_option maxRecDepth 65536 in
set_option maxHeartbeats 40000000 in
theorem own_arm_2_5 {p : Program} {l : Launch} {e : Env} {s : State} {m : MethodId} {below : List Frame} {meth : Method} {c : Code} {Z : State} {a0 : Array Value} {n0 : Nat} {pk : Int64} {ff : Int32} {sk : Int32} {pk2 : Int32} {st : Int64} {sb : Addr} {mb : Addr} {sz : List Int32} {kk : Int32} {rr : Int32} {m0 : Int32} {s0 : Int32} {m1 : Int32} {s1 : Int32} {m2 : Int32} {s2 : Int32} {m3 : Int32} {s3 : Int32} (C : Cx p s m meth c Z a0 x.cls code maxLocals ret x.name) {T72 : State} {h74 : Heap} (X73 : St Z p l e room_1 s m #[(.long pk), (.int ff), (.int sk), (.int pk2), (.long st)] below meth c n0 T72 h74 (0 + 1 + 1) (0 + 5 + 4)) (A77 : La Z h74 sb .int (ia sz)) (A76 : La Z h74 mb .int ([(.int m0), (.int m1), (.int m2), (.int m3)])) (E78 : Exa Z h74 mb "[I") (ne_sb_mb : sb ≠ mb) (ga_sb : n0 ≤ sb) (ga_mb : n0 ≤ mb) (hl : sz.length = 5) (b0 : 0 ≤ m0.toInt ∧ m0.toInt < (5 : Nat)) (b1 : 0 ≤ m1.toInt ∧ m1.toInt < (5 : Nat)) (b2 : 0 ≤ m2.toInt ∧ m2.toInt < (5 : Nat)) (b3 : 0 ≤ m3.toInt ∧ m3.toInt < (5 : Nat)) (z0 : at32 sz m0 = s0) (z1 : at32 sz m1 = s1) (z2 : at32 sz m2 = s2) (z3 : at32 sz m3 = s3) (d01 : ¬ m0.toInt = m1.toInt) (d02 : ¬ m0.toInt = m2.toInt) (d03 : ¬ m0.toInt = m3.toInt) (d12 : ¬ m1.toInt = m2.toInt) (d13 : ¬ m1.toInt = m3.toInt) (d23 : ¬ m2.toInt = m3.toInt) : Go p e below (FinQ s room_1.cells room_1.slots n0 (fun v h' => v = some (.int 1))) (T72.setTop (mkF m 265 #[jv pk, sc, iv ff, iv sk, iv pk2, jv st, sc, rv sb, iv kk, iv m0, iv m1, iv m2, iv m3, rv mb, jv (s0.toInt64), sc, jv (s1.toInt64), sc, jv (s2.toInt64), sc, jv (s3.toInt64), sc, iv (2 : Int32), iv rr, un, un, un, iv (5 : Int32), un, un, un, un, un, un, un, un, un, un, un, un] [])) := by
  refine go_iload C X73 267 rfl at_265 rfl ?_
  refine go_iconst C X73 268 rfl at_267 (z := 3) rfl ?_
  refine go_icmp_ge C X73 at_268 (pc' := 271) (pc2 := 275) rfl (by decide) (by decide) (fun (c268 : 3 ≤ 5) => ?_) (fun (c268 : 5 < 3) => False.elim (by first | omega | exact absurd c268 (by decide)))
  refine go_iload C X73 277 rfl at_275 rfl ?_
  refine go_iconst C X73 278 rfl at_277 (z := 5) rfl ?_
  refine go_icmp_ge C X73 at_278 (pc' := 281) (pc2 := 285) rfl (by decide) (by decide) (fun (c278 : 5 ≤ 5) => ?_) (fun (c278 : 5 < 5) => False.elim (by first | omega | exact absurd c278 (by decide)))
  refine go_iconst C X73 286 rfl at_285 (z := 2) rfl ?_
  refine go_istore C X73 288 rfl at_286 #[jv pk, sc, iv ff, iv sk, iv pk2, jv st, sc, rv sb, iv kk, iv m0, iv m1, iv m2, iv m3, rv mb, jv (s0.toInt64), sc, jv (s1.toInt64), sc, jv (s2.toInt64), sc, jv (s3.toInt64), sc, iv (2 : Int32), iv rr, un, un, un, iv (5 : Int32), iv (2 : Int32), un, un, un, un, un, un, un, un, un, un, un] rfl ?_
  refine go_iload C X73 290 rfl at_288 rfl ?_
  refine go_iconst C X73 291 rfl at_290 (z := 3) rfl ?_
  refine go_icmp_ge C X73 at_291 (pc' := 294) (pc2 := 301) rfl (by decide) (by decide) (fun (c291 : 3 ≤ 5) => ?_) (fun (c291 : 5 < 3) => False.elim (by first | omega | exact absurd c291 (by decide)))
  refine go_iload C X73 303 rfl at_301 rfl ?_
  refine go_iconst C X73 304 rfl at_303 (z := 5) rfl ?_
  refine go_icmp_ge C X73 at_304 (pc' := 307) (pc2 := 314) rfl (by decide) (by decide) (fun (c304 : 5 ≤ 5) => ?_) (fun (c304 : 5 < 5) => False.elim (by first | omega | exact absurd c304 (by decide)))
  refine go_iconst C X73 315 rfl at_314 (z := 3) rfl ?_
  refine go_istore C X73 317 rfl at_315 #[jv pk, sc, iv ff, iv sk, iv pk2, jv st, sc, rv sb, iv kk, iv m0, iv m1, iv m2, iv m3, rv mb, jv (s0.toInt64), sc, jv (s1.toInt64), sc, jv (s2.toInt64), sc, jv (s3.toInt64), sc, iv (2 : Int32), iv rr, un, un, un, iv (5 : Int32), iv (2 : Int32), iv (3 : Int32), un, un, un, un, un, un, un, un, un, un] rfl ?_
  refine go_iconst C X73 318 rfl at_317 (z := 2) rfl ?_
  refine go_newarr C X73 (C.w 0 rfl) (cap := 2) (by decide) (by decide) (by decide) (by decide) (by decide) (pc' := 320) rfl at_318 (fun T515 h517 qb ha_qb ga_qb E518 A519  X516 => ?_)
  have ne_sb_qb : sb ≠ qb := Nat.ne_of_lt (Nat.lt_of_lt_of_le A77.lt (Nat.le_of_eq ha_qb.symm))
  have ne_mb_qb : mb ≠ qb := Nat.ne_of_lt (Nat.lt_of_lt_of_le A76.lt (Nat.le_of_eq ha_qb.symm))
  have A520 := A77.ext E518
  have A521 := A76.ext E518
  have E522 := E78.ext E518
  replace A519 : La Z h517 qb .int ([(.int (0 : Int32)), (.int (0 : Int32))]) := A519
  refine go_dup C X516 321 rfl at_320 rfl ?_
  refine go_iconst C X516 322 rfl at_321 (z := 0) rfl ?_
  refine go_aload C X516 324 rfl at_322 rfl rfl ?_
  refine go_iload C X516 326 rfl at_324 rfl ?_
  refine go_iaload C X516 A521 (by decide) (v := (.int m2)) rfl (pc' := 327) rfl at_326 ?_
  refine go_iastore C X516 A519 (by decide) (by show _ < (2 : Int); decide) ga_qb (pc' := 328) rfl at_327 (fun T523 h525 W526 A527 X524 => ?_)
  have A528 := A520.other W526 ne_sb_qb
  have A529 := A521.other W526 ne_mb_qb
  have E530 := E522.wr W526
  replace A527 : La Z h525 qb .int ([(.int m2), (.int (0 : Int32))]) := A527
  refine go_dup C X524 329 rfl at_328 rfl ?_
  refine go_iconst C X524 330 rfl at_329 (z := 1) rfl ?_
  refine go_aload C X524 332 rfl at_330 rfl rfl ?_
  refine go_iload C X524 334 rfl at_332 rfl ?_
  refine go_iaload C X524 A529 (by decide) (v := (.int m3)) rfl (pc' := 335) rfl at_334 ?_
  refine go_iastore C X524 A527 (by decide) (by show _ < (2 : Int); decide) ga_qb (pc' := 336) rfl at_335 (fun T531 h533 W534 A535 X532 => ?_)
  have A536 := A528.other W534 ne_sb_qb
  have A537 := A529.other W534 ne_mb_qb
  have E538 := E530.wr W534
  replace A535 : La Z h533 qb .int ([(.int m2), (.int m3)]) := A535
  refine go_astore C X532 338 rfl at_336 rfl #[jv pk, sc, iv ff, iv sk, iv pk2, jv st, sc, rv sb, iv kk, iv m0, iv m1, iv m2, iv m3, rv mb, jv (s0.toInt64), sc, jv (s1.toInt64), sc, jv (s2.toInt64), sc, jv (s3.toInt64), sc, iv (2 : Int32), iv rr, rv qb, un, un, iv (5 : Int32), iv (2 : Int32), iv (3 : Int32), un, un, un, un, un, un, un, un, un, un] rfl ?_
  refine go_lload C X532 340 rfl at_338 rfl ?_
  refine go_lload C X532 342 rfl at_340 rfl ?_
  refine go_lmul C X532 343 rfl at_342 ?_
  refine go_lstore C X532 345 rfl at_343 #[jv pk, sc, iv ff, iv sk, iv pk2, jv st, sc, rv sb, iv kk, iv m0, iv m1, iv m2, iv m3, rv mb, jv (s0.toInt64), sc, jv (s1.toInt64), sc, jv (s2.toInt64), sc, jv (s3.toInt64), sc, iv (2 : Int32), iv rr, rv qb, un, un, iv (5 : Int32), iv (2 : Int32), iv (3 : Int32), jv ((s0.toInt64) * (s1.toInt64)), sc, un, un, un, un, un, un, un, un] rfl ?_
  refine go_lload C X532 347 rfl at_345 rfl ?_
  refine go_lload C X532 349 rfl at_347 rfl ?_
  refine go_lmul C X532 350 rfl at_349 ?_
  refine go_lstore C X532 352 rfl at_350 #[jv pk, sc, iv ff, iv sk, iv pk2, jv st, sc, rv sb, iv kk, iv m0, iv m1, iv m2, iv m3, rv mb, jv (s0.toInt64), sc, jv (s1.toInt64), sc, jv (s2.toInt64), sc, jv (s3.toInt64), sc, iv (2 : Int32), iv rr, rv qb, un, un, iv (5 : Int32), iv (2 : Int32), iv (3 : Int32), jv ((s0.toInt64) * (s1.toInt64)), sc, jv ((s0.toInt64) * (s2.toInt64)), sc, un, un, un, un, un, un] rfl ?_
  refine go_lload C X532 354 rfl at_352 rfl ?_
  refine go_lload C X532 356 rfl at_354 rfl ?_
  refine go_lmul C X532 357 rfl at_356 ?_
  refine go_lstore C X532 359 rfl at_357 #[jv pk, sc, iv ff, iv sk, iv pk2, jv st, sc, rv sb, iv kk, iv m0, iv m1, iv m2, iv m3, rv mb, jv (s0.toInt64), sc, jv (s1.toInt64), sc, jv (s2.toInt64), sc, jv (s3.toInt64), sc, iv (2 : Int32), iv rr, rv qb, un, un, iv (5 : Int32), iv (2 : Int32), iv (3 : Int32), jv ((s0.toInt64) * (s1.toInt64)), sc, jv ((s0.toInt64) * (s2.toInt64)), sc, jv ((s0.toInt64) * (s3.toInt64)), sc, un, un, un, un] rfl ?_
  refine go_lload C X532 361 rfl at_359 rfl ?_
  refine go_lload C X532 363 rfl at_361 rfl ?_
  refine go_lmul C X532 364 rfl at_363 ?_
  refine go_lstore C X532 366 rfl at_364 #[jv pk, sc, iv ff, iv sk, iv pk2, jv st, sc, rv sb, iv kk, iv m0, iv m1, iv m2, iv m3, rv mb, jv (s0.toInt64), sc, jv (s1.toInt64), sc, jv (s2.toInt64), sc, jv (s3.toInt64), sc, iv (2 : Int32), iv rr, rv qb, un, un, iv (5 : Int32), iv (2 : Int32), iv (3 : Int32), jv ((s0.toInt64) * (s1.toInt64)), sc, jv ((s0.toInt64) * (s2.toInt64)), sc, jv ((s0.toInt64) * (s3.toInt64)), sc, jv ((s1.toInt64) * (s2.toInt64)), sc, un, un] rfl ?_
  refine go_lload C X532 368 rfl at_366 rfl ?_
  refine go_lload C X532 370 rfl at_368 rfl ?_
  refine go_lmul C X532 371 rfl at_370 ?_
  refine go_lstore C X532 373 rfl at_371 #[jv pk, sc, iv ff, iv sk, iv pk2, jv st, sc, rv sb, iv kk, iv m0, iv m1, iv m2, iv m3, rv mb, jv (s0.toInt64), sc, jv (s1.toInt64), sc, jv (s2.toInt64), sc, jv (s3.toInt64), sc, iv (2 : Int32), iv rr, rv qb, un, un, iv (5 : Int32), iv (2 : Int32), iv (3 : Int32), jv ((s0.toInt64) * (s1.toInt64)), sc, jv ((s0.toInt64) * (s2.toInt64)), sc, jv ((s0.toInt64) * (s3.toInt64)), sc, jv ((s1.toInt64) * (s2.toInt64)), sc, jv ((s1.toInt64) * (s3.toInt64)), sc] rfl ?_
  refine go_iload C X532 375 rfl at_373 rfl ?_
  refine go_if_le C X532 at_375 (pc' := 378) (pc2 := 383) rfl (by decide) (by decide) (fun (c375 : 5 ≤ 0) => False.elim (by first | omega | exact absurd c375 (by decide))) (fun (c375 : 0 < 5) => ?_)
  refine go_lload C X532 380 rfl at_378 rfl ?_
  refine go_goto C X532 at_380 (pc' := 384) (by decide) (by decide) ?_
  refine go_iload C X532 386 rfl at_384 rfl ?_
  refine go_iconst C X532 387 rfl at_386 (z := 1) rfl ?_
  refine go_icmp_le C X532 at_387 (pc' := 390) (pc2 := 395) rfl (by decide) (by decide) (fun (c387 : 5 ≤ 1) => False.elim (by first | omega | exact absurd c387 (by decide))) (fun (c387 : 1 < 5) => ?_)
  refine go_lload C X532 392 rfl at_390 rfl ?_
  refine go_goto C X532 at_392 (pc' := 396) (by decide) (by decide) ?_
  refine go_ladd C X532 397 rfl at_396 ?_
  refine go_iload C X532 399 rfl at_397 rfl ?_
  refine go_iconst C X532 400 rfl at_399 (z := 2) rfl ?_
  refine go_icmp_le C X532 at_400 (pc' := 403) (pc2 := 408) rfl (by decide) (by decide) (fun (c400 : 5 ≤ 2) => False.elim (by first | omega | exact absurd c400 (by decide))) (fun (c400 : 2 < 5) => ?_)
  refine go_lload C X532 405 rfl at_403 rfl ?_
  refine go_goto C X532 at_405 (pc' := 409) (by decide) (by decide) ?_
  refine go_ladd C X532 410 rfl at_409 ?_
  refine go_iload C X532 412 rfl at_410 rfl ?_
  refine go_iconst C X532 413 rfl at_412 (z := 3) rfl ?_
  refine go_icmp_le C X532 at_413 (pc' := 416) (pc2 := 421) rfl (by decide) (by decide) (fun (c413 : 5 ≤ 3) => False.elim (by first | omega | exact absurd c413 (by decide))) (fun (c413 : 3 < 5) => ?_)
  refine go_lload C X532 418 rfl at_416 rfl ?_
  refine go_goto C X532 at_418 (pc' := 422) (by decide) (by decide) ?_
  refine go_ladd C X532 423 rfl at_422 ?_
  refine go_iload C X532 425 rfl at_423 rfl ?_
  refine go_iconst C X532 426 rfl at_425 (z := 4) rfl ?_
  refine go_icmp_le C X532 at_426 (pc' := 429) (pc2 := 434) rfl (by decide) (by decide) (fun (c426 : 5 ≤ 4) => False.elim (by first | omega | exact absurd c426 (by decide))) (fun (c426 : 4 < 5) => ?_)
  refine go_lload C X532 431 rfl at_429 rfl ?_
  refine go_goto C X532 at_431 (pc' := 435) (by decide) (by decide) ?_
  refine go_ladd C X532 436 rfl at_435 ?_
  refine go_lstore C X532 438 rfl at_436 #[jv pk, sc, iv ff, iv sk, iv pk2, jv st, sc, rv sb, iv kk, iv m0, iv m1, iv m2, iv m3, rv mb, jv (s0.toInt64), sc, jv (s1.toInt64), sc, jv (s2.toInt64), sc, jv (s3.toInt64), sc, iv (2 : Int32), iv rr, rv qb, jv ((((((s0.toInt64) * (s1.toInt64)) + ((s0.toInt64) * (s2.toInt64))) + ((s0.toInt64) * (s3.toInt64))) + ((s1.toInt64) * (s2.toInt64))) + ((s1.toInt64) * (s3.toInt64))), sc, iv (5 : Int32), iv (2 : Int32), iv (3 : Int32), jv ((s0.toInt64) * (s1.toInt64)), sc, jv ((s0.toInt64) * (s2.toInt64)), sc, jv ((s0.toInt64) * (s3.toInt64)), sc, jv ((s1.toInt64) * (s2.toInt64)), sc, jv ((s1.toInt64) * (s3.toInt64)), sc] rfl ?_
  refine go_goto C X532 at_438 (pc' := 626) (by decide) (by decide) ?_
  refine go_new C X532 (C.w 7 rfl) (C.w 8 rfl) (C.w 9 rfl) (by decide) (by decide) (pc' := 629) rfl at_626 (fun T539 h541 ps ha_ps ga_ps E542 E543 D544 X540 => ?_)
  have ne_sb_ps : sb ≠ ps := Nat.ne_of_lt (Nat.lt_of_lt_of_le A536.lt (Nat.le_of_eq ha_ps.symm))
  have ne_mb_ps : mb ≠ ps := Nat.ne_of_lt (Nat.lt_of_lt_of_le A537.lt (Nat.le_of_eq ha_ps.symm))
  have ne_qb_ps : qb ≠ ps := Nat.ne_of_lt (Nat.lt_of_lt_of_le A535.lt (Nat.le_of_eq ha_ps.symm))
  have A545 := A536.ext E542
  have A546 := A537.ext E542
  have E547 := E538.ext E542
  have A548 := A535.ext E542
  have F549 : Fld Z h541 ps "com/example/covertide/covertide/engine/ParameterSets" "sizes" "[I" .null := D544 (Or.inr (C.w 17 rfl)) (ty := (.array .int)) (by decide)
  have F550 : Fld Z h541 ps "com/example/covertide/covertide/engine/ParameterSets" "members" "[I" .null := D544 (Or.inr (C.w 28 rfl)) (ty := (.array .int)) (by decide)
  have F551 : Fld Z h541 ps "com/example/covertide/covertide/engine/ParameterSets" "indexOf" "[I" .null := D544 (Or.inr (C.w 30 rfl)) (ty := (.array .int)) (by decide)
  have F552 : Fld Z h541 ps "com/example/covertide/covertide/engine/ParameterSets" "size" "I" (.int (0 : Int32)) := D544 (Or.inr (C.w 36 rfl)) (ty := .int) (by decide)
  have F553 : Fld Z h541 ps "com/example/covertide/covertide/engine/ParameterSets" "start" "J" (.long (0 : Int64)) := D544 (Or.inr (C.w 38 rfl)) (ty := .long) (by decide)
  have F554 : Fld Z h541 ps "com/example/covertide/covertide/engine/ParameterSets" "suffixSums" "[[J" .null := D544 (Or.inr (C.w 50 rfl)) (ty := (.array (.array .long))) (by decide)
  have F555 : Fld Z h541 ps "com/example/covertide/covertide/engine/ParameterSets" "combinations" "J" (.long (0 : Int64)) := D544 (Or.inr (C.w 52 rfl)) (ty := .long) (by decide)
  refine go_dup C X540 630 rfl at_629 rfl ?_
  refine go_aload C X540 632 rfl at_630 rfl rfl ?_
  refine go_aload C X540 634 rfl at_632 rfl rfl ?_
  refine go_iload C X540 636 rfl at_634 rfl ?_
  refine go_lload C X540 638 rfl at_636 rfl ?_
  have hsz_638 := X540.sz
  have lt_sb_638 := A545.lt
  have lt_mb_638 := A546.lt
  have lt_qb_638 := A548.lt
  have lt_ps_638 := E543.lt
  refine go_special C X540 (C.w 10 rfl) (C.w 11 rfl) (C.w 9 rfl) (C.w 12 rfl) rfl (own_init_2 l Z a0 C.ws ps sb mb st sz m0 m1 m2 m3 s0 s1 s2 s3 h541 n0 X540.old E543 F549 F550 F551 F552 F553 F554 F555 A545 A546 E547 ga_ps (Ne.symm ne_sb_ps) (Ne.symm ne_mb_ps) hl b0 z0 b1 z1 b2 z2 b3 z3) (argsL := [(.ref sb), (.ref mb), (.int (2 : Int32)), (.long st)]) (rest := [(.ref ps)]) (lenOf pd_4 rfl) rfl (by decide) (by decide) (Nat.le_of_ble_eq_true rfl) (by decide) (by decide) rfl rfl (pc' := 641) rfl at_638 ?_
  rintro T556 h558 _ ⟨rfl, xb, ob, r0, r1, r2, K6, E6, Fs, Fx, Ft, Fu, sx6, so6, sz6r0, sz6r1, sz6r2, Ax6, Ao6, A6r0, A6r1, A6r2⟩ X557
  show Go p e below _ (T556.setTop (mkF m 641 #[jv pk, sc, iv ff, iv sk, iv pk2, jv st, sc, rv sb, iv kk, iv m0, iv m1, iv m2, iv m3, rv mb, jv (s0.toInt64), sc, jv (s1.toInt64), sc, jv (s2.toInt64), sc, jv (s3.toInt64), sc, iv (2 : Int32), iv rr, rv qb, jv ((((((s0.toInt64) * (s1.toInt64)) + ((s0.toInt64) * (s2.toInt64))) + ((s0.toInt64) * (s3.toInt64))) + ((s1.toInt64) * (s2.toInt64))) + ((s1.toInt64) * (s3.toInt64))), sc, iv (5 : Int32), iv (2 : Int32), iv (3 : Int32), jv ((s0.toInt64) * (s1.toInt64)), sc, jv ((s0.toInt64) * (s2.toInt64)), sc, jv ((s0.toInt64) * (s3.toInt64)), sc, jv ((s1.toInt64) * (s2.toInt64)), sc, jv ((s1.toInt64) * (s3.toInt64)), sc] [(.ref ps)]))
  have ne_sb_xb : sb ≠ xb := Nat.ne_of_lt (Nat.lt_of_lt_of_le lt_sb_638 sx6)
  have ne_mb_xb : mb ≠ xb := Nat.ne_of_lt (Nat.lt_of_lt_of_le lt_mb_638 sx6)
  have ne_qb_xb : qb ≠ xb := Nat.ne_of_lt (Nat.lt_of_lt_of_le lt_qb_638 sx6)
  have ne_ps_xb : ps ≠ xb := Nat.ne_of_lt (Nat.lt_of_lt_of_le lt_ps_638 sx6)
  have ga_xb : n0 ≤ xb := Nat.le_trans hsz_638 sx6
  have ne_sb_ob : sb ≠ ob := Nat.ne_of_lt (Nat.lt_of_lt_of_le lt_sb_638 so6)
  have ne_mb_ob : mb ≠ ob := Nat.ne_of_lt (Nat.lt_of_lt_of_le lt_mb_638 so6)
  have ne_qb_ob : qb ≠ ob := Nat.ne_of_lt (Nat.lt_of_lt_of_le lt_qb_638 so6)
  have ne_ps_ob : ps ≠ ob := Nat.ne_of_lt (Nat.lt_of_lt_of_le lt_ps_638 so6)
  have ga_ob : n0 ≤ ob := Nat.le_trans hsz_638 so6
  have ne_sb_r0 : sb ≠ r0 := Nat.ne_of_lt (Nat.lt_of_lt_of_le lt_sb_638 sz6r0)
  have ne_mb_r0 : mb ≠ r0 := Nat.ne_of_lt (Nat.lt_of_lt_of_le lt_mb_638 sz6r0)
  have ne_qb_r0 : qb ≠ r0 := Nat.ne_of_lt (Nat.lt_of_lt_of_le lt_qb_638 sz6r0)
  have ne_ps_r0 : ps ≠ r0 := Nat.ne_of_lt (Nat.lt_of_lt_of_le lt_ps_638 sz6r0)
  have ga_r0 : n0 ≤ r0 := Nat.le_trans hsz_638 sz6r0
  have ne_sb_r1 : sb ≠ r1 := Nat.ne_of_lt (Nat.lt_of_lt_of_le lt_sb_638 sz6r1)
  have ne_mb_r1 : mb ≠ r1 := Nat.ne_of_lt (Nat.lt_of_lt_of_le lt_mb_638 sz6r1)
  have ne_qb_r1 : qb ≠ r1 := Nat.ne_of_lt (Nat.lt_of_lt_of_le lt_qb_638 sz6r1)
  have ne_ps_r1 : ps ≠ r1 := Nat.ne_of_lt (Nat.lt_of_lt_of_le lt_ps_638 sz6r1)
  have ga_r1 : n0 ≤ r1 := Nat.le_trans hsz_638 sz6r1
  have ne_sb_r2 : sb ≠ r2 := Nat.ne_of_lt (Nat.lt_of_lt_of_le lt_sb_638 sz6r2)
  have ne_mb_r2 : mb ≠ r2 := Nat.ne_of_lt (Nat.lt_of_lt_of_le lt_mb_638 sz6r2)
  have ne_qb_r2 : qb ≠ r2 := Nat.ne_of_lt (Nat.lt_of_lt_of_le lt_qb_638 sz6r2)
  have ne_ps_r2 : ps ≠ r2 := Nat.ne_of_lt (Nat.lt_of_lt_of_le lt_ps_638 sz6r2)
  have ga_r2 : n0 ≤ r2 := Nat.le_trans hsz_638 sz6r2
  have A559 := A545.keep K6 (ninS ne_sb_ps nin0)
  have A560 := A546.keep K6 (ninS ne_mb_ps nin0)
  have E561 := E547.keep K6
  have A562 := A548.keep K6 (ninS ne_qb_ps nin0)
  have E563 := E543.keep K6
  have xl : ((put32 (put32 (put32 (put32 [-1, -1, -1, -1, -1] m0 0) m1 1) m2 2) m3 3)).length = 5 := by simp [put32_len]
  have x0 : at32 (put32 (put32 (put32 (put32 [-1, -1, -1, -1, -1] m0 0) m1 1) m2 2) m3 3) m0 = 0 := by rw [own_put_miss b3.1 b0.1 (fun q => d03 q.symm)]; rw [own_put_miss b2.1 b0.1 (fun q => d02 q.symm)]; rw [own_put_miss b1.1 b0.1 (fun q => d01 q.symm)]; exact own_put_hit b0.1 (by simpa [put32_len] using b0.2)
  have x1 : at32 (put32 (put32 (put32 (put32 [-1, -1, -1, -1, -1] m0 0) m1 1) m2 2) m3 3) m1 = 1 := by rw [own_put_miss b3.1 b1.1 (fun q => d13 q.symm)]; rw [own_put_miss b2.1 b1.1 (fun q => d12 q.symm)]; exact own_put_hit b1.1 (by simpa [put32_len] using b1.2)
  have x2 : at32 (put32 (put32 (put32 (put32 [-1, -1, -1, -1, -1] m0 0) m1 1) m2 2) m3 3) m2 = 2 := by rw [own_put_miss b3.1 b2.1 (fun q => d23 q.symm)]; exact own_put_hit b2.1 (by simpa [put32_len] using b2.2)
  have x3 : at32 (put32 (put32 (put32 (put32 [-1, -1, -1, -1, -1] m0 0) m1 1) m2 2) m3 3) m3 = 3 := by exact own_put_hit b3.1 (by simpa [put32_len] using b3.2)
  generalize (put32 (put32 (put32 (put32 [-1, -1, -1, -1, -1] m0 0) m1 1) m2 2) m3 3) = ix at *
  refine go_astore C X557 643 rfl at_641 rfl #[jv pk, sc, iv ff, iv sk, iv pk2, jv st, sc, rv sb, iv kk, iv m0, iv m1, iv m2, iv m3, rv mb, jv (s0.toInt64), sc, jv (s1.toInt64), sc, jv (s2.toInt64), sc, jv (s3.toInt64), sc, iv (2 : Int32), iv rr, rv qb, jv ((((((s0.toInt64) * (s1.toInt64)) + ((s0.toInt64) * (s2.toInt64))) + ((s0.toInt64) * (s3.toInt64))) + ((s1.toInt64) * (s2.toInt64))) + ((s1.toInt64) * (s3.toInt64))), sc, rv ps, iv (2 : Int32), iv (3 : Int32), jv ((s0.toInt64) * (s1.toInt64)), sc, jv ((s0.toInt64) * (s2.toInt64)), sc, jv ((s0.toInt64) * (s3.toInt64)), sc, jv ((s1.toInt64) * (s2.toInt64)), sc, jv ((s1.toInt64) * (s3.toInt64)), sc] rfl ?_
  refine go_aload C X557 645 rfl at_643 rfl rfl ?_
  refine go_aload C X557 647 rfl at_645 rfl rfl ?_
  refine go_virtual C X557 E6 (C.w 53 rfl) (C.w 54 rfl) (notFace_of_selects (args := #[]) (mvT C.hZ (C.w 56 rfl))) (C.w 56 rfl) (C.w 55 rfl) (C.w 9 rfl) (C.w 57 rfl) (own_bit_2_5 l Z a0 C.ws ps qb sb xb ob r0 r1 r2 sz ix m0 m1 m2 m3 s0 s1 s2 s3 st _ _ _ _ _ _ _ _ _ _ _ _ _ _ _ h558 n0 X557.old Fs Fx Ft Fu A559 Ax6 Ao6 A6r0 A6r1 A6r2 A562 hl xl b0 z0 b1 z1 b2 z2 b3 z3 x0 x1 x2 x3) (argsL := [(.ref qb)]) (rest := []) (lenOf pd_5 rfl) rfl (by decide) (by decide) (Nat.le_of_ble_eq_true rfl) (by decide) (by decide) rfl rfl (pc' := 650) rfl at_647 ?_
  rintro T564 _ _ ⟨rfl, rfl⟩ X565
  show Go p e below _ (T564.setTop (mkF m 650 #[jv pk, sc, iv ff, iv sk, iv pk2, jv st, sc, rv sb, iv kk, iv m0, iv m1, iv m2, iv m3, rv mb, jv (s0.toInt64), sc, jv (s1.toInt64), sc, jv (s2.toInt64), sc, jv (s3.toInt64), sc, iv (2 : Int32), iv rr, rv qb, jv ((((((s0.toInt64) * (s1.toInt64)) + ((s0.toInt64) * (s2.toInt64))) + ((s0.toInt64) * (s3.toInt64))) + ((s1.toInt64) * (s2.toInt64))) + ((s1.toInt64) * (s3.toInt64))), sc, rv ps, iv (2 : Int32), iv (3 : Int32), jv ((s0.toInt64) * (s1.toInt64)), sc, jv ((s0.toInt64) * (s2.toInt64)), sc, jv ((s0.toInt64) * (s3.toInt64)), sc, jv ((s1.toInt64) * (s2.toInt64)), sc, jv ((s1.toInt64) * (s3.toInt64)), sc] [(.long (st + (((0 : Int64) + ((1 : Int64) * ((((((0 : Int64) + (s3.toInt64 * (0 : Int64))) + (s2.toInt64 * ((0 : Int64) + (s3.toInt64 * (1 : Int64))))) + (s1.toInt64 * (((0 : Int64) + (s3.toInt64 * (1 : Int64))) + (s2.toInt64 * (1 : Int64))))) + (s0.toInt64 * ((((0 : Int64) + (s3.toInt64 * (1 : Int64))) + (s2.toInt64 * (1 : Int64))) + (s1.toInt64 * (1 : Int64))))) - (((0 : Int64) + (s3.toInt64 * (0 : Int64))) + (s2.toInt64 * ((0 : Int64) + (s3.toInt64 * (1 : Int64)))))))) + (((1 : Int64) * s2.toInt64) * (((0 : Int64) + (s3.toInt64 * (1 : Int64))) - ((0 : Int64) + (s3.toInt64 * (1 : Int64))))))))]))
  refine go_lload C X565 652 rfl at_650 rfl ?_
  refine go_lload C X565 654 rfl at_652 rfl ?_
  refine go_ladd C X565 655 rfl at_654 ?_
  refine go_lif_ne C X565 (pc1 := 656) rfl at_655 at_656 (pc' := 659) (pc2 := 663) rfl (by decide) (by decide) (fun c656 => False.elim (c656 (own_id_2_5 s0 s1 s2 s3 st))) (fun _ => ?_)
  refine go_iconst C X565 660 rfl at_659 (z := 1) rfl ?_
  refine go_goto C X565 at_660 (pc' := 664) (by decide) (by decide) ?_
  exact go_retN C X565 (by simp) (z' := 1) rfl at_664 rfl (by decide) (by decide)
set_option maxRecDepth 65536 in
set_option maxHeartbeats 40000000 in
theorem own_arm_3_0 {p : Program} {l : Launch} {e : Env} {s : State} {m : MethodId} {below : List Frame} {meth : Method} {c : Code} {Z : State} {a0 : Array Value} {n0 : Nat} {pk : Int64} {ff : Int32} {sk : Int32} {pk2 : Int32} {st : Int64} {sb : Addr} {mb : Addr} {sz : List Int32} {kk : Int32} {rr : Int32} {m0 : Int32} {s0 : Int32} {m1 : Int32} {s1 : Int32} {m2 : Int32} {s2 : Int32} {m3 : Int32} {s3 : Int32} (C : Cx p s m meth c Z a0 x.cls code maxLocals ret x.name) {T72 : State} {h74 : Heap} (X73 : St Z p l e room_1 s m #[(.long pk), (.int ff), (.int sk), (.int pk2), (.long st)] below meth c n0 T72 h74 (0 + 1 + 1) (0 + 5 + 4)) (A77 : La Z h74 sb .int (ia sz)) (A76 : La Z h74 mb .int ([(.int m0), (.int m1), (.int m2), (.int m3)])) (E78 : Exa Z h74 mb "[I") (ne_sb_mb : sb ≠ mb) (ga_sb : n0 ≤ sb) (ga_mb : n0 ≤ mb) (hl : sz.length = 5) (b0 : 0 ≤ m0.toInt ∧ m0.toInt < (5 : Nat)) (b1 : 0 ≤ m1.toInt ∧ m1.toInt < (5 : Nat)) (b2 : 0 ≤ m2.toInt ∧ m2.toInt < (5 : Nat)) (b3 : 0 ≤ m3.toInt ∧ m3.toInt < (5 : Nat)) (z0 : at32 sz m0 = s0) (z1 : at32 sz m1 = s1) (z2 : at32 sz m2 = s2) (z3 : at32 sz m3 = s3) (d01 : ¬ m0.toInt = m1.toInt) (d02 : ¬ m0.toInt = m2.toInt) (d03 : ¬ m0.toInt = m3.toInt) (d12 : ¬ m1.toInt = m2.toInt) (d13 : ¬ m1.toInt = m3.toInt) (d23 : ¬ m2.toInt = m3.toInt) : Go p e below (FinQ s room_1.cells room_1.slots n0 (fun v h' => v = some (.int 1))) (T72.setTop (mkF m 453 #[jv pk, sc, iv ff, iv sk, iv pk2, jv st, sc, rv sb, iv kk, iv m0, iv m1, iv m2, iv m3, rv mb, jv (s0.toInt64), sc, jv (s1.toInt64), sc, jv (s2.toInt64), sc, jv (s3.toInt64), sc, iv (3 : Int32), iv rr, un, un, un, iv (0 : Int32), un, un, un, un, un, un, un, un, un, un, un, un] [])) := by
  refine go_iconst C X73 454 rfl at_453 (z := 3) rfl ?_
  refine go_iload C X73 456 rfl at_454 rfl ?_
  refine go_isubL C X73 457 rfl at_456 (z := (3)) rfl ?_
  refine go_istore C X73 459 rfl at_457 #[jv pk, sc, iv ff, iv sk, iv pk2, jv st, sc, rv sb, iv kk, iv m0, iv m1, iv m2, iv m3, rv mb, jv (s0.toInt64), sc, jv (s1.toInt64), sc, jv (s2.toInt64), sc, jv (s3.toInt64), sc, iv (3 : Int32), iv rr, un, un, un, iv (0 : Int32), iv (3 : Int32), un, un, un, un, un, un, un, un, un, un, un] rfl ?_
  refine go_iload C X73 461 rfl at_459 rfl ?_
  refine go_if_ne C X73 at_461 (pc' := 464) (pc2 := 468) rfl (by decide) (by decide) (fun (c461 : ¬ (3 : Int32) = (0 : Int32)) => ?_) (fun (c461 : (3 : Int32) = (0 : Int32)) => False.elim (by first | omega | exact absurd c461 (by decide)))
  refine go_iconst C X73 469 rfl at_468 (z := 0) rfl ?_
  refine go_istore C X73 471 rfl at_469 #[jv pk, sc, iv ff, iv sk, iv pk2, jv st, sc, rv sb, iv kk, iv m0, iv m1, iv m2, iv m3, rv mb, jv (s0.toInt64), sc, jv (s1.toInt64), sc, jv (s2.toInt64), sc, jv (s3.toInt64), sc, iv (3 : Int32), iv rr, un, un, un, iv (0 : Int32), iv (3 : Int32), iv (0 : Int32), un, un, un, un, un, un, un, un, un, un] rfl ?_
  refine go_iload C X73 473 rfl at_471 rfl ?_
  refine go_iconst C X73 474 rfl at_473 (z := 1) rfl ?_
  refine go_icmp_gt C X73 at_474 (pc' := 477) (pc2 := 481) rfl (by decide) (by decide) (fun (c474 : 1 < 3) => ?_) (fun (c474 : 3 ≤ 1) => False.elim (by first | omega | exact absurd c474 (by decide)))
  refine go_iconst C X73 482 rfl at_481 (z := 1) rfl ?_
  refine go_istore C X73 484 rfl at_482 #[jv pk, sc, iv ff, iv sk, iv pk2, jv st, sc, rv sb, iv kk, iv m0, iv m1, iv m2, iv m3, rv mb, jv (s0.toInt64), sc, jv (s1.toInt64), sc, jv (s2.toInt64), sc, jv (s3.toInt64), sc, iv (3 : Int32), iv rr, un, un, un, iv (0 : Int32), iv (3 : Int32), iv (0 : Int32), iv (1 : Int32), un, un, un, un, un, un, un, un, un] rfl ?_
  refine go_iload C X73 486 rfl at_484 rfl ?_
  refine go_iconst C X73 487 rfl at_486 (z := 2) rfl ?_
  refine go_icmp_gt C X73 at_487 (pc' := 490) (pc2 := 494) rfl (by decide) (by decide) (fun (c487 : 2 < 3) => ?_) (fun (c487 : 3 ≤ 2) => False.elim (by first | omega | exact absurd c487 (by decide)))
  refine go_iconst C X73 495 rfl at_494 (z := 2) rfl ?_
  refine go_istore C X73 497 rfl at_495 #[jv pk, sc, iv ff, iv sk, iv pk2, jv st, sc, rv sb, iv kk, iv m0, iv m1, iv m2, iv m3, rv mb, jv (s0.toInt64), sc, jv (s1.toInt64), sc, jv (s2.toInt64), sc, jv (s3.toInt64), sc, iv (3 : Int32), iv rr, un, un, un, iv (0 : Int32), iv (3 : Int32), iv (0 : Int32), iv (1 : Int32), iv (2 : Int32), un, un, un, un, un, un, un, un] rfl ?_
  refine go_iconst C X73 498 rfl at_497 (z := 3) rfl ?_
  refine go_newarr C X73 (C.w 0 rfl) (cap := 3) (by decide) (by decide) (by decide) (by decide) (by decide) (pc' := 500) rfl at_498 (fun T567 h569 qb ha_qb ga_qb E570 A571  X568 => ?_)
  have ne_sb_qb : sb ≠ qb := Nat.ne_of_lt (Nat.lt_of_lt_of_le A77.lt (Nat.le_of_eq ha_qb.symm))
  have ne_mb_qb : mb ≠ qb := Nat.ne_of_lt (Nat.lt_of_lt_of_le A76.lt (Nat.le_of_eq ha_qb.symm))
  have A572 := A77.ext E570
  have A573 := A76.ext E570
  have E574 := E78.ext E570
  replace A571 : La Z h569 qb .int ([(.int (0 : Int32)), (.int (0 : Int32)), (.int (0 : Int32))]) := A571
  refine go_dup C X568 501 rfl at_500 rfl ?_
  refine go_iconst C X568 502 rfl at_501 (z := 0) rfl ?_
  refine go_aload C X568 504 rfl at_502 rfl rfl ?_
  refine go_iload C X568 506 rfl at_504 rfl ?_
  refine go_iaload C X568 A573 (by decide) (v := (.int m0)) rfl (pc' := 507) rfl at_506 ?_
  refine go_iastore C X568 A571 (by decide) (by show _ < (3 : Int); decide) ga_qb (pc' := 508) rfl at_507 (fun T575 h577 W578 A579 X576 => ?_)
  have A580 := A572.other W578 ne_sb_qb
  have A581 := A573.other W578 ne_mb_qb
  have E582 := E574.wr W578
  replace A579 : La Z h577 qb .int ([(.int m0), (.int (0 : Int32)), (.int (0 : Int32))]) := A579
  refine go_dup C X576 509 rfl at_508 rfl ?_
  refine go_iconst C X576 510 rfl at_509 (z := 1) rfl ?_
  refine go_aload C X576 512 rfl at_510 rfl rfl ?_
  refine go_iload C X576 514 rfl at_512 rfl ?_
  refine go_iaload C X576 A581 (by decide) (v := (.int m1)) rfl (pc' := 515) rfl at_514 ?_
  refine go_iastore C X576 A579 (by decide) (by show _ < (3 : Int); decide) ga_qb (pc' := 516) rfl at_515 (fun T583 h585 W586 A587 X584 => ?_)
  have A588 := A580.other W586 ne_sb_qb
  have A589 := A581.other W586 ne_mb_qb
  have E590 := E582.wr W586
  replace A587 : La Z h585 qb .int ([(.int m0), (.int m1), (.int (0 : Int32))]) := A587
  refine go_dup C X584 517 rfl at_516 rfl ?_
  refine go_iconst C X584 518 rfl at_517 (z := 2) rfl ?_
  refine go_aload C X584 520 rfl at_518 rfl rfl ?_
  refine go_iload C X584 522 rfl at_520 rfl ?_
  refine go_iaload C X584 A589 (by decide) (v := (.int m2)) rfl (pc' := 523) rfl at_522 ?_
  refine go_iastore C X584 A587 (by decide) (by show _ < (3 : Int); decide) ga_qb (pc' := 524) rfl at_523 (fun T591 h593 W594 A595 X592 => ?_)
  have A596 := A588.other W594 ne_sb_qb
  have A597 := A589.other W594 ne_mb_qb
  have E598 := E590.wr W594
  replace A595 : La Z h593 qb .int ([(.int m0), (.int m1), (.int m2)]) := A595
  refine go_astore C X592 526 rfl at_524 rfl #[jv pk, sc, iv ff, iv sk, iv pk2, jv st, sc, rv sb, iv kk, iv m0, iv m1, iv m2, iv m3, rv mb, jv (s0.toInt64), sc, jv (s1.toInt64), sc, jv (s2.toInt64), sc, jv (s3.toInt64), sc, iv (3 : Int32), iv rr, rv qb, un, un, iv (0 : Int32), iv (3 : Int32), iv (0 : Int32), iv (1 : Int32), iv (2 : Int32), un, un, un, un, un, un, un, un] rfl ?_
  refine go_lload C X592 528 rfl at_526 rfl ?_
  refine go_lload C X592 530 rfl at_528 rfl ?_
  refine go_lmul C X592 531 rfl at_530 ?_
  refine go_lload C X592 533 rfl at_531 rfl ?_
  refine go_lmul C X592 534 rfl at_533 ?_
  refine go_lstore C X592 536 rfl at_534 #[jv pk, sc, iv ff, iv sk, iv pk2, jv st, sc, rv sb, iv kk, iv m0, iv m1, iv m2, iv m3, rv mb, jv (s0.toInt64), sc, jv (s1.toInt64), sc, jv (s2.toInt64), sc, jv (s3.toInt64), sc, iv (3 : Int32), iv rr, rv qb, un, un, iv (0 : Int32), iv (3 : Int32), iv (0 : Int32), iv (1 : Int32), iv (2 : Int32), jv (((s0.toInt64) * (s1.toInt64)) * (s2.toInt64)), sc, un, un, un, un, un, un] rfl ?_
  refine go_lload C X592 538 rfl at_536 rfl ?_
  refine go_lload C X592 540 rfl at_538 rfl ?_
  refine go_lmul C X592 541 rfl at_540 ?_
  refine go_lload C X592 543 rfl at_541 rfl ?_
  refine go_lmul C X592 544 rfl at_543 ?_
  refine go_lstore C X592 546 rfl at_544 #[jv pk, sc, iv ff, iv sk, iv pk2, jv st, sc, rv sb, iv kk, iv m0, iv m1, iv m2, iv m3, rv mb, jv (s0.toInt64), sc, jv (s1.toInt64), sc, jv (s2.toInt64), sc, jv (s3.toInt64), sc, iv (3 : Int32), iv rr, rv qb, un, un, iv (0 : Int32), iv (3 : Int32), iv (0 : Int32), iv (1 : Int32), iv (2 : Int32), jv (((s0.toInt64) * (s1.toInt64)) * (s2.toInt64)), sc, jv (((s0.toInt64) * (s1.toInt64)) * (s3.toInt64)), sc, un, un, un, un] rfl ?_
  refine go_lload C X592 548 rfl at_546 rfl ?_
  refine go_lload C X592 550 rfl at_548 rfl ?_
  refine go_lmul C X592 551 rfl at_550 ?_
  refine go_lload C X592 553 rfl at_551 rfl ?_
  refine go_lmul C X592 554 rfl at_553 ?_
  refine go_lstore C X592 556 rfl at_554 #[jv pk, sc, iv ff, iv sk, iv pk2, jv st, sc, rv sb, iv kk, iv m0, iv m1, iv m2, iv m3, rv mb, jv (s0.toInt64), sc, jv (s1.toInt64), sc, jv (s2.toInt64), sc, jv (s3.toInt64), sc, iv (3 : Int32), iv rr, rv qb, un, un, iv (0 : Int32), iv (3 : Int32), iv (0 : Int32), iv (1 : Int32), iv (2 : Int32), jv (((s0.toInt64) * (s1.toInt64)) * (s2.toInt64)), sc, jv (((s0.toInt64) * (s1.toInt64)) * (s3.toInt64)), sc, jv (((s0.toInt64) * (s2.toInt64)) * (s3.toInt64)), sc, un, un] rfl ?_
  refine go_iload C X592 558 rfl at_556 rfl ?_
  refine go_if_le C X592 at_558 (pc' := 561) (pc2 := 566) rfl (by decide) (by decide) (fun (c558 : 0 ≤ 0) => ?_) (fun (c558 : 0 < 0) => False.elim (by first | omega | exact absurd c558 (by decide)))
  refine go_lconst C X592 567 rfl at_566 (z := 0) rfl ?_
  refine go_iload C X592 569 rfl at_567 rfl ?_
  refine go_iconst C X592 570 rfl at_569 (z := 1) rfl ?_
  refine go_icmp_le C X592 at_570 (pc' := 573) (pc2 := 578) rfl (by decide) (by decide) (fun (c570 : 0 ≤ 1) => ?_) (fun (c570 : 1 < 0) => False.elim (by first | omega | exact absurd c570 (by decide)))
  refine go_lconst C X592 579 rfl at_578 (z := 0) rfl ?_
  refine go_laddL C X592 580 rfl at_579 (z := (0)) rfl ?_
  refine go_iload C X592 582 rfl at_580 rfl ?_
  refine go_iconst C X592 583 rfl at_582 (z := 2) rfl ?_
  refine go_icmp_le C X592 at_583 (pc' := 586) (pc2 := 591) rfl (by decide) (by decide) (fun (c583 : 0 ≤ 2) => ?_) (fun (c583 : 2 < 0) => False.elim (by first | omega | exact absurd c583 (by decide)))
  refine go_lconst C X592 592 rfl at_591 (z := 0) rfl ?_
  refine go_laddL C X592 593 rfl at_592 (z := (0)) rfl ?_
  refine go_lstore C X592 595 rfl at_593 #[jv pk, sc, iv ff, iv sk, iv pk2, jv st, sc, rv sb, iv kk, iv m0, iv m1, iv m2, iv m3, rv mb, jv (s0.toInt64), sc, jv (s1.toInt64), sc, jv (s2.toInt64), sc, jv (s3.toInt64), sc, iv (3 : Int32), iv rr, rv qb, jv (0 : Int64), sc, iv (0 : Int32), iv (3 : Int32), iv (0 : Int32), iv (1 : Int32), iv (2 : Int32), jv (((s0.toInt64) * (s1.toInt64)) * (s2.toInt64)), sc, jv (((s0.toInt64) * (s1.toInt64)) * (s3.toInt64)), sc, jv (((s0.toInt64) * (s2.toInt64)) * (s3.toInt64)), sc, un, un] rfl ?_
  refine go_goto C X592 at_595 (pc' := 626) (by decide) (by decide) ?_
  refine go_new C X592 (C.w 7 rfl) (C.w 8 rfl) (C.w 9 rfl) (by decide) (by decide) (pc' := 629) rfl at_626 (fun T599 h601 ps ha_ps ga_ps E602 E603 D604 X600 => ?_)
  have ne_sb_ps : sb ≠ ps := Nat.ne_of_lt (Nat.lt_of_lt_of_le A596.lt (Nat.le_of_eq ha_ps.symm))
  have ne_mb_ps : mb ≠ ps := Nat.ne_of_lt (Nat.lt_of_lt_of_le A597.lt (Nat.le_of_eq ha_ps.symm))
  have ne_qb_ps : qb ≠ ps := Nat.ne_of_lt (Nat.lt_of_lt_of_le A595.lt (Nat.le_of_eq ha_ps.symm))
  have A605 := A596.ext E602
  have A606 := A597.ext E602
  have E607 := E598.ext E602
  have A608 := A595.ext E602
  have F609 : Fld Z h601 ps "com/example/covertide/covertide/engine/ParameterSets" "sizes" "[I" .null := D604 (Or.inr (C.w 17 rfl)) (ty := (.array .int)) (by decide)
  have F610 : Fld Z h601 ps "com/example/covertide/covertide/engine/ParameterSets" "members" "[I" .null := D604 (Or.inr (C.w 28 rfl)) (ty := (.array .int)) (by decide)
  have F611 : Fld Z h601 ps "com/example/covertide/covertide/engine/ParameterSets" "indexOf" "[I" .null := D604 (Or.inr (C.w 30 rfl)) (ty := (.array .int)) (by decide)
  have F612 : Fld Z h601 ps "com/example/covertide/covertide/engine/ParameterSets" "size" "I" (.int (0 : Int32)) := D604 (Or.inr (C.w 36 rfl)) (ty := .int) (by decide)
  have F613 : Fld Z h601 ps "com/example/covertide/covertide/engine/ParameterSets" "start" "J" (.long (0 : Int64)) := D604 (Or.inr (C.w 38 rfl)) (ty := .long) (by decide)
  have F614 : Fld Z h601 ps "com/example/covertide/covertide/engine/ParameterSets" "suffixSums" "[[J" .null := D604 (Or.inr (C.w 50 rfl)) (ty := (.array (.array .long))) (by decide)
  have F615 : Fld Z h601 ps "com/example/covertide/covertide/engine/ParameterSets" "combinations" "J" (.long (0 : Int64)) := D604 (Or.inr (C.w 52 rfl)) (ty := .long) (by decide)
  refine go_dup C X600 630 rfl at_629 rfl ?_
  refine go_aload C X600 632 rfl at_630 rfl rfl ?_
  refine go_aload C X600 634 rfl at_632 rfl rfl ?_
  refine go_iload C X600 636 rfl at_634 rfl ?_
  refine go_lload C X600 638 rfl at_636 rfl ?_
  have hsz_638 := X600.sz
  have lt_sb_638 := A605.lt
  have lt_mb_638 := A606.lt
  have lt_qb_638 := A608.lt
  have lt_ps_638 := E603.lt
  refine go_special C X600 (C.w 10 rfl) (C.w 11 rfl) (C.w 9 rfl) (C.w 12 rfl) rfl (own_init_3 l Z a0 C.ws ps sb mb st sz m0 m1 m2 m3 s0 s1 s2 s3 h601 n0 X600.old E603 F609 F610 F611 F612 F613 F614 F615 A605 A606 E607 ga_ps (Ne.symm ne_sb_ps) (Ne.symm ne_mb_ps) hl b0 z0 b1 z1 b2 z2 b3 z3) (argsL := [(.ref sb), (.ref mb), (.int (3 : Int32)), (.long st)]) (rest := [(.ref ps)]) (lenOf pd_4 rfl) rfl (by decide) (by decide) (Nat.le_of_ble_eq_true rfl) (by decide) (by decide) rfl rfl (pc' := 641) rfl at_638 ?_
  rintro T616 h618 _ ⟨rfl, xb, ob, r0, r1, r2, r3, K6, E6, Fs, Fx, Ft, Fu, sx6, so6, sz6r0, sz6r1, sz6r2, sz6r3, Ax6, Ao6, A6r0, A6r1, A6r2, A6r3⟩ X617
  show Go p e below _ (T616.setTop (mkF m 641 #[jv pk, sc, iv ff, iv sk, iv pk2, jv st, sc, rv sb, iv kk, iv m0, iv m1, iv m2, iv m3, rv mb, jv (s0.toInt64), sc, jv (s1.toInt64), sc, jv (s2.toInt64), sc, jv (s3.toInt64), sc, iv (3 : Int32), iv rr, rv qb, jv (0 : Int64), sc, iv (0 : Int32), iv (3 : Int32), iv (0 : Int32), iv (1 : Int32), iv (2 : Int32), jv (((s0.toInt64) * (s1.toInt64)) * (s2.toInt64)), sc, jv (((s0.toInt64) * (s1.toInt64)) * (s3.toInt64)), sc, jv (((s0.toInt64) * (s2.toInt64)) * (s3.toInt64)), sc, un, un] [(.ref ps)]))
  have ne_sb_xb : sb ≠ xb := Nat.ne_of_lt (Nat.lt_of_lt_of_le lt_sb_638 sx6)
  have ne_mb_xb : mb ≠ xb := Nat.ne_of_lt (Nat.lt_of_lt_of_le lt_mb_638 sx6)
  have ne_qb_xb : qb ≠ xb := Nat.ne_of_lt (Nat.lt_of_lt_of_le lt_qb_638 sx6)
  have ne_ps_xb : ps ≠ xb := Nat.ne_of_lt (Nat.lt_of_lt_of_le lt_ps_638 sx6)
  have ga_xb : n0 ≤ xb := Nat.le_trans hsz_638 sx6
  have ne_sb_ob : sb ≠ ob := Nat.ne_of_lt (Nat.lt_of_lt_of_le lt_sb_638 so6)
  have ne_mb_ob : mb ≠ ob := Nat.ne_of_lt (Nat.lt_of_lt_of_le lt_mb_638 so6)
  have ne_qb_ob : qb ≠ ob := Nat.ne_of_lt (Nat.lt_of_lt_of_le lt_qb_638 so6)
  have ne_ps_ob : ps ≠ ob := Nat.ne_of_lt (Nat.lt_of_lt_of_le lt_ps_638 so6)
  have ga_ob : n0 ≤ ob := Nat.le_trans hsz_638 so6
  have ne_sb_r0 : sb ≠ r0 := Nat.ne_of_lt (Nat.lt_of_lt_of_le lt_sb_638 sz6r0)
  have ne_mb_r0 : mb ≠ r0 := Nat.ne_of_lt (Nat.lt_of_lt_of_le lt_mb_638 sz6r0)
  have ne_qb_r0 : qb ≠ r0 := Nat.ne_of_lt (Nat.lt_of_lt_of_le lt_qb_638 sz6r0)
  have ne_ps_r0 : ps ≠ r0 := Nat.ne_of_lt (Nat.lt_of_lt_of_le lt_ps_638 sz6r0)
  have ga_r0 : n0 ≤ r0 := Nat.le_trans hsz_638 sz6r0
  have ne_sb_r1 : sb ≠ r1 := Nat.ne_of_lt (Nat.lt_of_lt_of_le lt_sb_638 sz6r1)
  have ne_mb_r1 : mb ≠ r1 := Nat.ne_of_lt (Nat.lt_of_lt_of_le lt_mb_638 sz6r1)
  have ne_qb_r1 : qb ≠ r1 := Nat.ne_of_lt (Nat.lt_of_lt_of_le lt_qb_638 sz6r1)
  have ne_ps_r1 : ps ≠ r1 := Nat.ne_of_lt (Nat.lt_of_lt_of_le lt_ps_638 sz6r1)
  have ga_r1 : n0 ≤ r1 := Nat.le_trans hsz_638 sz6r1
  have ne_sb_r2 : sb ≠ r2 := Nat.ne_of_lt (Nat.lt_of_lt_of_le lt_sb_638 sz6r2)
  have ne_mb_r2 : mb ≠ r2 := Nat.ne_of_lt (Nat.lt_of_lt_of_le lt_mb_638 sz6r2)
  have ne_qb_r2 : qb ≠ r2 := Nat.ne_of_lt (Nat.lt_of_lt_of_le lt_qb_638 sz6r2)
  have ne_ps_r2 : ps ≠ r2 := Nat.ne_of_lt (Nat.lt_of_lt_of_le lt_ps_638 sz6r2)
  have ga_r2 : n0 ≤ r2 := Nat.le_trans hsz_638 sz6r2
  have ne_sb_r3 : sb ≠ r3 := Nat.ne_of_lt (Nat.lt_of_lt_of_le lt_sb_638 sz6r3)
  have ne_mb_r3 : mb ≠ r3 := Nat.ne_of_lt (Nat.lt_of_lt_of_le lt_mb_638 sz6r3)
  have ne_qb_r3 : qb ≠ r3 := Nat.ne_of_lt (Nat.lt_of_lt_of_le lt_qb_638 sz6r3)
  have ne_ps_r3 : ps ≠ r3 := Nat.ne_of_lt (Nat.lt_of_lt_of_le lt_ps_638 sz6r3)
  have ga_r3 : n0 ≤ r3 := Nat.le_trans hsz_638 sz6r3
  have A619 := A605.keep K6 (ninS ne_sb_ps nin0)
  have A620 := A606.keep K6 (ninS ne_mb_ps nin0)
  have E621 := E607.keep K6
  have A622 := A608.keep K6 (ninS ne_qb_ps nin0)
  have E623 := E603.keep K6
  have xl : ((put32 (put32 (put32 (put32 [-1, -1, -1, -1, -1] m0 0) m1 1) m2 2) m3 3)).length = 5 := by simp [put32_len]
  have x0 : at32 (put32 (put32 (put32 (put32 [-1, -1, -1, -1, -1] m0 0) m1 1) m2 2) m3 3) m0 = 0 := by rw [own_put_miss b3.1 b0.1 (fun q => d03 q.symm)]; rw [own_put_miss b2.1 b0.1 (fun q => d02 q.symm)]; rw [own_put_miss b1.1 b0.1 (fun q => d01 q.symm)]; exact own_put_hit b0.1 (by simpa [put32_len] using b0.2)
  have x1 : at32 (put32 (put32 (put32 (put32 [-1, -1, -1, -1, -1] m0 0) m1 1) m2 2) m3 3) m1 = 1 := by rw [own_put_miss b3.1 b1.1 (fun q => d13 q.symm)]; rw [own_put_miss b2.1 b1.1 (fun q => d12 q.symm)]; exact own_put_hit b1.1 (by simpa [put32_len] using b1.2)
  have x2 : at32 (put32 (put32 (put32 (put32 [-1, -1, -1, -1, -1] m0 0) m1 1) m2 2) m3 3) m2 = 2 := by rw [own_put_miss b3.1 b2.1 (fun q => d23 q.symm)]; exact own_put_hit b2.1 (by simpa [put32_len] using b2.2)
  have x3 : at32 (put32 (put32 (put32 (put32 [-1, -1, -1, -1, -1] m0 0) m1 1) m2 2) m3 3) m3 = 3 := by exact own_put_hit b3.1 (by simpa [put32_len] using b3.2)
  generalize (put32 (put32 (put32 (put32 [-1, -1, -1, -1, -1] m0 0) m1 1) m2 2) m3 3) = ix at *
  refine go_astore C X617 643 rfl at_641 rfl #[jv pk, sc, iv ff, iv sk, iv pk2, jv st, sc, rv sb, iv kk, iv m0, iv m1, iv m2, iv m3, rv mb, jv (s0.toInt64), sc, jv (s1.toInt64), sc, jv (s2.toInt64), sc, jv (s3.toInt64), sc, iv (3 : Int32), iv rr, rv qb, jv (0 : Int64), sc, rv ps, iv (3 : Int32), iv (0 : Int32), iv (1 : Int32), iv (2 : Int32), jv (((s0.toInt64) * (s1.toInt64)) * (s2.toInt64)), sc, jv (((s0.toInt64) * (s1.toInt64)) * (s3.toInt64)), sc, jv (((s0.toInt64) * (s2.toInt64)) * (s3.toInt64)), sc, un, un] rfl ?_
  refine go_aload C X617 645 rfl at_643 rfl rfl ?_
  refine go_aload C X617 647 rfl at_645 rfl rfl ?_
  refine go_virtual C X617 E6 (C.w 53 rfl) (C.w 54 rfl) (notFace_of_selects (args := #[]) (mvT C.hZ (C.w 56 rfl))) (C.w 56 rfl) (C.w 55 rfl) (C.w 9 rfl) (C.w 57 rfl) (own_bit_3_0 l Z a0 C.ws ps qb sb xb ob r0 r1 r2 r3 sz ix m0 m1 m2 m3 s0 s1 s2 s3 st _ _ _ _ _ _ _ _ _ _ _ _ _ _ _ _ _ _ _ _ h618 n0 X617.old Fs Fx Ft Fu A619 Ax6 Ao6 A6r0 A6r1 A6r2 A6r3 A622 hl xl b0 z0 b1 z1 b2 z2 b3 z3 x0 x1 x2 x3) (argsL := [(.ref qb)]) (rest := []) (lenOf pd_5 rfl) rfl (by decide) (by decide) (Nat.le_of_ble_eq_true rfl) (by decide) (by decide) rfl rfl (pc' := 650) rfl at_647 ?_
  rintro T624 _ _ ⟨rfl, rfl⟩ X625
  show Go p e below _ (T624.setTop (mkF m 650 #[jv pk, sc, iv ff, iv sk, iv pk2, jv st, sc, rv sb, iv kk, iv m0, iv m1, iv m2, iv m3, rv mb, jv (s0.toInt64), sc, jv (s1.toInt64), sc, jv (s2.toInt64), sc, jv (s3.toInt64), sc, iv (3 : Int32), iv rr, rv qb, jv (0 : Int64), sc, rv ps, iv (3 : Int32), iv (0 : Int32), iv (1 : Int32), iv (2 : Int32), jv (((s0.toInt64) * (s1.toInt64)) * (s2.toInt64)), sc, jv (((s0.toInt64) * (s1.toInt64)) * (s3.toInt64)), sc, jv (((s0.toInt64) * (s2.toInt64)) * (s3.toInt64)), sc, un, un] [(.long (st + ((((0 : Int64) + ((1 : Int64) * ((((((0 : Int64) + (s3.toInt64 * (0 : Int64))) + (s2.toInt64 * ((0 : Int64) + (s3.toInt64 * (0 : Int64))))) + (s1.toInt64 * (((0 : Int64) + (s3.toInt64 * (0 : Int64))) + (s2.toInt64 * ((0 : Int64) + (s3.toInt64 * (1 : Int64))))))) + (s0.toInt64 * ((((0 : Int64) + (s3.toInt64 * (0 : Int64))) + (s2.toInt64 * ((0 : Int64) + (s3.toInt64 * (1 : Int64))))) + (s1.toInt64 * (((0 : Int64) + (s3.toInt64 * (1 : Int64))) + (s2.toInt64 * (1 : Int64))))))) - (((((0 : Int64) + (s3.toInt64 * (0 : Int64))) + (s2.toInt64 * ((0 : Int64) + (s3.toInt64 * (0 : Int64))))) + (s1.toInt64 * (((0 : Int64) + (s3.toInt64 * (0 : Int64))) + (s2.toInt64 * ((0 : Int64) + (s3.toInt64 * (1 : Int64))))))) + (s0.toInt64 * ((((0 : Int64) + (s3.toInt64 * (0 : Int64))) + (s2.toInt64 * ((0 : Int64) + (s3.toInt64 * (1 : Int64))))) + (s1.toInt64 * (((0 : Int64) + (s3.toInt64 * (1 : Int64))) + (s2.toInt64 * (1 : Int64)))))))))) + (((1 : Int64) * s0.toInt64) * (((((0 : Int64) + (s3.toInt64 * (0 : Int64))) + (s2.toInt64 * ((0 : Int64) + (s3.toInt64 * (1 : Int64))))) + (s1.toInt64 * (((0 : Int64) + (s3.toInt64 * (1 : Int64))) + (s2.toInt64 * (1 : Int64))))) - ((((0 : Int64) + (s3.toInt64 * (0 : Int64))) + (s2.toInt64 * ((0 : Int64) + (s3.toInt64 * (1 : Int64))))) + (s1.toInt64 * (((0 : Int64) + (s3.toInt64 * (1 : Int64))) + (s2.toInt64 * (1 : Int64)))))))) + ((((1 : Int64) * s0.toInt64) * s1.toInt64) * ((((0 : Int64) + (s3.toInt64 * (1 : Int64))) + (s2.toInt64 * (1 : Int64))) - (((0 : Int64) + (s3.toInt64 * (1 : Int64))) + (s2.toInt64 * (1 : Int64))))))))]))
  refine go_lload C X625 652 rfl at_650 rfl ?_
  refine go_lload C X625 654 rfl at_652 rfl ?_
  refine go_ladd C X625 655 rfl at_654 ?_
  refine go_lif_ne C X625 (pc1 := 656) rfl at_655 at_656 (pc' := 659) (pc2 := 663) rfl (by decide) (by decide) (fun c656 => False.elim (c656 (own_id_3_0 s0 s1 s2 s3 st))) (fun _ => ?_)
  refine go_iconst C X625 660 rfl at_659 (z := 1) rfl ?_
  refine go_goto C X625 at_660 (pc' := 664) (by decide) (by decide) ?_
  exact go_retN C X625 (by simp) (z' := 1) rfl at_664 rfl (by decide) (by decide)
set_option maxRecDepth 65536 in
set_option maxHeartbeats 40000000 in
theorem own_arm_3_1 {p : Program} {l : Launch} {e : Env} {s : State} {m : MethodId} {below : List Frame} {meth : Method} {c : Code} {Z : State} {a0 : Array Value} {n0 : Nat} {pk : Int64} {ff : Int32} {sk : Int32} {pk2 : Int32} {st : Int64} {sb : Addr} {mb : Addr} {sz : List Int32} {kk : Int32} {rr : Int32} {m0 : Int32} {s0 : Int32} {m1 : Int32} {s1 : Int32} {m2 : Int32} {s2 : Int32} {m3 : Int32} {s3 : Int32} (C : Cx p s m meth c Z a0 x.cls code maxLocals ret x.name) {T72 : State} {h74 : Heap} (X73 : St Z p l e room_1 s m #[(.long pk), (.int ff), (.int sk), (.int pk2), (.long st)] below meth c n0 T72 h74 (0 + 1 + 1) (0 + 5 + 4)) (A77 : La Z h74 sb .int (ia sz)) (A76 : La Z h74 mb .int ([(.int m0), (.int m1), (.int m2), (.int m3)])) (E78 : Exa Z h74 mb "[I") (ne_sb_mb : sb ≠ mb) (ga_sb : n0 ≤ sb) (ga_mb : n0 ≤ mb) (hl : sz.length = 5) (b0 : 0 ≤ m0.toInt ∧ m0.toInt < (5 : Nat)) (b1 : 0 ≤ m1.toInt ∧ m1.toInt < (5 : Nat)) (b2 : 0 ≤ m2.toInt ∧ m2.toInt < (5 : Nat)) (b3 : 0 ≤ m3.toInt ∧ m3.toInt < (5 : Nat)) (z0 : at32 sz m0 = s0) (z1 : at32 sz m1 = s1) (z2 : at32 sz m2 = s2) (z3 : at32 sz m3 = s3) (d01 : ¬ m0.toInt = m1.toInt) (d02 : ¬ m0.toInt = m2.toInt) (d03 : ¬ m0.toInt = m3.toInt) (d12 : ¬ m1.toInt = m2.toInt) (d13 : ¬ m1.toInt = m3.toInt) (d23 : ¬ m2.toInt = m3.toInt) : Go p e below (FinQ s room_1.cells room_1.slots n0 (fun v h' => v = some (.int 1))) (T72.setTop (mkF m 453 #[jv pk, sc, iv ff, iv sk, iv pk2, jv st, sc, rv sb, iv kk, iv m0, iv m1, iv m2, iv m3, rv mb, jv (s0.toInt64), sc, jv (s1.toInt64), sc, jv (s2.toInt64), sc, jv (s3.toInt64), sc, iv (3 : Int32), iv rr, un, un, un, iv (1 : Int32), un, un, un, un, un, un, un, un, un, un, un, un] [])) := by
  refine go_iconst C X73 454 rfl at_453 (z := 3) rfl ?_
  refine go_iload C X73 456 rfl at_454 rfl ?_
  refine go_isubL C X73 457 rfl at_456 (z := (2)) rfl ?_
  refine go_istore C X73 459 rfl at_457 #[jv pk, sc, iv ff, iv sk, iv pk2, jv st, sc, rv sb, iv kk, iv m0, iv m1, iv m2, iv m3, rv mb, jv (s0.toInt64), sc, jv (s1.toInt64), sc, jv (s2.toInt64), sc, jv (s3.toInt64), sc, iv (3 : Int32), iv rr, un, un, un, iv (1 : Int32), iv (2 : Int32), un, un, un, un, un, un, un, un, un, un, un] rfl ?_
  refine go_iload C X73 461 rfl at_459 rfl ?_
  refine go_if_ne C X73 at_461 (pc' := 464) (pc2 := 468) rfl (by decide) (by decide) (fun (c461 : ¬ (2 : Int32) = (0 : Int32)) => ?_) (fun (c461 : (2 : Int32) = (0 : Int32)) => False.elim (by first | omega | exact absurd c461 (by decide)))
  refine go_iconst C X73 469 rfl at_468 (z := 0) rfl ?_
  refine go_istore C X73 471 rfl at_469 #[jv pk, sc, iv ff, iv sk, iv pk2, jv st, sc, rv sb, iv kk, iv m0, iv m1, iv m2, iv m3, rv mb, jv (s0.toInt64), sc, jv (s1.toInt64), sc, jv (s2.toInt64), sc, jv (s3.toInt64), sc, iv (3 : Int32), iv rr, un, un, un, iv (1 : Int32), iv (2 : Int32), iv (0 : Int32), un, un, un, un, un, un, un, un, un, un] rfl ?_
  refine go_iload C X73 473 rfl at_471 rfl ?_
  refine go_iconst C X73 474 rfl at_473 (z := 1) rfl ?_
  refine go_icmp_gt C X73 at_474 (pc' := 477) (pc2 := 481) rfl (by decide) (by decide) (fun (c474 : 1 < 2) => ?_) (fun (c474 : 2 ≤ 1) => False.elim (by first | omega | exact absurd c474 (by decide)))
  refine go_iconst C X73 482 rfl at_481 (z := 1) rfl ?_
  refine go_istore C X73 484 rfl at_482 #[jv pk, sc, iv ff, iv sk, iv pk2, jv st, sc, rv sb, iv kk, iv m0, iv m1, iv m2, iv m3, rv mb, jv (s0.toInt64), sc, jv (s1.toInt64), sc, jv (s2.toInt64), sc, jv (s3.toInt64), sc, iv (3 : Int32), iv rr, un, un, un, iv (1 : Int32), iv (2 : Int32), iv (0 : Int32), iv (1 : Int32), un, un, un, un, un, un, un, un, un] rfl ?_
  refine go_iload C X73 486 rfl at_484 rfl ?_
  refine go_iconst C X73 487 rfl at_486 (z := 2) rfl ?_
  refine go_icmp_gt C X73 at_487 (pc' := 490) (pc2 := 494) rfl (by decide) (by decide) (fun (c487 : 2 < 2) => False.elim (by first | omega | exact absurd c487 (by decide))) (fun (c487 : 2 ≤ 2) => ?_)
  refine go_iconst C X73 491 rfl at_490 (z := 3) rfl ?_
  refine go_goto C X73 at_491 (pc' := 495) (by decide) (by decide) ?_
  refine go_istore C X73 497 rfl at_495 #[jv pk, sc, iv ff, iv sk, iv pk2, jv st, sc, rv sb, iv kk, iv m0, iv m1, iv m2, iv m3, rv mb, jv (s0.toInt64), sc, jv (s1.toInt64), sc, jv (s2.toInt64), sc, jv (s3.toInt64), sc, iv (3 : Int32), iv rr, un, un, un, iv (1 : Int32), iv (2 : Int32), iv (0 : Int32), iv (1 : Int32), iv (3 : Int32), un, un, un, un, un, un, un, un] rfl ?_
  refine go_iconst C X73 498 rfl at_497 (z := 3) rfl ?_
  refine go_newarr C X73 (C.w 0 rfl) (cap := 3) (by decide) (by decide) (by decide) (by decide) (by decide) (pc' := 500) rfl at_498 (fun T627 h629 qb ha_qb ga_qb E630 A631  X628 => ?_)
  have ne_sb_qb : sb ≠ qb := Nat.ne_of_lt (Nat.lt_of_lt_of_le A77.lt (Nat.le_of_eq ha_qb.symm))
  have ne_mb_qb : mb ≠ qb := Nat.ne_of_lt (Nat.lt_of_lt_of_le A76.lt (Nat.le_of_eq ha_qb.symm))
  have A632 := A77.ext E630
  have A633 := A76.ext E630
  have E634 := E78.ext E630
  replace A631 : La Z h629 qb .int ([(.int (0 : Int32)), (.int (0 : Int32)), (.int (0 : Int32))]) := A631
  refine go_dup C X628 501 rfl at_500 rfl ?_
  refine go_iconst C X628 502 rfl at_501 (z := 0) rfl ?_
  refine go_aload C X628 504 rfl at_502 rfl rfl ?_
  refine go_iload C X628 506 rfl at_504 rfl ?_
  refine go_iaload C X628 A633 (by decide) (v := (.int m0)) rfl (pc' := 507) rfl at_506 ?_
  refine go_iastore C X628 A631 (by decide) (by show _ < (3 : Int); decide) ga_qb (pc' := 508) rfl at_507 (fun T635 h637 W638 A639 X636 => ?_)
  have A640 := A632.other W638 ne_sb_qb
  have A641 := A633.other W638 ne_mb_qb
  have E642 := E634.wr W638
  replace A639 : La Z h637 qb .int ([(.int m0), (.int (0 : Int32)), (.int (0 : Int32))]) := A639
  refine go_dup C X636 509 rfl at_508 rfl ?_
  refine go_iconst C X636 510 rfl at_509 (z := 1) rfl ?_
  refine go_aload C X636 512 rfl at_510 rfl rfl ?_
  refine go_iload C X636 514 rfl at_512 rfl ?_
  refine go_iaload C X636 A641 (by decide) (v := (.int m1)) rfl (pc' := 515) rfl at_514 ?_
  refine go_iastore C X636 A639 (by decide) (by show _ < (3 : Int); decide) ga_qb (pc' := 516) rfl at_515 (fun T643 h645 W646 A647 X644 => ?_)
  have A648 := A640.other W646 ne_sb_qb
  have A649 := A641.other W646 ne_mb_qb
  have E650 := E642.wr W646
  replace A647 : La Z h645 qb .int ([(.int m0), (.int m1), (.int (0 : Int32))]) := A647
  refine go_dup C X644 517 rfl at_516 rfl ?_
  refine go_iconst C X644 518 rfl at_517 (z := 2) rfl ?_
  refine go_aload C X644 520 rfl at_518 rfl rfl ?_
  refine go_iload C X644 522 rfl at_520 rfl ?_
  refine go_iaload C X644 A649 (by decide) (v := (.int m3)) rfl (pc' := 523) rfl at_522 ?_
  refine go_iastore C X644 A647 (by decide) (by show _ < (3 : Int); decide) ga_qb (pc' := 524) rfl at_523 (fun T651 h653 W654 A655 X652 => ?_)
  have A656 := A648.other W654 ne_sb_qb
  have A657 := A649.other W654 ne_mb_qb
  have E658 := E650.wr W654
  replace A655 : La Z h653 qb .int ([(.int m0), (.int m1), (.int m3)]) := A655
  refine go_astore C X652 526 rfl at_524 rfl #[jv pk, sc, iv ff, iv sk, iv pk2, jv st, sc, rv sb, iv kk, iv m0, iv m1, iv m2, iv m3, rv mb, jv (s0.toInt64), sc, jv (s1.toInt64), sc, jv (s2.toInt64), sc, jv (s3.toInt64), sc, iv (3 : Int32), iv rr, rv qb, un, un, iv (1 : Int32), iv (2 : Int32), iv (0 : Int32), iv (1 : Int32), iv (3 : Int32), un, un, un, un, un, un, un, un] rfl ?_
  refine go_lload C X652 528 rfl at_526 rfl ?_
  refine go_lload C X652 530 rfl at_528 rfl ?_
  refine go_lmul C X652 531 rfl at_530 ?_
  refine go_lload C X652 533 rfl at_531 rfl ?_
  refine go_lmul C X652 534 rfl at_533 ?_
  refine go_lstore C X652 536 rfl at_534 #[jv pk, sc, iv ff, iv sk, iv pk2, jv st, sc, rv sb, iv kk, iv m0, iv m1, iv m2, iv m3, rv mb, jv (s0.toInt64), sc, jv (s1.toInt64), sc, jv (s2.toInt64), sc, jv (s3.toInt64), sc, iv (3 : Int32), iv rr, rv qb, un, un, iv (1 : Int32), iv (2 : Int32), iv (0 : Int32), iv (1 : Int32), iv (3 : Int32), jv (((s0.toInt64) * (s1.toInt64)) * (s2.toInt64)), sc, un, un, un, un, un, un] rfl ?_
  refine go_lload C X652 538 rfl at_536 rfl ?_
  refine go_lload C X652 540 rfl at_538 rfl ?_
  refine go_lmul C X652 541 rfl at_540 ?_
  refine go_lload C X652 543 rfl at_541 rfl ?_
  refine go_lmul C X652 544 rfl at_543 ?_
  refine go_lstore C X652 546 rfl at_544 #[jv pk, sc, iv ff, iv sk, iv pk2, jv st, sc, rv sb, iv kk, iv m0, iv m1, iv m2, iv m3, rv mb, jv (s0.toInt64), sc, jv (s1.toInt64), sc, jv (s2.toInt64), sc, jv (s3.toInt64), sc, iv (3 : Int32), iv rr, rv qb, un, un, iv (1 : Int32), iv (2 : Int32), iv (0 : Int32), iv (1 : Int32), iv (3 : Int32), jv (((s0.toInt64) * (s1.toInt64)) * (s2.toInt64)), sc, jv (((s0.toInt64) * (s1.toInt64)) * (s3.toInt64)), sc, un, un, un, un] rfl ?_
  refine go_lload C X652 548 rfl at_546 rfl ?_
  refine go_lload C X652 550 rfl at_548 rfl ?_
  refine go_lmul C X652 551 rfl at_550 ?_
  refine go_lload C X652 553 rfl at_551 rfl ?_
  refine go_lmul C X652 554 rfl at_553 ?_
  refine go_lstore C X652 556 rfl at_554 #[jv pk, sc, iv ff, iv sk, iv pk2, jv st, sc, rv sb, iv kk, iv m0, iv m1, iv m2, iv m3, rv mb, jv (s0.toInt64), sc, jv (s1.toInt64), sc, jv (s2.toInt64), sc, jv (s3.toInt64), sc, iv (3 : Int32), iv rr, rv qb, un, un, iv (1 : Int32), iv (2 : Int32), iv (0 : Int32), iv (1 : Int32), iv (3 : Int32), jv (((s0.toInt64) * (s1.toInt64)) * (s2.toInt64)), sc, jv (((s0.toInt64) * (s1.toInt64)) * (s3.toInt64)), sc, jv (((s0.toInt64) * (s2.toInt64)) * (s3.toInt64)), sc, un, un] rfl ?_
  refine go_iload C X652 558 rfl at_556 rfl ?_
  refine go_if_le C X652 at_558 (pc' := 561) (pc2 := 566) rfl (by decide) (by decide) (fun (c558 : 1 ≤ 0) => False.elim (by first | omega | exact absurd c558 (by decide))) (fun (c558 : 0 < 1) => ?_)
  refine go_lload C X652 563 rfl at_561 rfl ?_
  refine go_goto C X652 at_563 (pc' := 567) (by decide) (by decide) ?_
  refine go_iload C X652 569 rfl at_567 rfl ?_
  refine go_iconst C X652 570 rfl at_569 (z := 1) rfl ?_
  refine go_icmp_le C X652 at_570 (pc' := 573) (pc2 := 578) rfl (by decide) (by decide) (fun (c570 : 1 ≤ 1) => ?_) (fun (c570 : 1 < 1) => False.elim (by first | omega | exact absurd c570 (by decide)))
  refine go_lconst C X652 579 rfl at_578 (z := 0) rfl ?_
  refine go_ladd C X652 580 rfl at_579 ?_
  refine go_iload C X652 582 rfl at_580 rfl ?_
  refine go_iconst C X652 583 rfl at_582 (z := 2) rfl ?_
  refine go_icmp_le C X652 at_583 (pc' := 586) (pc2 := 591) rfl (by decide) (by decide) (fun (c583 : 1 ≤ 2) => ?_) (fun (c583 : 2 < 1) => False.elim (by first | omega | exact absurd c583 (by decide)))
  refine go_lconst C X652 592 rfl at_591 (z := 0) rfl ?_
  refine go_ladd C X652 593 rfl at_592 ?_
  refine go_lstore C X652 595 rfl at_593 #[jv pk, sc, iv ff, iv sk, iv pk2, jv st, sc, rv sb, iv kk, iv m0, iv m1, iv m2, iv m3, rv mb, jv (s0.toInt64), sc, jv (s1.toInt64), sc, jv (s2.toInt64), sc, jv (s3.toInt64), sc, iv (3 : Int32), iv rr, rv qb, jv (((((s0.toInt64) * (s1.toInt64)) * (s2.toInt64)) + (0 : Int64)) + (0 : Int64)), sc, iv (1 : Int32), iv (2 : Int32), iv (0 : Int32), iv (1 : Int32), iv (3 : Int32), jv (((s0.toInt64) * (s1.toInt64)) * (s2.toInt64)), sc, jv (((s0.toInt64) * (s1.toInt64)) * (s3.toInt64)), sc, jv (((s0.toInt64) * (s2.toInt64)) * (s3.toInt64)), sc, un, un] rfl ?_
  refine go_goto C X652 at_595 (pc' := 626) (by decide) (by decide) ?_
  refine go_new C X652 (C.w 7 rfl) (C.w 8 rfl) (C.w 9 rfl) (by decide) (by decide) (pc' := 629) rfl at_626 (fun T659 h661 ps ha_ps ga_ps E662 E663 D664 X660 => ?_)
  have ne_sb_ps : sb ≠ ps := Nat.ne_of_lt (Nat.lt_of_lt_of_le A656.lt (Nat.le_of_eq ha_ps.symm))
  have ne_mb_ps : mb ≠ ps := Nat.ne_of_lt (Nat.lt_of_lt_of_le A657.lt (Nat.le_of_eq ha_ps.symm))
  have ne_qb_ps : qb ≠ ps := Nat.ne_of_lt (Nat.lt_of_lt_of_le A655.lt (Nat.le_of_eq ha_ps.symm))
  have A665 := A656.ext E662
  have A666 := A657.ext E662
  have E667 := E658.ext E662
  have A668 := A655.ext E662
  have F669 : Fld Z h661 ps "com/example/covertide/covertide/engine/ParameterSets" "sizes" "[I" .null := D664 (Or.inr (C.w 17 rfl)) (ty := (.array .int)) (by decide)
  have F670 : Fld Z h661 ps "com/example/covertide/covertide/engine/ParameterSets" "members" "[I" .null := D664 (Or.inr (C.w 28 rfl)) (ty := (.array .int)) (by decide)
  have F671 : Fld Z h661 ps "com/example/covertide/covertide/engine/ParameterSets" "indexOf" "[I" .null := D664 (Or.inr (C.w 30 rfl)) (ty := (.array .int)) (by decide)
  have F672 : Fld Z h661 ps "com/example/covertide/covertide/engine/ParameterSets" "size" "I" (.int (0 : Int32)) := D664 (Or.inr (C.w 36 rfl)) (ty := .int) (by decide)
  have F673 : Fld Z h661 ps "com/example/covertide/covertide/engine/ParameterSets" "start" "J" (.long (0 : Int64)) := D664 (Or.inr (C.w 38 rfl)) (ty := .long) (by decide)
  have F674 : Fld Z h661 ps "com/example/covertide/covertide/engine/ParameterSets" "suffixSums" "[[J" .null := D664 (Or.inr (C.w 50 rfl)) (ty := (.array (.array .long))) (by decide)
  have F675 : Fld Z h661 ps "com/example/covertide/covertide/engine/ParameterSets" "combinations" "J" (.long (0 : Int64)) := D664 (Or.inr (C.w 52 rfl)) (ty := .long) (by decide)
  refine go_dup C X660 630 rfl at_629 rfl ?_
  refine go_aload C X660 632 rfl at_630 rfl rfl ?_
  refine go_aload C X660 634 rfl at_632 rfl rfl ?_
  refine go_iload C X660 636 rfl at_634 rfl ?_
  refine go_lload C X660 638 rfl at_636 rfl ?_
  have hsz_638 := X660.sz
  have lt_sb_638 := A665.lt
  have lt_mb_638 := A666.lt
  have lt_qb_638 := A668.lt
  have lt_ps_638 := E663.lt
  refine go_special C X660 (C.w 10 rfl) (C.w 11 rfl) (C.w 9 rfl) (C.w 12 rfl) rfl (own_init_3 l Z a0 C.ws ps sb mb st sz m0 m1 m2 m3 s0 s1 s2 s3 h661 n0 X660.old E663 F669 F670 F671 F672 F673 F674 F675 A665 A666 E667 ga_ps (Ne.symm ne_sb_ps) (Ne.symm ne_mb_ps) hl b0 z0 b1 z1 b2 z2 b3 z3) (argsL := [(.ref sb), (.ref mb), (.int (3 : Int32)), (.long st)]) (rest := [(.ref ps)]) (lenOf pd_4 rfl) rfl (by decide) (by decide) (Nat.le_of_ble_eq_true rfl) (by decide) (by decide) rfl rfl (pc' := 641) rfl at_638 ?_
  rintro T676 h678 _ ⟨rfl, xb, ob, r0, r1, r2, r3, K6, E6, Fs, Fx, Ft, Fu, sx6, so6, sz6r0, sz6r1, sz6r2, sz6r3, Ax6, Ao6, A6r0, A6r1, A6r2, A6r3⟩ X677
  show Go p e below _ (T676.setTop (mkF m 641 #[jv pk, sc, iv ff, iv sk, iv pk2, jv st, sc, rv sb, iv kk, iv m0, iv m1, iv m2, iv m3, rv mb, jv (s0.toInt64), sc, jv (s1.toInt64), sc, jv (s2.toInt64), sc, jv (s3.toInt64), sc, iv (3 : Int32), iv rr, rv qb, jv (((((s0.toInt64) * (s1.toInt64)) * (s2.toInt64)) + (0 : Int64)) + (0 : Int64)), sc, iv (1 : Int32), iv (2 : Int32), iv (0 : Int32), iv (1 : Int32), iv (3 : Int32), jv (((s0.toInt64) * (s1.toInt64)) * (s2.toInt64)), sc, jv (((s0.toInt64) * (s1.toInt64)) * (s3.toInt64)), sc, jv (((s0.toInt64) * (s2.toInt64)) * (s3.toInt64)), sc, un, un] [(.ref ps)]))
  have ne_sb_xb : sb ≠ xb := Nat.ne_of_lt (Nat.lt_of_lt_of_le lt_sb_638 sx6)
  have ne_mb_xb : mb ≠ xb := Nat.ne_of_lt (Nat.lt_of_lt_of_le lt_mb_638 sx6)
  have ne_qb_xb : qb ≠ xb := Nat.ne_of_lt (Nat.lt_of_lt_of_le lt_qb_638 sx6)
  have ne_ps_xb : ps ≠ xb := Nat.ne_of_lt (Nat.lt_of_lt_of_le lt_ps_638 sx6)
  have ga_xb : n0 ≤ xb := Nat.le_trans hsz_638 sx6
  have ne_sb_ob : sb ≠ ob := Nat.ne_of_lt (Nat.lt_of_lt_of_le lt_sb_638 so6)
  have ne_mb_ob : mb ≠ ob := Nat.ne_of_lt (Nat.lt_of_lt_of_le lt_mb_638 so6)
  have ne_qb_ob : qb ≠ ob := Nat.ne_of_lt (Nat.lt_of_lt_of_le lt_qb_638 so6)
  have ne_ps_ob : ps ≠ ob := Nat.ne_of_lt (Nat.lt_of_lt_of_le lt_ps_638 so6)
  have ga_ob : n0 ≤ ob := Nat.le_trans hsz_638 so6
  have ne_sb_r0 : sb ≠ r0 := Nat.ne_of_lt (Nat.lt_of_lt_of_le lt_sb_638 sz6r0)
  have ne_mb_r0 : mb ≠ r0 := Nat.ne_of_lt (Nat.lt_of_lt_of_le lt_mb_638 sz6r0)
  have ne_qb_r0 : qb ≠ r0 := Nat.ne_of_lt (Nat.lt_of_lt_of_le lt_qb_638 sz6r0)
  have ne_ps_r0 : ps ≠ r0 := Nat.ne_of_lt (Nat.lt_of_lt_of_le lt_ps_638 sz6r0)
  have ga_r0 : n0 ≤ r0 := Nat.le_trans hsz_638 sz6r0
  have ne_sb_r1 : sb ≠ r1 := Nat.ne_of_lt (Nat.lt_of_lt_of_le lt_sb_638 sz6r1)
  have ne_mb_r1 : mb ≠ r1 := Nat.ne_of_lt (Nat.lt_of_lt_of_le lt_mb_638 sz6r1)
  have ne_qb_r1 : qb ≠ r1 := Nat.ne_of_lt (Nat.lt_of_lt_of_le lt_qb_638 sz6r1)
  have ne_ps_r1 : ps ≠ r1 := Nat.ne_of_lt (Nat.lt_of_lt_of_le lt_ps_638 sz6r1)
  have ga_r1 : n0 ≤ r1 := Nat.le_trans hsz_638 sz6r1
  have ne_sb_r2 : sb ≠ r2 := Nat.ne_of_lt (Nat.lt_of_lt_of_le lt_sb_638 sz6r2)
  have ne_mb_r2 : mb ≠ r2 := Nat.ne_of_lt (Nat.lt_of_lt_of_le lt_mb_638 sz6r2)
  have ne_qb_r2 : qb ≠ r2 := Nat.ne_of_lt (Nat.lt_of_lt_of_le lt_qb_638 sz6r2)
  have ne_ps_r2 : ps ≠ r2 := Nat.ne_of_lt (Nat.lt_of_lt_of_le lt_ps_638 sz6r2)
  have ga_r2 : n0 ≤ r2 := Nat.le_trans hsz_638 sz6r2
  have ne_sb_r3 : sb ≠ r3 := Nat.ne_of_lt (Nat.lt_of_lt_of_le lt_sb_638 sz6r3)
  have ne_mb_r3 : mb ≠ r3 := Nat.ne_of_lt (Nat.lt_of_lt_of_le lt_mb_638 sz6r3)
  have ne_qb_r3 : qb ≠ r3 := Nat.ne_of_lt (Nat.lt_of_lt_of_le lt_qb_638 sz6r3)
  have ne_ps_r3 : ps ≠ r3 := Nat.ne_of_lt (Nat.lt_of_lt_of_le lt_ps_638 sz6r3)
  have ga_r3 : n0 ≤ r3 := Nat.le_trans hsz_638 sz6r3
  have A679 := A665.keep K6 (ninS ne_sb_ps nin0)
  have A680 := A666.keep K6 (ninS ne_mb_ps nin0)
  have E681 := E667.keep K6
  have A682 := A668.keep K6 (ninS ne_qb_ps nin0)
  have E683 := E663.keep K6
  have xl : ((put32 (put32 (put32 (put32 [-1, -1, -1, -1, -1] m0 0) m1 1) m2 2) m3 3)).length = 5 := by simp [put32_len]
  have x0 : at32 (put32 (put32 (put32 (put32 [-1, -1, -1, -1, -1] m0 0) m1 1) m2 2) m3 3) m0 = 0 := by rw [own_put_miss b3.1 b0.1 (fun q => d03 q.symm)]; rw [own_put_miss b2.1 b0.1 (fun q => d02 q.symm)]; rw [own_put_miss b1.1 b0.1 (fun q => d01 q.symm)]; exact own_put_hit b0.1 (by simpa [put32_len] using b0.2)
  have x1 : at32 (put32 (put32 (put32 (put32 [-1, -1, -1, -1, -1] m0 0) m1 1) m2 2) m3 3) m1 = 1 := by rw [own_put_miss b3.1 b1.1 (fun q => d13 q.symm)]; rw [own_put_miss b2.1 b1.1 (fun q => d12 q.symm)]; exact own_put_hit b1.1 (by simpa [put32_len] using b1.2)
  have x2 : at32 (put32 (put32 (put32 (put32 [-1, -1, -1, -1, -1] m0 0) m1 1) m2 2) m3 3) m2 = 2 := by rw [own_put_miss b3.1 b2.1 (fun q => d23 q.symm)]; exact own_put_hit b2.1 (by simpa [put32_len] using b2.2)
  have x3 : at32 (put32 (put32 (put32 (put32 [-1, -1, -1, -1, -1] m0 0) m1 1) m2 2) m3 3) m3 = 3 := by exact own_put_hit b3.1 (by simpa [put32_len] using b3.2)
  generalize (put32 (put32 (put32 (put32 [-1, -1, -1, -1, -1] m0 0) m1 1) m2 2) m3 3) = ix at *
  refine go_astore C X677 643 rfl at_641 rfl #[jv pk, sc, iv ff, iv sk, iv pk2, jv st, sc, rv sb, iv kk, iv m0, iv m1, iv m2, iv m3, rv mb, jv (s0.toInt64), sc, jv (s1.toInt64), sc, jv (s2.toInt64), sc, jv (s3.toInt64), sc, iv (3 : Int32), iv rr, rv qb, jv (((((s0.toInt64) * (s1.toInt64)) * (s2.toInt64)) + (0 : Int64)) + (0 : Int64)), sc, rv ps, iv (2 : Int32), iv (0 : Int32), iv (1 : Int32), iv (3 : Int32), jv (((s0.toInt64) * (s1.toInt64)) * (s2.toInt64)), sc, jv (((s0.toInt64) * (s1.toInt64)) * (s3.toInt64)), sc, jv (((s0.toInt64) * (s2.toInt64)) * (s3.toInt64)), sc, un, un] rfl ?_
  refine go_aload C X677 645 rfl at_643 rfl rfl ?_
  refine go_aload C X677 647 rfl at_645 rfl rfl ?_
  refine go_virtual C X677 E6 (C.w 53 rfl) (C.w 54 rfl) (notFace_of_selects (args := #[]) (mvT C.hZ (C.w 56 rfl))) (C.w 56 rfl) (C.w 55 rfl) (C.w 9 rfl) (C.w 57 rfl) (own_bit_3_1 l Z a0 C.ws ps qb sb xb ob r0 r1 r2 r3 sz ix m0 m1 m2 m3 s0 s1 s2 s3 st _ _ _ _ _ _ _ _ _ _ _ _ _ _ _ _ _ _ _ _ h678 n0 X677.old Fs Fx Ft Fu A679 Ax6 Ao6 A6r0 A6r1 A6r2 A6r3 A682 hl xl b0 z0 b1 z1 b2 z2 b3 z3 x0 x1 x2 x3) (argsL := [(.ref qb)]) (rest := []) (lenOf pd_5 rfl) rfl (by decide) (by decide) (Nat.le_of_ble_eq_true rfl) (by decide) (by decide) rfl rfl (pc' := 650) rfl at_647 ?_
  rintro T684 _ _ ⟨rfl, rfl⟩ X685
  show Go p e below _ (T684.setTop (mkF m 650 #[jv pk, sc, iv ff, iv sk, iv pk2, jv st, sc, rv sb, iv kk, iv m0, iv m1, iv m2, iv m3, rv mb, jv (s0.toInt64), sc, jv (s1.toInt64), sc, jv (s2.toInt64), sc, jv (s3.toInt64), sc, iv (3 : Int32), iv rr, rv qb, jv (((((s0.toInt64) * (s1.toInt64)) * (s2.toInt64)) + (0 : Int64)) + (0 : Int64)), sc, rv ps, iv (2 : Int32), iv (0 : Int32), iv (1 : Int32), iv (3 : Int32), jv (((s0.toInt64) * (s1.toInt64)) * (s2.toInt64)), sc, jv (((s0.toInt64) * (s1.toInt64)) * (s3.toInt64)), sc, jv (((s0.toInt64) * (s2.toInt64)) * (s3.toInt64)), sc, un, un] [(.long (st + ((((0 : Int64) + ((1 : Int64) * ((((((0 : Int64) + (s3.toInt64 * (0 : Int64))) + (s2.toInt64 * ((0 : Int64) + (s3.toInt64 * (0 : Int64))))) + (s1.toInt64 * (((0 : Int64) + (s3.toInt64 * (0 : Int64))) + (s2.toInt64 * ((0 : Int64) + (s3.toInt64 * (1 : Int64))))))) + (s0.toInt64 * ((((0 : Int64) + (s3.toInt64 * (0 : Int64))) + (s2.toInt64 * ((0 : Int64) + (s3.toInt64 * (1 : Int64))))) + (s1.toInt64 * (((0 : Int64) + (s3.toInt64 * (1 : Int64))) + (s2.toInt64 * (1 : Int64))))))) - (((((0 : Int64) + (s3.toInt64 * (0 : Int64))) + (s2.toInt64 * ((0 : Int64) + (s3.toInt64 * (0 : Int64))))) + (s1.toInt64 * (((0 : Int64) + (s3.toInt64 * (0 : Int64))) + (s2.toInt64 * ((0 : Int64) + (s3.toInt64 * (1 : Int64))))))) + (s0.toInt64 * ((((0 : Int64) + (s3.toInt64 * (0 : Int64))) + (s2.toInt64 * ((0 : Int64) + (s3.toInt64 * (1 : Int64))))) + (s1.toInt64 * (((0 : Int64) + (s3.toInt64 * (1 : Int64))) + (s2.toInt64 * (1 : Int64)))))))))) + (((1 : Int64) * s0.toInt64) * (((((0 : Int64) + (s3.toInt64 * (0 : Int64))) + (s2.toInt64 * ((0 : Int64) + (s3.toInt64 * (1 : Int64))))) + (s1.toInt64 * (((0 : Int64) + (s3.toInt64 * (1 : Int64))) + (s2.toInt64 * (1 : Int64))))) - ((((0 : Int64) + (s3.toInt64 * (0 : Int64))) + (s2.toInt64 * ((0 : Int64) + (s3.toInt64 * (1 : Int64))))) + (s1.toInt64 * (((0 : Int64) + (s3.toInt64 * (1 : Int64))) + (s2.toInt64 * (1 : Int64)))))))) + ((((1 : Int64) * s0.toInt64) * s1.toInt64) * ((((0 : Int64) + (s3.toInt64 * (1 : Int64))) + (s2.toInt64 * (1 : Int64))) - ((0 : Int64) + (s3.toInt64 * (1 : Int64))))))))]))
  refine go_lload C X685 652 rfl at_650 rfl ?_
  refine go_lload C X685 654 rfl at_652 rfl ?_
  refine go_ladd C X685 655 rfl at_654 ?_
  refine go_lif_ne C X685 (pc1 := 656) rfl at_655 at_656 (pc' := 659) (pc2 := 663) rfl (by decide) (by decide) (fun c656 => False.elim (c656 (own_id_3_1 s0 s1 s2 s3 st))) (fun _ => ?_)
  refine go_iconst C X685 660 rfl at_659 (z := 1) rfl ?_
  refine go_goto C X685 at_660 (pc' := 664) (by decide) (by decide) ?_
  exact go_retN C X685 (by simp) (z' := 1) rfl at_664 rfl (by decide) (by decide)
set_option maxRecDepth 65536 in
set_option maxHeartbeats 40000000 in
theorem own_arm_3_2 {p : Program} {l : Launch} {e : Env} {s : State} {m : MethodId} {below : List Frame} {meth : Method} {c : Code} {Z : State} {a0 : Array Value} {n0 : Nat} {pk : Int64} {ff : Int32} {sk : Int32} {pk2 : Int32} {st : Int64} {sb : Addr} {mb : Addr} {sz : List Int32} {kk : Int32} {rr : Int32} {m0 : Int32} {s0 : Int32} {m1 : Int32} {s1 : Int32} {m2 : Int32} {s2 : Int32} {m3 : Int32} {s3 : Int32} (C : Cx p s m meth c Z a0 x.cls code maxLocals ret x.name) {T72 : State} {h74 : Heap} (X73 : St Z p l e room_1 s m #[(.long pk), (.int ff), (.int sk), (.int pk2), (.long st)] below meth c n0 T72 h74 (0 + 1 + 1) (0 + 5 + 4)) (A77 : La Z h74 sb .int (ia sz)) (A76 : La Z h74 mb .int ([(.int m0), (.int m1), (.int m2), (.int m3)])) (E78 : Exa Z h74 mb "[I") (ne_sb_mb : sb ≠ mb) (ga_sb : n0 ≤ sb) (ga_mb : n0 ≤ mb) (hl : sz.length = 5) (b0 : 0 ≤ m0.toInt ∧ m0.toInt < (5 : Nat)) (b1 : 0 ≤ m1.toInt ∧ m1.toInt < (5 : Nat)) (b2 : 0 ≤ m2.toInt ∧ m2.toInt < (5 : Nat)) (b3 : 0 ≤ m3.toInt ∧ m3.toInt < (5 : Nat)) (z0 : at32 sz m0 = s0) (z1 : at32 sz m1 = s1) (z2 : at32 sz m2 = s2) (z3 : at32 sz m3 = s3) (d01 : ¬ m0.toInt = m1.toInt) (d02 : ¬ m0.toInt = m2.toInt) (d03 : ¬ m0.toInt = m3.toInt) (d12 : ¬ m1.toInt = m2.toInt) (d13 : ¬ m1.toInt = m3.toInt) (d23 : ¬ m2.toInt = m3.toInt) : Go p e below (FinQ s room_1.cells room_1.slots n0 (fun v h' => v = some (.int 1))) (T72.setTop (mkF m 453 #[jv pk, sc, iv ff, iv sk, iv pk2, jv st, sc, rv sb, iv kk, iv m0, iv m1, iv m2, iv m3, rv mb, jv (s0.toInt64), sc, jv (s1.toInt64), sc, jv (s2.toInt64), sc, jv (s3.toInt64), sc, iv (3 : Int32), iv rr, un, un, un, iv (2 : Int32), un, un, un, un, un, un, un, un, un, un, un, un] [])) := by
  refine go_iconst C X73 454 rfl at_453 (z := 3) rfl ?_
  refine go_iload C X73 456 rfl at_454 rfl ?_
  refine go_isubL C X73 457 rfl at_456 (z := (1)) rfl ?_
  refine go_istore C X73 459 rfl at_457 #[jv pk, sc, iv ff, iv sk, iv pk2, jv st, sc, rv sb, iv kk, iv m0, iv m1, iv m2, iv m3, rv mb, jv (s0.toInt64), sc, jv (s1.toInt64), sc, jv (s2.toInt64), sc, jv (s3.toInt64), sc, iv (3 : Int32), iv rr, un, un, un, iv (2 : Int32), iv (1 : Int32), un, un, un, un, un, un, un, un, un, un, un] rfl ?_
  refine go_iload C X73 461 rfl at_459 rfl ?_
  refine go_if_ne C X73 at_461 (pc' := 464) (pc2 := 468) rfl (by decide) (by decide) (fun (c461 : ¬ (1 : Int32) = (0 : Int32)) => ?_) (fun (c461 : (1 : Int32) = (0 : Int32)) => False.elim (by first | omega | exact absurd c461 (by decide)))
  refine go_iconst C X73 469 rfl at_468 (z := 0) rfl ?_
  refine go_istore C X73 471 rfl at_469 #[jv pk, sc, iv ff, iv sk, iv pk2, jv st, sc, rv sb, iv kk, iv m0, iv m1, iv m2, iv m3, rv mb, jv (s0.toInt64), sc, jv (s1.toInt64), sc, jv (s2.toInt64), sc, jv (s3.toInt64), sc, iv (3 : Int32), iv rr, un, un, un, iv (2 : Int32), iv (1 : Int32), iv (0 : Int32), un, un, un, un, un, un, un, un, un, un] rfl ?_
  refine go_iload C X73 473 rfl at_471 rfl ?_
  refine go_iconst C X73 474 rfl at_473 (z := 1) rfl ?_
  refine go_icmp_gt C X73 at_474 (pc' := 477) (pc2 := 481) rfl (by decide) (by decide) (fun (c474 : 1 < 1) => False.elim (by first | omega | exact absurd c474 (by decide))) (fun (c474 : 1 ≤ 1) => ?_)
  refine go_iconst C X73 478 rfl at_477 (z := 2) rfl ?_
  refine go_goto C X73 at_478 (pc' := 482) (by decide) (by decide) ?_
  refine go_istore C X73 484 rfl at_482 #[jv pk, sc, iv ff, iv sk, iv pk2, jv st, sc, rv sb, iv kk, iv m0, iv m1, iv m2, iv m3, rv mb, jv (s0.toInt64), sc, jv (s1.toInt64), sc, jv (s2.toInt64), sc, jv (s3.toInt64), sc, iv (3 : Int32), iv rr, un, un, un, iv (2 : Int32), iv (1 : Int32), iv (0 : Int32), iv (2 : Int32), un, un, un, un, un, un, un, un, un] rfl ?_
  refine go_iload C X73 486 rfl at_484 rfl ?_
  refine go_iconst C X73 487 rfl at_486 (z := 2) rfl ?_
  refine go_icmp_gt C X73 at_487 (pc' := 490) (pc2 := 494) rfl (by decide) (by decide) (fun (c487 : 2 < 1) => False.elim (by first | omega | exact absurd c487 (by decide))) (fun (c487 : 1 ≤ 2) => ?_)
  refine go_iconst C X73 491 rfl at_490 (z := 3) rfl ?_
  refine go_goto C X73 at_491 (pc' := 495) (by decide) (by decide) ?_
  refine go_istore C X73 497 rfl at_495 #[jv pk, sc, iv ff, iv sk, iv pk2, jv st, sc, rv sb, iv kk, iv m0, iv m1, iv m2, iv m3, rv mb, jv (s0.toInt64), sc, jv (s1.toInt64), sc, jv (s2.toInt64), sc, jv (s3.toInt64), sc, iv (3 : Int32), iv rr, un, un, un, iv (2 : Int32), iv (1 : Int32), iv (0 : Int32), iv (2 : Int32), iv (3 : Int32), un, un, un, un, un, un, un, un] rfl ?_
  refine go_iconst C X73 498 rfl at_497 (z := 3) rfl ?_
  refine go_newarr C X73 (C.w 0 rfl) (cap := 3) (by decide) (by decide) (by decide) (by decide) (by decide) (pc' := 500) rfl at_498 (fun T687 h689 qb ha_qb ga_qb E690 A691  X688 => ?_)
  have ne_sb_qb : sb ≠ qb := Nat.ne_of_lt (Nat.lt_of_lt_of_le A77.lt (Nat.le_of_eq ha_qb.symm))
  have ne_mb_qb : mb ≠ qb := Nat.ne_of_lt (Nat.lt_of_lt_of_le A76.lt (Nat.le_of_eq ha_qb.symm))
  have A692 := A77.ext E690
  have A693 := A76.ext E690
  have E694 := E78.ext E690
  replace A691 : La Z h689 qb .int ([(.int (0 : Int32)), (.int (0 : Int32)), (.int (0 : Int32))]) := A691
  refine go_dup C X688 501 rfl at_500 rfl ?_
  refine go_iconst C X688 502 rfl at_501 (z := 0) rfl ?_
  refine go_aload C X688 504 rfl at_502 rfl rfl ?_
  refine go_iload C X688 506 rfl at_504 rfl ?_
  refine go_iaload C X688 A693 (by decide) (v := (.int m0)) rfl (pc' := 507) rfl at_506 ?_
  refine go_iastore C X688 A691 (by decide) (by show _ < (3 : Int); decide) ga_qb (pc' := 508) rfl at_507 (fun T695 h697 W698 A699 X696 => ?_)
  have A700 := A692.other W698 ne_sb_qb
  have A701 := A693.other W698 ne_mb_qb
  have E702 := E694.wr W698
  replace A699 : La Z h697 qb .int ([(.int m0), (.int (0 : Int32)), (.int (0 : Int32))]) := A699
  refine go_dup C X696 509 rfl at_508 rfl ?_
  refine go_iconst C X696 510 rfl at_509 (z := 1) rfl ?_
  refine go_aload C X696 512 rfl at_510 rfl rfl ?_
  refine go_iload C X696 514 rfl at_512 rfl ?_
  refine go_iaload C X696 A701 (by decide) (v := (.int m2)) rfl (pc' := 515) rfl at_514 ?_
  refine go_iastore C X696 A699 (by decide) (by show _ < (3 : Int); decide) ga_qb (pc' := 516) rfl at_515 (fun T703 h705 W706 A707 X704 => ?_)
  have A708 := A700.other W706 ne_sb_qb
  have A709 := A701.other W706 ne_mb_qb
  have E710 := E702.wr W706
  replace A707 : La Z h705 qb .int ([(.int m0), (.int m2), (.int (0 : Int32))]) := A707
  refine go_dup C X704 517 rfl at_516 rfl ?_
  refine go_iconst C X704 518 rfl at_517 (z := 2) rfl ?_
  refine go_aload C X704 520 rfl at_518 rfl rfl ?_
  refine go_iload C X704 522 rfl at_520 rfl ?_
  refine go_iaload C X704 A709 (by decide) (v := (.int m3)) rfl (pc' := 523) rfl at_522 ?_
  refine go_iastore C X704 A707 (by decide) (by show _ < (3 : Int); decide) ga_qb (pc' := 524) rfl at_523 (fun T711 h713 W714 A715 X712 => ?_)
  have A716 := A708.other W714 ne_sb_qb
  have A717 := A709.other W714 ne_mb_qb
  have E718 := E710.wr W714
  replace A715 : La Z h713 qb .int ([(.int m0), (.int m2), (.int m3)]) := A715
  refine go_astore C X712 526 rfl at_524 rfl #[jv pk, sc, iv ff, iv sk, iv pk2, jv st, sc, rv sb, iv kk, iv m0, iv m1, iv m2, iv m3, rv mb, jv (s0.toInt64), sc, jv (s1.toInt64), sc, jv (s2.toInt64), sc, jv (s3.toInt64), sc, iv (3 : Int32), iv rr, rv qb, un, un, iv (2 : Int32), iv (1 : Int32), iv (0 : Int32), iv (2 : Int32), iv (3 : Int32), un, un, un, un, un, un, un, un] rfl ?_
  refine go_lload C X712 528 rfl at_526 rfl ?_
  refine go_lload C X712 530 rfl at_528 rfl ?_
  refine go_lmul C X712 531 rfl at_530 ?_
  refine go_lload C X712 533 rfl at_531 rfl ?_
  refine go_lmul C X712 534 rfl at_533 ?_
  refine go_lstore C X712 536 rfl at_534 #[jv pk, sc, iv ff, iv sk, iv pk2, jv st, sc, rv sb, iv kk, iv m0, iv m1, iv m2, iv m3, rv mb, jv (s0.toInt64), sc, jv (s1.toInt64), sc, jv (s2.toInt64), sc, jv (s3.toInt64), sc, iv (3 : Int32), iv rr, rv qb, un, un, iv (2 : Int32), iv (1 : Int32), iv (0 : Int32), iv (2 : Int32), iv (3 : Int32), jv (((s0.toInt64) * (s1.toInt64)) * (s2.toInt64)), sc, un, un, un, un, un, un] rfl ?_
  refine go_lload C X712 538 rfl at_536 rfl ?_
  refine go_lload C X712 540 rfl at_538 rfl ?_
  refine go_lmul C X712 541 rfl at_540 ?_
  refine go_lload C X712 543 rfl at_541 rfl ?_
  refine go_lmul C X712 544 rfl at_543 ?_
  refine go_lstore C X712 546 rfl at_544 #[jv pk, sc, iv ff, iv sk, iv pk2, jv st, sc, rv sb, iv kk, iv m0, iv m1, iv m2, iv m3, rv mb, jv (s0.toInt64), sc, jv (s1.toInt64), sc, jv (s2.toInt64), sc, jv (s3.toInt64), sc, iv (3 : Int32), iv rr, rv qb, un, un, iv (2 : Int32), iv (1 : Int32), iv (0 : Int32), iv (2 : Int32), iv (3 : Int32), jv (((s0.toInt64) * (s1.toInt64)) * (s2.toInt64)), sc, jv (((s0.toInt64) * (s1.toInt64)) * (s3.toInt64)), sc, un, un, un, un] rfl ?_
  refine go_lload C X712 548 rfl at_546 rfl ?_
  refine go_lload C X712 550 rfl at_548 rfl ?_
  refine go_lmul C X712 551 rfl at_550 ?_
  refine go_lload C X712 553 rfl at_551 rfl ?_
  refine go_lmul C X712 554 rfl at_553 ?_
  refine go_lstore C X712 556 rfl at_554 #[jv pk, sc, iv ff, iv sk, iv pk2, jv st, sc, rv sb, iv kk, iv m0, iv m1, iv m2, iv m3, rv mb, jv (s0.toInt64), sc, jv (s1.toInt64), sc, jv (s2.toInt64), sc, jv (s3.toInt64), sc, iv (3 : Int32), iv rr, rv qb, un, un, iv (2 : Int32), iv (1 : Int32), iv (0 : Int32), iv (2 : Int32), iv (3 : Int32), jv (((s0.toInt64) * (s1.toInt64)) * (s2.toInt64)), sc, jv (((s0.toInt64) * (s1.toInt64)) * (s3.toInt64)), sc, jv (((s0.toInt64) * (s2.toInt64)) * (s3.toInt64)), sc, un, un] rfl ?_
  refine go_iload C X712 558 rfl at_556 rfl ?_
  refine go_if_le C X712 at_558 (pc' := 561) (pc2 := 566) rfl (by decide) (by decide) (fun (c558 : 2 ≤ 0) => False.elim (by first | omega | exact absurd c558 (by decide))) (fun (c558 : 0 < 2) => ?_)
  refine go_lload C X712 563 rfl at_561 rfl ?_
  refine go_goto C X712 at_563 (pc' := 567) (by decide) (by decide) ?_
  refine go_iload C X712 569 rfl at_567 rfl ?_
  refine go_iconst C X712 570 rfl at_569 (z := 1) rfl ?_
  refine go_icmp_le C X712 at_570 (pc' := 573) (pc2 := 578) rfl (by decide) (by decide) (fun (c570 : 2 ≤ 1) => False.elim (by first | omega | exact absurd c570 (by decide))) (fun (c570 : 1 < 2) => ?_)
  refine go_lload C X712 575 rfl at_573 rfl ?_
  refine go_goto C X712 at_575 (pc' := 579) (by decide) (by decide) ?_
  refine go_ladd C X712 580 rfl at_579 ?_
  refine go_iload C X712 582 rfl at_580 rfl ?_
  refine go_iconst C X712 583 rfl at_582 (z := 2) rfl ?_
  refine go_icmp_le C X712 at_583 (pc' := 586) (pc2 := 591) rfl (by decide) (by decide) (fun (c583 : 2 ≤ 2) => ?_) (fun (c583 : 2 < 2) => False.elim (by first | omega | exact absurd c583 (by decide)))
  refine go_lconst C X712 592 rfl at_591 (z := 0) rfl ?_
  refine go_ladd C X712 593 rfl at_592 ?_
  refine go_lstore C X712 595 rfl at_593 #[jv pk, sc, iv ff, iv sk, iv pk2, jv st, sc, rv sb, iv kk, iv m0, iv m1, iv m2, iv m3, rv mb, jv (s0.toInt64), sc, jv (s1.toInt64), sc, jv (s2.toInt64), sc, jv (s3.toInt64), sc, iv (3 : Int32), iv rr, rv qb, jv (((((s0.toInt64) * (s1.toInt64)) * (s2.toInt64)) + (((s0.toInt64) * (s1.toInt64)) * (s3.toInt64))) + (0 : Int64)), sc, iv (2 : Int32), iv (1 : Int32), iv (0 : Int32), iv (2 : Int32), iv (3 : Int32), jv (((s0.toInt64) * (s1.toInt64)) * (s2.toInt64)), sc, jv (((s0.toInt64) * (s1.toInt64)) * (s3.toInt64)), sc, jv (((s0.toInt64) * (s2.toInt64)) * (s3.toInt64)), sc, un, un] rfl ?_
  refine go_goto C X712 at_595 (pc' := 626) (by decide) (by decide) ?_
  refine go_new C X712 (C.w 7 rfl) (C.w 8 rfl) (C.w 9 rfl) (by decide) (by decide) (pc' := 629) rfl at_626 (fun T719 h721 ps ha_ps ga_ps E722 E723 D724 X720 => ?_)
  have ne_sb_ps : sb ≠ ps := Nat.ne_of_lt (Nat.lt_of_lt_of_le A716.lt (Nat.le_of_eq ha_ps.symm))
  have ne_mb_ps : mb ≠ ps := Nat.ne_of_lt (Nat.lt_of_lt_of_le A717.lt (Nat.le_of_eq ha_ps.symm))
  have ne_qb_ps : qb ≠ ps := Nat.ne_of_lt (Nat.lt_of_lt_of_le A715.lt (Nat.le_of_eq ha_ps.symm))
  have A725 := A716.ext E722
  have A726 := A717.ext E722
  have E727 := E718.ext E722
  have A728 := A715.ext E722
  have F729 : Fld Z h721 ps "com/example/covertide/covertide/engine/ParameterSets" "sizes" "[I" .null := D724 (Or.inr (C.w 17 rfl)) (ty := (.array .int)) (by decide)
  have F730 : Fld Z h721 ps "com/example/covertide/covertide/engine/ParameterSets" "members" "[I" .null := D724 (Or.inr (C.w 28 rfl)) (ty := (.array .int)) (by decide)
  have F731 : Fld Z h721 ps "com/example/covertide/covertide/engine/ParameterSets" "indexOf" "[I" .null := D724 (Or.inr (C.w 30 rfl)) (ty := (.array .int)) (by decide)
  have F732 : Fld Z h721 ps "com/example/covertide/covertide/engine/ParameterSets" "size" "I" (.int (0 : Int32)) := D724 (Or.inr (C.w 36 rfl)) (ty := .int) (by decide)
  have F733 : Fld Z h721 ps "com/example/covertide/covertide/engine/ParameterSets" "start" "J" (.long (0 : Int64)) := D724 (Or.inr (C.w 38 rfl)) (ty := .long) (by decide)
  have F734 : Fld Z h721 ps "com/example/covertide/covertide/engine/ParameterSets" "suffixSums" "[[J" .null := D724 (Or.inr (C.w 50 rfl)) (ty := (.array (.array .long))) (by decide)
  have F735 : Fld Z h721 ps "com/example/covertide/covertide/engine/ParameterSets" "combinations" "J" (.long (0 : Int64)) := D724 (Or.inr (C.w 52 rfl)) (ty := .long) (by decide)
  refine go_dup C X720 630 rfl at_629 rfl ?_
  refine go_aload C X720 632 rfl at_630 rfl rfl ?_
  refine go_aload C X720 634 rfl at_632 rfl rfl ?_
  refine go_iload C X720 636 rfl at_634 rfl ?_
  refine go_lload C X720 638 rfl at_636 rfl ?_
  have hsz_638 := X720.sz
  have lt_sb_638 := A725.lt
  have lt_mb_638 := A726.lt
  have lt_qb_638 := A728.lt
  have lt_ps_638 := E723.lt
  refine go_special C X720 (C.w 10 rfl) (C.w 11 rfl) (C.w 9 rfl) (C.w 12 rfl) rfl (own_init_3 l Z a0 C.ws ps sb mb st sz m0 m1 m2 m3 s0 s1 s2 s3 h721 n0 X720.old E723 F729 F730 F731 F732 F733 F734 F735 A725 A726 E727 ga_ps (Ne.symm ne_sb_ps) (Ne.symm ne_mb_ps) hl b0 z0 b1 z1 b2 z2 b3 z3) (argsL := [(.ref sb), (.ref mb), (.int (3 : Int32)), (.long st)]) (rest := [(.ref ps)]) (lenOf pd_4 rfl) rfl (by decide) (by decide) (Nat.le_of_ble_eq_true rfl) (by decide) (by decide) rfl rfl (pc' := 641) rfl at_638 ?_
  rintro T736 h738 _ ⟨rfl, xb, ob, r0, r1, r2, r3, K6, E6, Fs, Fx, Ft, Fu, sx6, so6, sz6r0, sz6r1, sz6r2, sz6r3, Ax6, Ao6, A6r0, A6r1, A6r2, A6r3⟩ X737
  show Go p e below _ (T736.setTop (mkF m 641 #[jv pk, sc, iv ff, iv sk, iv pk2, jv st, sc, rv sb, iv kk, iv m0, iv m1, iv m2, iv m3, rv mb, jv (s0.toInt64), sc, jv (s1.toInt64), sc, jv (s2.toInt64), sc, jv (s3.toInt64), sc, iv (3 : Int32), iv rr, rv qb, jv (((((s0.toInt64) * (s1.toInt64)) * (s2.toInt64)) + (((s0.toInt64) * (s1.toInt64)) * (s3.toInt64))) + (0 : Int64)), sc, iv (2 : Int32), iv (1 : Int32), iv (0 : Int32), iv (2 : Int32), iv (3 : Int32), jv (((s0.toInt64) * (s1.toInt64)) * (s2.toInt64)), sc, jv (((s0.toInt64) * (s1.toInt64)) * (s3.toInt64)), sc, jv (((s0.toInt64) * (s2.toInt64)) * (s3.toInt64)), sc, un, un] [(.ref ps)]))
  have ne_sb_xb : sb ≠ xb := Nat.ne_of_lt (Nat.lt_of_lt_of_le lt_sb_638 sx6)
  have ne_mb_xb : mb ≠ xb := Nat.ne_of_lt (Nat.lt_of_lt_of_le lt_mb_638 sx6)
  have ne_qb_xb : qb ≠ xb := Nat.ne_of_lt (Nat.lt_of_lt_of_le lt_qb_638 sx6)
  have ne_ps_xb : ps ≠ xb := Nat.ne_of_lt (Nat.lt_of_lt_of_le lt_ps_638 sx6)
  have ga_xb : n0 ≤ xb := Nat.le_trans hsz_638 sx6
  have ne_sb_ob : sb ≠ ob := Nat.ne_of_lt (Nat.lt_of_lt_of_le lt_sb_638 so6)
  have ne_mb_ob : mb ≠ ob := Nat.ne_of_lt (Nat.lt_of_lt_of_le lt_mb_638 so6)
  have ne_qb_ob : qb ≠ ob := Nat.ne_of_lt (Nat.lt_of_lt_of_le lt_qb_638 so6)
  have ne_ps_ob : ps ≠ ob := Nat.ne_of_lt (Nat.lt_of_lt_of_le lt_ps_638 so6)
  have ga_ob : n0 ≤ ob := Nat.le_trans hsz_638 so6
  have ne_sb_r0 : sb ≠ r0 := Nat.ne_of_lt (Nat.lt_of_lt_of_le lt_sb_638 sz6r0)
  have ne_mb_r0 : mb ≠ r0 := Nat.ne_of_lt (Nat.lt_of_lt_of_le lt_mb_638 sz6r0)
  have ne_qb_r0 : qb ≠ r0 := Nat.ne_of_lt (Nat.lt_of_lt_of_le lt_qb_638 sz6r0)
  have ne_ps_r0 : ps ≠ r0 := Nat.ne_of_lt (Nat.lt_of_lt_of_le lt_ps_638 sz6r0)
  have ga_r0 : n0 ≤ r0 := Nat.le_trans hsz_638 sz6r0
  have ne_sb_r1 : sb ≠ r1 := Nat.ne_of_lt (Nat.lt_of_lt_of_le lt_sb_638 sz6r1)
  have ne_mb_r1 : mb ≠ r1 := Nat.ne_of_lt (Nat.lt_of_lt_of_le lt_mb_638 sz6r1)
  have ne_qb_r1 : qb ≠ r1 := Nat.ne_of_lt (Nat.lt_of_lt_of_le lt_qb_638 sz6r1)
  have ne_ps_r1 : ps ≠ r1 := Nat.ne_of_lt (Nat.lt_of_lt_of_le lt_ps_638 sz6r1)
  have ga_r1 : n0 ≤ r1 := Nat.le_trans hsz_638 sz6r1
  have ne_sb_r2 : sb ≠ r2 := Nat.ne_of_lt (Nat.lt_of_lt_of_le lt_sb_638 sz6r2)
  have ne_mb_r2 : mb ≠ r2 := Nat.ne_of_lt (Nat.lt_of_lt_of_le lt_mb_638 sz6r2)
  have ne_qb_r2 : qb ≠ r2 := Nat.ne_of_lt (Nat.lt_of_lt_of_le lt_qb_638 sz6r2)
  have ne_ps_r2 : ps ≠ r2 := Nat.ne_of_lt (Nat.lt_of_lt_of_le lt_ps_638 sz6r2)
  have ga_r2 : n0 ≤ r2 := Nat.le_trans hsz_638 sz6r2
  have ne_sb_r3 : sb ≠ r3 := Nat.ne_of_lt (Nat.lt_of_lt_of_le lt_sb_638 sz6r3)
  have ne_mb_r3 : mb ≠ r3 := Nat.ne_of_lt (Nat.lt_of_lt_of_le lt_mb_638 sz6r3)
  have ne_qb_r3 : qb ≠ r3 := Nat.ne_of_lt (Nat.lt_of_lt_of_le lt_qb_638 sz6r3)
  have ne_ps_r3 : ps ≠ r3 := Nat.ne_of_lt (Nat.lt_of_lt_of_le lt_ps_638 sz6r3)
  have ga_r3 : n0 ≤ r3 := Nat.le_trans hsz_638 sz6r3
  have A739 := A725.keep K6 (ninS ne_sb_ps nin0)
  have A740 := A726.keep K6 (ninS ne_mb_ps nin0)
  have E741 := E727.keep K6
  have A742 := A728.keep K6 (ninS ne_qb_ps nin0)
  have E743 := E723.keep K6
  have xl : ((put32 (put32 (put32 (put32 [-1, -1, -1, -1, -1] m0 0) m1 1) m2 2) m3 3)).length = 5 := by simp [put32_len]
  have x0 : at32 (put32 (put32 (put32 (put32 [-1, -1, -1, -1, -1] m0 0) m1 1) m2 2) m3 3) m0 = 0 := by rw [own_put_miss b3.1 b0.1 (fun q => d03 q.symm)]; rw [own_put_miss b2.1 b0.1 (fun q => d02 q.symm)]; rw [own_put_miss b1.1 b0.1 (fun q => d01 q.symm)]; exact own_put_hit b0.1 (by simpa [put32_len] using b0.2)
  have x1 : at32 (put32 (put32 (put32 (put32 [-1, -1, -1, -1, -1] m0 0) m1 1) m2 2) m3 3) m1 = 1 := by rw [own_put_miss b3.1 b1.1 (fun q => d13 q.symm)]; rw [own_put_miss b2.1 b1.1 (fun q => d12 q.symm)]; exact own_put_hit b1.1 (by simpa [put32_len] using b1.2)
  have x2 : at32 (put32 (put32 (put32 (put32 [-1, -1, -1, -1, -1] m0 0) m1 1) m2 2) m3 3) m2 = 2 := by rw [own_put_miss b3.1 b2.1 (fun q => d23 q.symm)]; exact own_put_hit b2.1 (by simpa [put32_len] using b2.2)
  have x3 : at32 (put32 (put32 (put32 (put32 [-1, -1, -1, -1, -1] m0 0) m1 1) m2 2) m3 3) m3 = 3 := by exact own_put_hit b3.1 (by simpa [put32_len] using b3.2)
  generalize (put32 (put32 (put32 (put32 [-1, -1, -1, -1, -1] m0 0) m1 1) m2 2) m3 3) = ix at *
  refine go_astore C X737 643 rfl at_641 rfl #[jv pk, sc, iv ff, iv sk, iv pk2, jv st, sc, rv sb, iv kk, iv m0, iv m1, iv m2, iv m3, rv mb, jv (s0.toInt64), sc, jv (s1.toInt64), sc, jv (s2.toInt64), sc, jv (s3.toInt64), sc, iv (3 : Int32), iv rr, rv qb, jv (((((s0.toInt64) * (s1.toInt64)) * (s2.toInt64)) + (((s0.toInt64) * (s1.toInt64)) * (s3.toInt64))) + (0 : Int64)), sc, rv ps, iv (1 : Int32), iv (0 : Int32), iv (2 : Int32), iv (3 : Int32), jv (((s0.toInt64) * (s1.toInt64)) * (s2.toInt64)), sc, jv (((s0.toInt64) * (s1.toInt64)) * (s3.toInt64)), sc, jv (((s0.toInt64) * (s2.toInt64)) * (s3.toInt64)), sc, un, un] rfl ?_
  refine go_aload C X737 645 rfl at_643 rfl rfl ?_
  refine go_aload C X737 647 rfl at_645 rfl rfl ?_
  refine go_virtual C X737 E6 (C.w 53 rfl) (C.w 54 rfl) (notFace_of_selects (args := #[]) (mvT C.hZ (C.w 56 rfl))) (C.w 56 rfl) (C.w 55 rfl) (C.w 9 rfl) (C.w 57 rfl) (own_bit_3_2 l Z a0 C.ws ps qb sb xb ob r0 r1 r2 r3 sz ix m0 m1 m2 m3 s0 s1 s2 s3 st _ _ _ _ _ _ _ _ _ _ _ _ _ _ _ _ _ _ _ _ h738 n0 X737.old Fs Fx Ft Fu A739 Ax6 Ao6 A6r0 A6r1 A6r2 A6r3 A742 hl xl b0 z0 b1 z1 b2 z2 b3 z3 x0 x1 x2 x3) (argsL := [(.ref qb)]) (rest := []) (lenOf pd_5 rfl) rfl (by decide) (by decide) (Nat.le_of_ble_eq_true rfl) (by decide) (by decide) rfl rfl (pc' := 650) rfl at_647 ?_
  rintro T744 _ _ ⟨rfl, rfl⟩ X745
  show Go p e below _ (T744.setTop (mkF m 650 #[jv pk, sc, iv ff, iv sk, iv pk2, jv st, sc, rv sb, iv kk, iv m0, iv m1, iv m2, iv m3, rv mb, jv (s0.toInt64), sc, jv (s1.toInt64), sc, jv (s2.toInt64), sc, jv (s3.toInt64), sc, iv (3 : Int32), iv rr, rv qb, jv (((((s0.toInt64) * (s1.toInt64)) * (s2.toInt64)) + (((s0.toInt64) * (s1.toInt64)) * (s3.toInt64))) + (0 : Int64)), sc, rv ps, iv (1 : Int32), iv (0 : Int32), iv (2 : Int32), iv (3 : Int32), jv (((s0.toInt64) * (s1.toInt64)) * (s2.toInt64)), sc, jv (((s0.toInt64) * (s1.toInt64)) * (s3.toInt64)), sc, jv (((s0.toInt64) * (s2.toInt64)) * (s3.toInt64)), sc, un, un] [(.long (st + ((((0 : Int64) + ((1 : Int64) * ((((((0 : Int64) + (s3.toInt64 * (0 : Int64))) + (s2.toInt64 * ((0 : Int64) + (s3.toInt64 * (0 : Int64))))) + (s1.toInt64 * (((0 : Int64) + (s3.toInt64 * (0 : Int64))) + (s2.toInt64 * ((0 : Int64) + (s3.toInt64 * (1 : Int64))))))) + (s0.toInt64 * ((((0 : Int64) + (s3.toInt64 * (0 : Int64))) + (s2.toInt64 * ((0 : Int64) + (s3.toInt64 * (1 : Int64))))) + (s1.toInt64 * (((0 : Int64) + (s3.toInt64 * (1 : Int64))) + (s2.toInt64 * (1 : Int64))))))) - (((((0 : Int64) + (s3.toInt64 * (0 : Int64))) + (s2.toInt64 * ((0 : Int64) + (s3.toInt64 * (0 : Int64))))) + (s1.toInt64 * (((0 : Int64) + (s3.toInt64 * (0 : Int64))) + (s2.toInt64 * ((0 : Int64) + (s3.toInt64 * (1 : Int64))))))) + (s0.toInt64 * ((((0 : Int64) + (s3.toInt64 * (0 : Int64))) + (s2.toInt64 * ((0 : Int64) + (s3.toInt64 * (1 : Int64))))) + (s1.toInt64 * (((0 : Int64) + (s3.toInt64 * (1 : Int64))) + (s2.toInt64 * (1 : Int64)))))))))) + (((1 : Int64) * s0.toInt64) * (((((0 : Int64) + (s3.toInt64 * (0 : Int64))) + (s2.toInt64 * ((0 : Int64) + (s3.toInt64 * (1 : Int64))))) + (s1.toInt64 * (((0 : Int64) + (s3.toInt64 * (1 : Int64))) + (s2.toInt64 * (1 : Int64))))) - (((0 : Int64) + (s3.toInt64 * (0 : Int64))) + (s2.toInt64 * ((0 : Int64) + (s3.toInt64 * (1 : Int64)))))))) + ((((1 : Int64) * s0.toInt64) * s2.toInt64) * (((0 : Int64) + (s3.toInt64 * (1 : Int64))) - ((0 : Int64) + (s3.toInt64 * (1 : Int64))))))))]))
  refine go_lload C X745 652 rfl at_650 rfl ?_
  refine go_lload C X745 654 rfl at_652 rfl ?_
  refine go_ladd C X745 655 rfl at_654 ?_
  refine go_lif_ne C X745 (pc1 := 656) rfl at_655 at_656 (pc' := 659) (pc2 := 663) rfl (by decide) (by decide) (fun c656 => False.elim (c656 (own_id_3_2 s0 s1 s2 s3 st))) (fun _ => ?_)
  refine go_iconst C X745 660 rfl at_659 (z := 1) rfl ?_
  refine go_goto C X745 at_660 (pc' := 664) (by decide) (by decide) ?_
  exact go_retN C X745 (by simp) (z' := 1) rfl at_664 rfl (by decide) (by decide)
set_option maxRecDepth 65536 in
set_option maxHeartbeats 40000000 in
theorem own_arm_3_3 {p : Program} {l : Launch} {e : Env} {s : State} {m : MethodId} {below : List Frame} {meth : Method} {c : Code} {Z : State} {a0 : Array Value} {n0 : Nat} {pk : Int64} {ff : Int32} {sk : Int32} {pk2 : Int32} {st : Int64} {sb : Addr} {mb : Addr} {sz : List Int32} {kk : Int32} {rr : Int32} {m0 : Int32} {s0 : Int32} {m1 : Int32} {s1 : Int32} {m2 : Int32} {s2 : Int32} {m3 : Int32} {s3 : Int32} (C : Cx p s m meth c Z a0 x.cls code maxLocals ret x.name) {T72 : State} {h74 : Heap} (X73 : St Z p l e room_1 s m #[(.long pk), (.int ff), (.int sk), (.int pk2), (.long st)] below meth c n0 T72 h74 (0 + 1 + 1) (0 + 5 + 4)) (A77 : La Z h74 sb .int (ia sz)) (A76 : La Z h74 mb .int ([(.int m0), (.int m1), (.int m2), (.int m3)])) (E78 : Exa Z h74 mb "[I") (ne_sb_mb : sb ≠ mb) (ga_sb : n0 ≤ sb) (ga_mb : n0 ≤ mb) (hl : sz.length = 5) (b0 : 0 ≤ m0.toInt ∧ m0.toInt < (5 : Nat)) (b1 : 0 ≤ m1.toInt ∧ m1.toInt < (5 : Nat)) (b2 : 0 ≤ m2.toInt ∧ m2.toInt < (5 : Nat)) (b3 : 0 ≤ m3.toInt ∧ m3.toInt < (5 : Nat)) (z0 : at32 sz m0 = s0) (z1 : at32 sz m1 = s1) (z2 : at32 sz m2 = s2) (z3 : at32 sz m3 = s3) (d01 : ¬ m0.toInt = m1.toInt) (d02 : ¬ m0.toInt = m2.toInt) (d03 : ¬ m0.toInt = m3.toInt) (d12 : ¬ m1.toInt = m2.toInt) (d13 : ¬ m1.toInt = m3.toInt) (d23 : ¬ m2.toInt = m3.toInt) : Go p e below (FinQ s room_1.cells room_1.slots n0 (fun v h' => v = some (.int 1))) (T72.setTop (mkF m 453 #[jv pk, sc, iv ff, iv sk, iv pk2, jv st, sc, rv sb, iv kk, iv m0, iv m1, iv m2, iv m3, rv mb, jv (s0.toInt64), sc, jv (s1.toInt64), sc, jv (s2.toInt64), sc, jv (s3.toInt64), sc, iv (3 : Int32), iv rr, un, un, un, iv (3 : Int32), un, un, un, un, un, un, un, un, un, un, un, un] [])) := by
  refine go_iconst C X73 454 rfl at_453 (z := 3) rfl ?_
  refine go_iload C X73 456 rfl at_454 rfl ?_
  refine go_isubL C X73 457 rfl at_456 (z := (0)) rfl ?_
  refine go_istore C X73 459 rfl at_457 #[jv pk, sc, iv ff, iv sk, iv pk2, jv st, sc, rv sb, iv kk, iv m0, iv m1, iv m2, iv m3, rv mb, jv (s0.toInt64), sc, jv (s1.toInt64), sc, jv (s2.toInt64), sc, jv (s3.toInt64), sc, iv (3 : Int32), iv rr, un, un, un, iv (3 : Int32), iv (0 : Int32), un, un, un, un, un, un, un, un, un, un, un] rfl ?_
  refine go_iload C X73 461 rfl at_459 rfl ?_
  refine go_if_ne C X73 at_461 (pc' := 464) (pc2 := 468) rfl (by decide) (by decide) (fun (c461 : ¬ (0 : Int32) = (0 : Int32)) => False.elim (by first | omega | exact absurd c461 (by decide))) (fun (c461 : (0 : Int32) = (0 : Int32)) => ?_)
  refine go_iconst C X73 465 rfl at_464 (z := 1) rfl ?_
  refine go_goto C X73 at_465 (pc' := 469) (by decide) (by decide) ?_
  refine go_istore C X73 471 rfl at_469 #[jv pk, sc, iv ff, iv sk, iv pk2, jv st, sc, rv sb, iv kk, iv m0, iv m1, iv m2, iv m3, rv mb, jv (s0.toInt64), sc, jv (s1.toInt64), sc, jv (s2.toInt64), sc, jv (s3.toInt64), sc, iv (3 : Int32), iv rr, un, un, un, iv (3 : Int32), iv (0 : Int32), iv (1 : Int32), un, un, un, un, un, un, un, un, un, un] rfl ?_
  refine go_iload C X73 473 rfl at_471 rfl ?_
  refine go_iconst C X73 474 rfl at_473 (z := 1) rfl ?_
  refine go_icmp_gt C X73 at_474 (pc' := 477) (pc2 := 481) rfl (by decide) (by decide) (fun (c474 : 1 < 0) => False.elim (by first | omega | exact absurd c474 (by decide))) (fun (c474 : 0 ≤ 1) => ?_)
  refine go_iconst C X73 478 rfl at_477 (z := 2) rfl ?_
  refine go_goto C X73 at_478 (pc' := 482) (by decide) (by decide) ?_
  refine go_istore C X73 484 rfl at_482 #[jv pk, sc, iv ff, iv sk, iv pk2, jv st, sc, rv sb, iv kk, iv m0, iv m1, iv m2, iv m3, rv mb, jv (s0.toInt64), sc, jv (s1.toInt64), sc, jv (s2.toInt64), sc, jv (s3.toInt64), sc, iv (3 : Int32), iv rr, un, un, un, iv (3 : Int32), iv (0 : Int32), iv (1 : Int32), iv (2 : Int32), un, un, un, un, un, un, un, un, un] rfl ?_
  refine go_iload C X73 486 rfl at_484 rfl ?_
  refine go_iconst C X73 487 rfl at_486 (z := 2) rfl ?_
  refine go_icmp_gt C X73 at_487 (pc' := 490) (pc2 := 494) rfl (by decide) (by decide) (fun (c487 : 2 < 0) => False.elim (by first | omega | exact absurd c487 (by decide))) (fun (c487 : 0 ≤ 2) => ?_)
  refine go_iconst C X73 491 rfl at_490 (z := 3) rfl ?_
  refine go_goto C X73 at_491 (pc' := 495) (by decide) (by decide) ?_
  refine go_istore C X73 497 rfl at_495 #[jv pk, sc, iv ff, iv sk, iv pk2, jv st, sc, rv sb, iv kk, iv m0, iv m1, iv m2, iv m3, rv mb, jv (s0.toInt64), sc, jv (s1.toInt64), sc, jv (s2.toInt64), sc, jv (s3.toInt64), sc, iv (3 : Int32), iv rr, un, un, un, iv (3 : Int32), iv (0 : Int32), iv (1 : Int32), iv (2 : Int32), iv (3 : Int32), un, un, un, un, un, un, un, un] rfl ?_
  refine go_iconst C X73 498 rfl at_497 (z := 3) rfl ?_
  refine go_newarr C X73 (C.w 0 rfl) (cap := 3) (by decide) (by decide) (by decide) (by decide) (by decide) (pc' := 500) rfl at_498 (fun T747 h749 qb ha_qb ga_qb E750 A751  X748 => ?_)
  have ne_sb_qb : sb ≠ qb := Nat.ne_of_lt (Nat.lt_of_lt_of_le A77.lt (Nat.le_of_eq ha_qb.symm))
  have ne_mb_qb : mb ≠ qb := Nat.ne_of_lt (Nat.lt_of_lt_of_le A76.lt (Nat.le_of_eq ha_qb.symm))
  have A752 := A77.ext E750
  have A753 := A76.ext E750
  have E754 := E78.ext E750
  replace A751 : La Z h749 qb .int ([(.int (0 : Int32)), (.int (0 : Int32)), (.int (0 : Int32))]) := A751
  refine go_dup C X748 501 rfl at_500 rfl ?_
  refine go_iconst C X748 502 rfl at_501 (z := 0) rfl ?_
  refine go_aload C X748 504 rfl at_502 rfl rfl ?_
  refine go_iload C X748 506 rfl at_504 rfl ?_
  refine go_iaload C X748 A753 (by decide) (v := (.int m1)) rfl (pc' := 507) rfl at_506 ?_
  refine go_iastore C X748 A751 (by decide) (by show _ < (3 : Int); decide) ga_qb (pc' := 508) rfl at_507 (fun T755 h757 W758 A759 X756 => ?_)
  have A760 := A752.other W758 ne_sb_qb
  have A761 := A753.other W758 ne_mb_qb
  have E762 := E754.wr W758
  replace A759 : La Z h757 qb .int ([(.int m1), (.int (0 : Int32)), (.int (0 : Int32))]) := A759
  refine go_dup C X756 509 rfl at_508 rfl ?_
  refine go_iconst C X756 510 rfl at_509 (z := 1) rfl ?_
  refine go_aload C X756 512 rfl at_510 rfl rfl ?_
  refine go_iload C X756 514 rfl at_512 rfl ?_
  refine go_iaload C X756 A761 (by decide) (v := (.int m2)) rfl (pc' := 515) rfl at_514 ?_
  refine go_iastore C X756 A759 (by decide) (by show _ < (3 : Int); decide) ga_qb (pc' := 516) rfl at_515 (fun T763 h765 W766 A767 X764 => ?_)
  have A768 := A760.other W766 ne_sb_qb
  have A769 := A761.other W766 ne_mb_qb
  have E770 := E762.wr W766
  replace A767 : La Z h765 qb .int ([(.int m1), (.int m2), (.int (0 : Int32))]) := A767
  refine go_dup C X764 517 rfl at_516 rfl ?_
  refine go_iconst C X764 518 rfl at_517 (z := 2) rfl ?_
  refine go_aload C X764 520 rfl at_518 rfl rfl ?_
  refine go_iload C X764 522 rfl at_520 rfl ?_
  refine go_iaload C X764 A769 (by decide) (v := (.int m3)) rfl (pc' := 523) rfl at_522 ?_
  refine go_iastore C X764 A767 (by decide) (by show _ < (3 : Int); decide) ga_qb (pc' := 524) rfl at_523 (fun T771 h773 W774 A775 X772 => ?_)
  have A776 := A768.other W774 ne_sb_qb
  have A777 := A769.other W774 ne_mb_qb
  have E778 := E770.wr W774
  replace A775 : La Z h773 qb .int ([(.int m1), (.int m2), (.int m3)]) := A775
  refine go_astore C X772 526 rfl at_524 rfl #[jv pk, sc, iv ff, iv sk, iv pk2, jv st, sc, rv sb, iv kk, iv m0, iv m1, iv m2, iv m3, rv mb, jv (s0.toInt64), sc, jv (s1.toInt64), sc, jv (s2.toInt64), sc, jv (s3.toInt64), sc, iv (3 : Int32), iv rr, rv qb, un, un, iv (3 : Int32), iv (0 : Int32), iv (1 : Int32), iv (2 : Int32), iv (3 : Int32), un, un, un, un, un, un, un, un] rfl ?_
  refine go_lload C X772 528 rfl at_526 rfl ?_
  refine go_lload C X772 530 rfl at_528 rfl ?_
  refine go_lmul C X772 531 rfl at_530 ?_
  refine go_lload C X772 533 rfl at_531 rfl ?_
  refine go_lmul C X772 534 rfl at_533 ?_
  refine go_lstore C X772 536 rfl at_534 #[jv pk, sc, iv ff, iv sk, iv pk2, jv st, sc, rv sb, iv kk, iv m0, iv m1, iv m2, iv m3, rv mb, jv (s0.toInt64), sc, jv (s1.toInt64), sc, jv (s2.toInt64), sc, jv (s3.toInt64), sc, iv (3 : Int32), iv rr, rv qb, un, un, iv (3 : Int32), iv (0 : Int32), iv (1 : Int32), iv (2 : Int32), iv (3 : Int32), jv (((s0.toInt64) * (s1.toInt64)) * (s2.toInt64)), sc, un, un, un, un, un, un] rfl ?_
  refine go_lload C X772 538 rfl at_536 rfl ?_
  refine go_lload C X772 540 rfl at_538 rfl ?_
  refine go_lmul C X772 541 rfl at_540 ?_
  refine go_lload C X772 543 rfl at_541 rfl ?_
  refine go_lmul C X772 544 rfl at_543 ?_
  refine go_lstore C X772 546 rfl at_544 #[jv pk, sc, iv ff, iv sk, iv pk2, jv st, sc, rv sb, iv kk, iv m0, iv m1, iv m2, iv m3, rv mb, jv (s0.toInt64), sc, jv (s1.toInt64), sc, jv (s2.toInt64), sc, jv (s3.toInt64), sc, iv (3 : Int32), iv rr, rv qb, un, un, iv (3 : Int32), iv (0 : Int32), iv (1 : Int32), iv (2 : Int32), iv (3 : Int32), jv (((s0.toInt64) * (s1.toInt64)) * (s2.toInt64)), sc, jv (((s0.toInt64) * (s1.toInt64)) * (s3.toInt64)), sc, un, un, un, un] rfl ?_
  refine go_lload C X772 548 rfl at_546 rfl ?_
  refine go_lload C X772 550 rfl at_548 rfl ?_
  refine go_lmul C X772 551 rfl at_550 ?_
  refine go_lload C X772 553 rfl at_551 rfl ?_
  refine go_lmul C X772 554 rfl at_553 ?_
  refine go_lstore C X772 556 rfl at_554 #[jv pk, sc, iv ff, iv sk, iv pk2, jv st, sc, rv sb, iv kk, iv m0, iv m1, iv m2, iv m3, rv mb, jv (s0.toInt64), sc, jv (s1.toInt64), sc, jv (s2.toInt64), sc, jv (s3.toInt64), sc, iv (3 : Int32), iv rr, rv qb, un, un, iv (3 : Int32), iv (0 : Int32), iv (1 : Int32), iv (2 : Int32), iv (3 : Int32), jv (((s0.toInt64) * (s1.toInt64)) * (s2.toInt64)), sc, jv (((s0.toInt64) * (s1.toInt64)) * (s3.toInt64)), sc, jv (((s0.toInt64) * (s2.toInt64)) * (s3.toInt64)), sc, un, un] rfl ?_
  refine go_iload C X772 558 rfl at_556 rfl ?_
  refine go_if_le C X772 at_558 (pc' := 561) (pc2 := 566) rfl (by decide) (by decide) (fun (c558 : 3 ≤ 0) => False.elim (by first | omega | exact absurd c558 (by decide))) (fun (c558 : 0 < 3) => ?_)
  refine go_lload C X772 563 rfl at_561 rfl ?_
  refine go_goto C X772 at_563 (pc' := 567) (by decide) (by decide) ?_
  refine go_iload C X772 569 rfl at_567 rfl ?_
  refine go_iconst C X772 570 rfl at_569 (z := 1) rfl ?_
  refine go_icmp_le C X772 at_570 (pc' := 573) (pc2 := 578) rfl (by decide) (by decide) (fun (c570 : 3 ≤ 1) => False.elim (by first | omega | exact absurd c570 (by decide))) (fun (c570 : 1 < 3) => ?_)
  refine go_lload C X772 575 rfl at_573 rfl ?_
  refine go_goto C X772 at_575 (pc' := 579) (by decide) (by decide) ?_
  refine go_ladd C X772 580 rfl at_579 ?_
  refine go_iload C X772 582 rfl at_580 rfl ?_
  refine go_iconst C X772 583 rfl at_582 (z := 2) rfl ?_
  refine go_icmp_le C X772 at_583 (pc' := 586) (pc2 := 591) rfl (by decide) (by decide) (fun (c583 : 3 ≤ 2) => False.elim (by first | omega | exact absurd c583 (by decide))) (fun (c583 : 2 < 3) => ?_)
  refine go_lload C X772 588 rfl at_586 rfl ?_
  refine go_goto C X772 at_588 (pc' := 592) (by decide) (by decide) ?_
  refine go_ladd C X772 593 rfl at_592 ?_
  refine go_lstore C X772 595 rfl at_593 #[jv pk, sc, iv ff, iv sk, iv pk2, jv st, sc, rv sb, iv kk, iv m0, iv m1, iv m2, iv m3, rv mb, jv (s0.toInt64), sc, jv (s1.toInt64), sc, jv (s2.toInt64), sc, jv (s3.toInt64), sc, iv (3 : Int32), iv rr, rv qb, jv (((((s0.toInt64) * (s1.toInt64)) * (s2.toInt64)) + (((s0.toInt64) * (s1.toInt64)) * (s3.toInt64))) + (((s0.toInt64) * (s2.toInt64)) * (s3.toInt64))), sc, iv (3 : Int32), iv (0 : Int32), iv (1 : Int32), iv (2 : Int32), iv (3 : Int32), jv (((s0.toInt64) * (s1.toInt64)) * (s2.toInt64)), sc, jv (((s0.toInt64) * (s1.toInt64)) * (s3.toInt64)), sc, jv (((s0.toInt64) * (s2.toInt64)) * (s3.toInt64)), sc, un, un] rfl ?_
  refine go_goto C X772 at_595 (pc' := 626) (by decide) (by decide) ?_
  refine go_new C X772 (C.w 7 rfl) (C.w 8 rfl) (C.w 9 rfl) (by decide) (by decide) (pc' := 629) rfl at_626 (fun T779 h781 ps ha_ps ga_ps E782 E783 D784 X780 => ?_)
  have ne_sb_ps : sb ≠ ps := Nat.ne_of_lt (Nat.lt_of_lt_of_le A776.lt (Nat.le_of_eq ha_ps.symm))
  have ne_mb_ps : mb ≠ ps := Nat.ne_of_lt (Nat.lt_of_lt_of_le A777.lt (Nat.le_of_eq ha_ps.symm))
  have ne_qb_ps : qb ≠ ps := Nat.ne_of_lt (Nat.lt_of_lt_of_le A775.lt (Nat.le_of_eq ha_ps.symm))
  have A785 := A776.ext E782
  have A786 := A777.ext E782
  have E787 := E778.ext E782
  have A788 := A775.ext E782
  have F789 : Fld Z h781 ps "com/example/covertide/covertide/engine/ParameterSets" "sizes" "[I" .null := D784 (Or.inr (C.w 17 rfl)) (ty := (.array .int)) (by decide)
  have F790 : Fld Z h781 ps "com/example/covertide/covertide/engine/ParameterSets" "members" "[I" .null := D784 (Or.inr (C.w 28 rfl)) (ty := (.array .int)) (by decide)
  have F791 : Fld Z h781 ps "com/example/covertide/covertide/engine/ParameterSets" "indexOf" "[I" .null := D784 (Or.inr (C.w 30 rfl)) (ty := (.array .int)) (by decide)
  have F792 : Fld Z h781 ps "com/example/covertide/covertide/engine/ParameterSets" "size" "I" (.int (0 : Int32)) := D784 (Or.inr (C.w 36 rfl)) (ty := .int) (by decide)
  have F793 : Fld Z h781 ps "com/example/covertide/covertide/engine/ParameterSets" "start" "J" (.long (0 : Int64)) := D784 (Or.inr (C.w 38 rfl)) (ty := .long) (by decide)
  have F794 : Fld Z h781 ps "com/example/covertide/covertide/engine/ParameterSets" "suffixSums" "[[J" .null := D784 (Or.inr (C.w 50 rfl)) (ty := (.array (.array .long))) (by decide)
  have F795 : Fld Z h781 ps "com/example/covertide/covertide/engine/ParameterSets" "combinations" "J" (.long (0 : Int64)) := D784 (Or.inr (C.w 52 rfl)) (ty := .long) (by decide)
  refine go_dup C X780 630 rfl at_629 rfl ?_
  refine go_aload C X780 632 rfl at_630 rfl rfl ?_
  refine go_aload C X780 634 rfl at_632 rfl rfl ?_
  refine go_iload C X780 636 rfl at_634 rfl ?_
  refine go_lload C X780 638 rfl at_636 rfl ?_
  have hsz_638 := X780.sz
  have lt_sb_638 := A785.lt
  have lt_mb_638 := A786.lt
  have lt_qb_638 := A788.lt
  have lt_ps_638 := E783.lt
  refine go_special C X780 (C.w 10 rfl) (C.w 11 rfl) (C.w 9 rfl) (C.w 12 rfl) rfl (own_init_3 l Z a0 C.ws ps sb mb st sz m0 m1 m2 m3 s0 s1 s2 s3 h781 n0 X780.old E783 F789 F790 F791 F792 F793 F794 F795 A785 A786 E787 ga_ps (Ne.symm ne_sb_ps) (Ne.symm ne_mb_ps) hl b0 z0 b1 z1 b2 z2 b3 z3) (argsL := [(.ref sb), (.ref mb), (.int (3 : Int32)), (.long st)]) (rest := [(.ref ps)]) (lenOf pd_4 rfl) rfl (by decide) (by decide) (Nat.le_of_ble_eq_true rfl) (by decide) (by decide) rfl rfl (pc' := 641) rfl at_638 ?_
  rintro T796 h798 _ ⟨rfl, xb, ob, r0, r1, r2, r3, K6, E6, Fs, Fx, Ft, Fu, sx6, so6, sz6r0, sz6r1, sz6r2, sz6r3, Ax6, Ao6, A6r0, A6r1, A6r2, A6r3⟩ X797
  show Go p e below _ (T796.setTop (mkF m 641 #[jv pk, sc, iv ff, iv sk, iv pk2, jv st, sc, rv sb, iv kk, iv m0, iv m1, iv m2, iv m3, rv mb, jv (s0.toInt64), sc, jv (s1.toInt64), sc, jv (s2.toInt64), sc, jv (s3.toInt64), sc, iv (3 : Int32), iv rr, rv qb, jv (((((s0.toInt64) * (s1.toInt64)) * (s2.toInt64)) + (((s0.toInt64) * (s1.toInt64)) * (s3.toInt64))) + (((s0.toInt64) * (s2.toInt64)) * (s3.toInt64))), sc, iv (3 : Int32), iv (0 : Int32), iv (1 : Int32), iv (2 : Int32), iv (3 : Int32), jv (((s0.toInt64) * (s1.toInt64)) * (s2.toInt64)), sc, jv (((s0.toInt64) * (s1.toInt64)) * (s3.toInt64)), sc, jv (((s0.toInt64) * (s2.toInt64)) * (s3.toInt64)), sc, un, un] [(.ref ps)]))
  have ne_sb_xb : sb ≠ xb := Nat.ne_of_lt (Nat.lt_of_lt_of_le lt_sb_638 sx6)
  have ne_mb_xb : mb ≠ xb := Nat.ne_of_lt (Nat.lt_of_lt_of_le lt_mb_638 sx6)
  have ne_qb_xb : qb ≠ xb := Nat.ne_of_lt (Nat.lt_of_lt_of_le lt_qb_638 sx6)
  have ne_ps_xb : ps ≠ xb := Nat.ne_of_lt (Nat.lt_of_lt_of_le lt_ps_638 sx6)
  have ga_xb : n0 ≤ xb := Nat.le_trans hsz_638 sx6
  have ne_sb_ob : sb ≠ ob := Nat.ne_of_lt (Nat.lt_of_lt_of_le lt_sb_638 so6)
  have ne_mb_ob : mb ≠ ob := Nat.ne_of_lt (Nat.lt_of_lt_of_le lt_mb_638 so6)
  have ne_qb_ob : qb ≠ ob := Nat.ne_of_lt (Nat.lt_of_lt_of_le lt_qb_638 so6)
  have ne_ps_ob : ps ≠ ob := Nat.ne_of_lt (Nat.lt_of_lt_of_le lt_ps_638 so6)
  have ga_ob : n0 ≤ ob := Nat.le_trans hsz_638 so6
  have ne_sb_r0 : sb ≠ r0 := Nat.ne_of_lt (Nat.lt_of_lt_of_le lt_sb_638 sz6r0)
  have ne_mb_r0 : mb ≠ r0 := Nat.ne_of_lt (Nat.lt_of_lt_of_le lt_mb_638 sz6r0)
  have ne_qb_r0 : qb ≠ r0 := Nat.ne_of_lt (Nat.lt_of_lt_of_le lt_qb_638 sz6r0)
  have ne_ps_r0 : ps ≠ r0 := Nat.ne_of_lt (Nat.lt_of_lt_of_le lt_ps_638 sz6r0)
  have ga_r0 : n0 ≤ r0 := Nat.le_trans hsz_638 sz6r0
  have ne_sb_r1 : sb ≠ r1 := Nat.ne_of_lt (Nat.lt_of_lt_of_le lt_sb_638 sz6r1)
  have ne_mb_r1 : mb ≠ r1 := Nat.ne_of_lt (Nat.lt_of_lt_of_le lt_mb_638 sz6r1)
  have ne_qb_r1 : qb ≠ r1 := Nat.ne_of_lt (Nat.lt_of_lt_of_le lt_qb_638 sz6r1)
  have ne_ps_r1 : ps ≠ r1 := Nat.ne_of_lt (Nat.lt_of_lt_of_le lt_ps_638 sz6r1)
  have ga_r1 : n0 ≤ r1 := Nat.le_trans hsz_638 sz6r1
  have ne_sb_r2 : sb ≠ r2 := Nat.ne_of_lt (Nat.lt_of_lt_of_le lt_sb_638 sz6r2)
  have ne_mb_r2 : mb ≠ r2 := Nat.ne_of_lt (Nat.lt_of_lt_of_le lt_mb_638 sz6r2)
  have ne_qb_r2 : qb ≠ r2 := Nat.ne_of_lt (Nat.lt_of_lt_of_le lt_qb_638 sz6r2)
  have ne_ps_r2 : ps ≠ r2 := Nat.ne_of_lt (Nat.lt_of_lt_of_le lt_ps_638 sz6r2)
  have ga_r2 : n0 ≤ r2 := Nat.le_trans hsz_638 sz6r2
  have ne_sb_r3 : sb ≠ r3 := Nat.ne_of_lt (Nat.lt_of_lt_of_le lt_sb_638 sz6r3)
  have ne_mb_r3 : mb ≠ r3 := Nat.ne_of_lt (Nat.lt_of_lt_of_le lt_mb_638 sz6r3)
  have ne_qb_r3 : qb ≠ r3 := Nat.ne_of_lt (Nat.lt_of_lt_of_le lt_qb_638 sz6r3)
  have ne_ps_r3 : ps ≠ r3 := Nat.ne_of_lt (Nat.lt_of_lt_of_le lt_ps_638 sz6r3)
  have ga_r3 : n0 ≤ r3 := Nat.le_trans hsz_638 sz6r3
  have A799 := A785.keep K6 (ninS ne_sb_ps nin0)
  have A800 := A786.keep K6 (ninS ne_mb_ps nin0)
  have E801 := E787.keep K6
  have A802 := A788.keep K6 (ninS ne_qb_ps nin0)
  have E803 := E783.keep K6
  have xl : ((put32 (put32 (put32 (put32 [-1, -1, -1, -1, -1] m0 0) m1 1) m2 2) m3 3)).length = 5 := by simp [put32_len]
  have x0 : at32 (put32 (put32 (put32 (put32 [-1, -1, -1, -1, -1] m0 0) m1 1) m2 2) m3 3) m0 = 0 := by rw [own_put_miss b3.1 b0.1 (fun q => d03 q.symm)]; rw [own_put_miss b2.1 b0.1 (fun q => d02 q.symm)]; rw [own_put_miss b1.1 b0.1 (fun q => d01 q.symm)]; exact own_put_hit b0.1 (by simpa [put32_len] using b0.2)
  have x1 : at32 (put32 (put32 (put32 (put32 [-1, -1, -1, -1, -1] m0 0) m1 1) m2 2) m3 3) m1 = 1 := by rw [own_put_miss b3.1 b1.1 (fun q => d13 q.symm)]; rw [own_put_miss b2.1 b1.1 (fun q => d12 q.symm)]; exact own_put_hit b1.1 (by simpa [put32_len] using b1.2)
  have x2 : at32 (put32 (put32 (put32 (put32 [-1, -1, -1, -1, -1] m0 0) m1 1) m2 2) m3 3) m2 = 2 := by rw [own_put_miss b3.1 b2.1 (fun q => d23 q.symm)]; exact own_put_hit b2.1 (by simpa [put32_len] using b2.2)
  have x3 : at32 (put32 (put32 (put32 (put32 [-1, -1, -1, -1, -1] m0 0) m1 1) m2 2) m3 3) m3 = 3 := by exact own_put_hit b3.1 (by simpa [put32_len] using b3.2)
  generalize (put32 (put32 (put32 (put32 [-1, -1, -1, -1, -1] m0 0) m1 1) m2 2) m3 3) = ix at *
  refine go_astore C X797 643 rfl at_641 rfl #[jv pk, sc, iv ff, iv sk, iv pk2, jv st, sc, rv sb, iv kk, iv m0, iv m1, iv m2, iv m3, rv mb, jv (s0.toInt64), sc, jv (s1.toInt64), sc, jv (s2.toInt64), sc, jv (s3.toInt64), sc, iv (3 : Int32), iv rr, rv qb, jv (((((s0.toInt64) * (s1.toInt64)) * (s2.toInt64)) + (((s0.toInt64) * (s1.toInt64)) * (s3.toInt64))) + (((s0.toInt64) * (s2.toInt64)) * (s3.toInt64))), sc, rv ps, iv (0 : Int32), iv (1 : Int32), iv (2 : Int32), iv (3 : Int32), jv (((s0.toInt64) * (s1.toInt64)) * (s2.toInt64)), sc, jv (((s0.toInt64) * (s1.toInt64)) * (s3.toInt64)), sc, jv (((s0.toInt64) * (s2.toInt64)) * (s3.toInt64)), sc, un, un] rfl ?_
  refine go_aload C X797 645 rfl at_643 rfl rfl ?_
  refine go_aload C X797 647 rfl at_645 rfl rfl ?_
  refine go_virtual C X797 E6 (C.w 53 rfl) (C.w 54 rfl) (notFace_of_selects (args := #[]) (mvT C.hZ (C.w 56 rfl))) (C.w 56 rfl) (C.w 55 rfl) (C.w 9 rfl) (C.w 57 rfl) (own_bit_3_3 l Z a0 C.ws ps qb sb xb ob r0 r1 r2 r3 sz ix m0 m1 m2 m3 s0 s1 s2 s3 st _ _ _ _ _ _ _ _ _ _ _ _ _ _ _ _ _ _ _ _ h798 n0 X797.old Fs Fx Ft Fu A799 Ax6 Ao6 A6r0 A6r1 A6r2 A6r3 A802 hl xl b0 z0 b1 z1 b2 z2 b3 z3 x0 x1 x2 x3) (argsL := [(.ref qb)]) (rest := []) (lenOf pd_5 rfl) rfl (by decide) (by decide) (Nat.le_of_ble_eq_true rfl) (by decide) (by decide) rfl rfl (pc' := 650) rfl at_647 ?_
  rintro T804 _ _ ⟨rfl, rfl⟩ X805
  show Go p e below _ (T804.setTop (mkF m 650 #[jv pk, sc, iv ff, iv sk, iv pk2, jv st, sc, rv sb, iv kk, iv m0, iv m1, iv m2, iv m3, rv mb, jv (s0.toInt64), sc, jv (s1.toInt64), sc, jv (s2.toInt64), sc, jv (s3.toInt64), sc, iv (3 : Int32), iv rr, rv qb, jv (((((s0.toInt64) * (s1.toInt64)) * (s2.toInt64)) + (((s0.toInt64) * (s1.toInt64)) * (s3.toInt64))) + (((s0.toInt64) * (s2.toInt64)) * (s3.toInt64))), sc, rv ps, iv (0 : Int32), iv (1 : Int32), iv (2 : Int32), iv (3 : Int32), jv (((s0.toInt64) * (s1.toInt64)) * (s2.toInt64)), sc, jv (((s0.toInt64) * (s1.toInt64)) * (s3.toInt64)), sc, jv (((s0.toInt64) * (s2.toInt64)) * (s3.toInt64)), sc, un, un] [(.long (st + ((((0 : Int64) + ((1 : Int64) * ((((((0 : Int64) + (s3.toInt64 * (0 : Int64))) + (s2.toInt64 * ((0 : Int64) + (s3.toInt64 * (0 : Int64))))) + (s1.toInt64 * (((0 : Int64) + (s3.toInt64 * (0 : Int64))) + (s2.toInt64 * ((0 : Int64) + (s3.toInt64 * (1 : Int64))))))) + (s0.toInt64 * ((((0 : Int64) + (s3.toInt64 * (0 : Int64))) + (s2.toInt64 * ((0 : Int64) + (s3.toInt64 * (1 : Int64))))) + (s1.toInt64 * (((0 : Int64) + (s3.toInt64 * (1 : Int64))) + (s2.toInt64 * (1 : Int64))))))) - ((((0 : Int64) + (s3.toInt64 * (0 : Int64))) + (s2.toInt64 * ((0 : Int64) + (s3.toInt64 * (0 : Int64))))) + (s1.toInt64 * (((0 : Int64) + (s3.toInt64 * (0 : Int64))) + (s2.toInt64 * ((0 : Int64) + (s3.toInt64 * (1 : Int64)))))))))) + (((1 : Int64) * s1.toInt64) * ((((0 : Int64) + (s3.toInt64 * (0 : Int64))) + (s2.toInt64 * ((0 : Int64) + (s3.toInt64 * (1 : Int64))))) - (((0 : Int64) + (s3.toInt64 * (0 : Int64))) + (s2.toInt64 * ((0 : Int64) + (s3.toInt64 * (1 : Int64)))))))) + ((((1 : Int64) * s1.toInt64) * s2.toInt64) * (((0 : Int64) + (s3.toInt64 * (1 : Int64))) - ((0 : Int64) + (s3.toInt64 * (1 : Int64))))))))]))
  refine go_lload C X805 652 rfl at_650 rfl ?_
  refine go_lload C X805 654 rfl at_652 rfl ?_
  refine go_ladd C X805 655 rfl at_654 ?_
  refine go_lif_ne C X805 (pc1 := 656) rfl at_655 at_656 (pc' := 659) (pc2 := 663) rfl (by decide) (by decide) (fun c656 => False.elim (c656 (own_id_3_3 s0 s1 s2 s3 st))) (fun _ => ?_)
  refine go_iconst C X805 660 rfl at_659 (z := 1) rfl ?_
  refine go_goto C X805 at_660 (pc' := 664) (by decide) (by decide) ?_
  exact go_retN C X805 (by simp) (z' := 1) rfl at_664 rfl (by decide) (by decide)
set_option maxRecDepth 65536 in
set_option maxHeartbeats 40000000 in
theorem own_arm_4_0 {p : Program} {l : Launch} {e : Env} {s : State} {m : MethodId} {below : List Frame} {meth : Method} {c : Code} {Z : State} {a0 : Array Value} {n0 : Nat} {pk : Int64} {ff : Int32} {sk : Int32} {pk2 : Int32} {st : Int64} {sb : Addr} {mb : Addr} {sz : List Int32} {kk : Int32} {rr : Int32} {m0 : Int32} {s0 : Int32} {m1 : Int32} {s1 : Int32} {m2 : Int32} {s2 : Int32} {m3 : Int32} {s3 : Int32} (C : Cx p s m meth c Z a0 x.cls code maxLocals ret x.name) {T72 : State} {h74 : Heap} (X73 : St Z p l e room_1 s m #[(.long pk), (.int ff), (.int sk), (.int pk2), (.long st)] below meth c n0 T72 h74 (0 + 1 + 1) (0 + 5 + 4)) (A77 : La Z h74 sb .int (ia sz)) (A76 : La Z h74 mb .int ([(.int m0), (.int m1), (.int m2), (.int m3)])) (E78 : Exa Z h74 mb "[I") (ne_sb_mb : sb ≠ mb) (ga_sb : n0 ≤ sb) (ga_mb : n0 ≤ mb) (hl : sz.length = 5) (b0 : 0 ≤ m0.toInt ∧ m0.toInt < (5 : Nat)) (b1 : 0 ≤ m1.toInt ∧ m1.toInt < (5 : Nat)) (b2 : 0 ≤ m2.toInt ∧ m2.toInt < (5 : Nat)) (b3 : 0 ≤ m3.toInt ∧ m3.toInt < (5 : Nat)) (z0 : at32 sz m0 = s0) (z1 : at32 sz m1 = s1) (z2 : at32 sz m2 = s2) (z3 : at32 sz m3 = s3) (d01 : ¬ m0.toInt = m1.toInt) (d02 : ¬ m0.toInt = m2.toInt) (d03 : ¬ m0.toInt = m3.toInt) (d12 : ¬ m1.toInt = m2.toInt) (d13 : ¬ m1.toInt = m3.toInt) (d23 : ¬ m2.toInt = m3.toInt) : Go p e below (FinQ s room_1.cells room_1.slots n0 (fun v h' => v = some (.int 1))) (T72.setTop (mkF m 185 #[jv pk, sc, iv ff, iv sk, iv pk2, jv st, sc, rv sb, iv kk, iv m0, iv m1, iv m2, iv m3, rv mb, jv (s0.toInt64), sc, jv (s1.toInt64), sc, jv (s2.toInt64), sc, jv (s3.toInt64), sc, iv (4 : Int32), iv rr, un, un, un, un, un, un, un, un, un, un, un, un, un, un, un, un] [])) := by
  refine go_iload C X73 187 rfl at_185 rfl ?_
  refine go_iconst C X73 188 rfl at_187 (z := 1) rfl ?_
  refine go_icmp_ne C X73 at_188 (pc' := 191) (pc2 := 252) rfl (by decide) (by decide) (fun (c188 : ¬ (4 : Int32) = (1 : Int32)) => ?_) (fun (c188 : (4 : Int32) = (1 : Int32)) => False.elim (by first | omega | exact absurd c188 (by decide)))
  refine go_iload C X73 254 rfl at_252 rfl ?_
  refine go_iconst C X73 255 rfl at_254 (z := 2) rfl ?_
  refine go_icmp_ne C X73 at_255 (pc' := 258) (pc2 := 441) rfl (by decide) (by decide) (fun (c255 : ¬ (4 : Int32) = (2 : Int32)) => ?_) (fun (c255 : (4 : Int32) = (2 : Int32)) => False.elim (by first | omega | exact absurd c255 (by decide)))
  refine go_iload C X73 443 rfl at_441 rfl ?_
  refine go_iconst C X73 444 rfl at_443 (z := 3) rfl ?_
  refine go_icmp_ne C X73 at_444 (pc' := 447) (pc2 := 598) rfl (by decide) (by decide) (fun (c444 : ¬ (4 : Int32) = (3 : Int32)) => ?_) (fun (c444 : (4 : Int32) = (3 : Int32)) => False.elim (by first | omega | exact absurd c444 (by decide)))
  refine go_iconst C X73 599 rfl at_598 (z := 4) rfl ?_
  refine go_newarr C X73 (C.w 0 rfl) (cap := 4) (by decide) (by decide) (by decide) (by decide) (by decide) (pc' := 601) rfl at_599 (fun T807 h809 qb ha_qb ga_qb E810 A811  X808 => ?_)
  have ne_sb_qb : sb ≠ qb := Nat.ne_of_lt (Nat.lt_of_lt_of_le A77.lt (Nat.le_of_eq ha_qb.symm))
  have ne_mb_qb : mb ≠ qb := Nat.ne_of_lt (Nat.lt_of_lt_of_le A76.lt (Nat.le_of_eq ha_qb.symm))
  have A812 := A77.ext E810
  have A813 := A76.ext E810
  have E814 := E78.ext E810
  replace A811 : La Z h809 qb .int ([(.int (0 : Int32)), (.int (0 : Int32)), (.int (0 : Int32)), (.int (0 : Int32))]) := A811
  refine go_dup C X808 602 rfl at_601 rfl ?_
  refine go_iconst C X808 603 rfl at_602 (z := 0) rfl ?_
  refine go_iload C X808 605 rfl at_603 rfl ?_
  refine go_iastore C X808 A811 (by decide) (by show _ < (4 : Int); decide) ga_qb (pc' := 606) rfl at_605 (fun T815 h817 W818 A819 X816 => ?_)
  have A820 := A812.other W818 ne_sb_qb
  have A821 := A813.other W818 ne_mb_qb
  have E822 := E814.wr W818
  replace A819 : La Z h817 qb .int ([(.int m0), (.int (0 : Int32)), (.int (0 : Int32)), (.int (0 : Int32))]) := A819
  refine go_dup C X816 607 rfl at_606 rfl ?_
  refine go_iconst C X816 608 rfl at_607 (z := 1) rfl ?_
  refine go_iload C X816 610 rfl at_608 rfl ?_
  refine go_iastore C X816 A819 (by decide) (by show _ < (4 : Int); decide) ga_qb (pc' := 611) rfl at_610 (fun T823 h825 W826 A827 X824 => ?_)
  have A828 := A820.other W826 ne_sb_qb
  have A829 := A821.other W826 ne_mb_qb
  have E830 := E822.wr W826
  replace A827 : La Z h825 qb .int ([(.int m0), (.int m1), (.int (0 : Int32)), (.int (0 : Int32))]) := A827
  refine go_dup C X824 612 rfl at_611 rfl ?_
  refine go_iconst C X824 613 rfl at_612 (z := 2) rfl ?_
  refine go_iload C X824 615 rfl at_613 rfl ?_
  refine go_iastore C X824 A827 (by decide) (by show _ < (4 : Int); decide) ga_qb (pc' := 616) rfl at_615 (fun T831 h833 W834 A835 X832 => ?_)
  have A836 := A828.other W834 ne_sb_qb
  have A837 := A829.other W834 ne_mb_qb
  have E838 := E830.wr W834
  replace A835 : La Z h833 qb .int ([(.int m0), (.int m1), (.int m2), (.int (0 : Int32))]) := A835
  refine go_dup C X832 617 rfl at_616 rfl ?_
  refine go_iconst C X832 618 rfl at_617 (z := 3) rfl ?_
  refine go_iload C X832 620 rfl at_618 rfl ?_
  refine go_iastore C X832 A835 (by decide) (by show _ < (4 : Int); decide) ga_qb (pc' := 621) rfl at_620 (fun T839 h841 W842 A843 X840 => ?_)
  have A844 := A836.other W842 ne_sb_qb
  have A845 := A837.other W842 ne_mb_qb
  have E846 := E838.wr W842
  replace A843 : La Z h841 qb .int ([(.int m0), (.int m1), (.int m2), (.int m3)]) := A843
  refine go_astore C X840 623 rfl at_621 rfl #[jv pk, sc, iv ff, iv sk, iv pk2, jv st, sc, rv sb, iv kk, iv m0, iv m1, iv m2, iv m3, rv mb, jv (s0.toInt64), sc, jv (s1.toInt64), sc, jv (s2.toInt64), sc, jv (s3.toInt64), sc, iv (4 : Int32), iv rr, rv qb, un, un, un, un, un, un, un, un, un, un, un, un, un, un, un] rfl ?_
  refine go_lconst C X840 624 rfl at_623 (z := 0) rfl ?_
  refine go_lstore C X840 626 rfl at_624 #[jv pk, sc, iv ff, iv sk, iv pk2, jv st, sc, rv sb, iv kk, iv m0, iv m1, iv m2, iv m3, rv mb, jv (s0.toInt64), sc, jv (s1.toInt64), sc, jv (s2.toInt64), sc, jv (s3.toInt64), sc, iv (4 : Int32), iv rr, rv qb, jv (0 : Int64), sc, un, un, un, un, un, un, un, un, un, un, un, un, un] rfl ?_
  refine go_new C X840 (C.w 7 rfl) (C.w 8 rfl) (C.w 9 rfl) (by decide) (by decide) (pc' := 629) rfl at_626 (fun T847 h849 ps ha_ps ga_ps E850 E851 D852 X848 => ?_)
  have ne_sb_ps : sb ≠ ps := Nat.ne_of_lt (Nat.lt_of_lt_of_le A844.lt (Nat.le_of_eq ha_ps.symm))
  have ne_mb_ps : mb ≠ ps := Nat.ne_of_lt (Nat.lt_of_lt_of_le A845.lt (Nat.le_of_eq ha_ps.symm))
  have ne_qb_ps : qb ≠ ps := Nat.ne_of_lt (Nat.lt_of_lt_of_le A843.lt (Nat.le_of_eq ha_ps.symm))
  have A853 := A844.ext E850
  have A854 := A845.ext E850
  have E855 := E846.ext E850
  have A856 := A843.ext E850
  have F857 : Fld Z h849 ps "com/example/covertide/covertide/engine/ParameterSets" "sizes" "[I" .null := D852 (Or.inr (C.w 17 rfl)) (ty := (.array .int)) (by decide)
  have F858 : Fld Z h849 ps "com/example/covertide/covertide/engine/ParameterSets" "members" "[I" .null := D852 (Or.inr (C.w 28 rfl)) (ty := (.array .int)) (by decide)
  have F859 : Fld Z h849 ps "com/example/covertide/covertide/engine/ParameterSets" "indexOf" "[I" .null := D852 (Or.inr (C.w 30 rfl)) (ty := (.array .int)) (by decide)
  have F860 : Fld Z h849 ps "com/example/covertide/covertide/engine/ParameterSets" "size" "I" (.int (0 : Int32)) := D852 (Or.inr (C.w 36 rfl)) (ty := .int) (by decide)
  have F861 : Fld Z h849 ps "com/example/covertide/covertide/engine/ParameterSets" "start" "J" (.long (0 : Int64)) := D852 (Or.inr (C.w 38 rfl)) (ty := .long) (by decide)
  have F862 : Fld Z h849 ps "com/example/covertide/covertide/engine/ParameterSets" "suffixSums" "[[J" .null := D852 (Or.inr (C.w 50 rfl)) (ty := (.array (.array .long))) (by decide)
  have F863 : Fld Z h849 ps "com/example/covertide/covertide/engine/ParameterSets" "combinations" "J" (.long (0 : Int64)) := D852 (Or.inr (C.w 52 rfl)) (ty := .long) (by decide)
  refine go_dup C X848 630 rfl at_629 rfl ?_
  refine go_aload C X848 632 rfl at_630 rfl rfl ?_
  refine go_aload C X848 634 rfl at_632 rfl rfl ?_
  refine go_iload C X848 636 rfl at_634 rfl ?_
  refine go_lload C X848 638 rfl at_636 rfl ?_
  have hsz_638 := X848.sz
  have lt_sb_638 := A853.lt
  have lt_mb_638 := A854.lt
  have lt_qb_638 := A856.lt
  have lt_ps_638 := E851.lt
  refine go_special C X848 (C.w 10 rfl) (C.w 11 rfl) (C.w 9 rfl) (C.w 12 rfl) rfl (own_init_4 l Z a0 C.ws ps sb mb st sz m0 m1 m2 m3 s0 s1 s2 s3 h849 n0 X848.old E851 F857 F858 F859 F860 F861 F862 F863 A853 A854 E855 ga_ps (Ne.symm ne_sb_ps) (Ne.symm ne_mb_ps) hl b0 z0 b1 z1 b2 z2 b3 z3) (argsL := [(.ref sb), (.ref mb), (.int (4 : Int32)), (.long st)]) (rest := [(.ref ps)]) (lenOf pd_4 rfl) rfl (by decide) (by decide) (Nat.le_of_ble_eq_true rfl) (by decide) (by decide) rfl rfl (pc' := 641) rfl at_638 ?_
  rintro T864 h866 _ ⟨rfl, xb, ob, r0, r1, r2, r3, r4, K6, E6, Fs, Fx, Ft, Fu, sx6, so6, sz6r0, sz6r1, sz6r2, sz6r3, sz6r4, Ax6, Ao6, A6r0, A6r1, A6r2, A6r3, A6r4⟩ X865
  show Go p e below _ (T864.setTop (mkF m 641 #[jv pk, sc, iv ff, iv sk, iv pk2, jv st, sc, rv sb, iv kk, iv m0, iv m1, iv m2, iv m3, rv mb, jv (s0.toInt64), sc, jv (s1.toInt64), sc, jv (s2.toInt64), sc, jv (s3.toInt64), sc, iv (4 : Int32), iv rr, rv qb, jv (0 : Int64), sc, un, un, un, un, un, un, un, un, un, un, un, un, un] [(.ref ps)]))
  have ne_sb_xb : sb ≠ xb := Nat.ne_of_lt (Nat.lt_of_lt_of_le lt_sb_638 sx6)
  have ne_mb_xb : mb ≠ xb := Nat.ne_of_lt (Nat.lt_of_lt_of_le lt_mb_638 sx6)
  have ne_qb_xb : qb ≠ xb := Nat.ne_of_lt (Nat.lt_of_lt_of_le lt_qb_638 sx6)
  have ne_ps_xb : ps ≠ xb := Nat.ne_of_lt (Nat.lt_of_lt_of_le lt_ps_638 sx6)
  have ga_xb : n0 ≤ xb := Nat.le_trans hsz_638 sx6
  have ne_sb_ob : sb ≠ ob := Nat.ne_of_lt (Nat.lt_of_lt_of_le lt_sb_638 so6)
  have ne_mb_ob : mb ≠ ob := Nat.ne_of_lt (Nat.lt_of_lt_of_le lt_mb_638 so6)
  have ne_qb_ob : qb ≠ ob := Nat.ne_of_lt (Nat.lt_of_lt_of_le lt_qb_638 so6)
  have ne_ps_ob : ps ≠ ob := Nat.ne_of_lt (Nat.lt_of_lt_of_le lt_ps_638 so6)
  have ga_ob : n0 ≤ ob := Nat.le_trans hsz_638 so6
  have ne_sb_r0 : sb ≠ r0 := Nat.ne_of_lt (Nat.lt_of_lt_of_le lt_sb_638 sz6r0)
  have ne_mb_r0 : mb ≠ r0 := Nat.ne_of_lt (Nat.lt_of_lt_of_le lt_mb_638 sz6r0)
  have ne_qb_r0 : qb ≠ r0 := Nat.ne_of_lt (Nat.lt_of_lt_of_le lt_qb_638 sz6r0)
  have ne_ps_r0 : ps ≠ r0 := Nat.ne_of_lt (Nat.lt_of_lt_of_le lt_ps_638 sz6r0)
  have ga_r0 : n0 ≤ r0 := Nat.le_trans hsz_638 sz6r0
  have ne_sb_r1 : sb ≠ r1 := Nat.ne_of_lt (Nat.lt_of_lt_of_le lt_sb_638 sz6r1)
  have ne_mb_r1 : mb ≠ r1 := Nat.ne_of_lt (Nat.lt_of_lt_of_le lt_mb_638 sz6r1)
  have ne_qb_r1 : qb ≠ r1 := Nat.ne_of_lt (Nat.lt_of_lt_of_le lt_qb_638 sz6r1)
  have ne_ps_r1 : ps ≠ r1 := Nat.ne_of_lt (Nat.lt_of_lt_of_le lt_ps_638 sz6r1)
  have ga_r1 : n0 ≤ r1 := Nat.le_trans hsz_638 sz6r1
  have ne_sb_r2 : sb ≠ r2 := Nat.ne_of_lt (Nat.lt_of_lt_of_le lt_sb_638 sz6r2)
  have ne_mb_r2 : mb ≠ r2 := Nat.ne_of_lt (Nat.lt_of_lt_of_le lt_mb_638 sz6r2)
  have ne_qb_r2 : qb ≠ r2 := Nat.ne_of_lt (Nat.lt_of_lt_of_le lt_qb_638 sz6r2)
  have ne_ps_r2 : ps ≠ r2 := Nat.ne_of_lt (Nat.lt_of_lt_of_le lt_ps_638 sz6r2)
  have ga_r2 : n0 ≤ r2 := Nat.le_trans hsz_638 sz6r2
  have ne_sb_r3 : sb ≠ r3 := Nat.ne_of_lt (Nat.lt_of_lt_of_le lt_sb_638 sz6r3)
  have ne_mb_r3 : mb ≠ r3 := Nat.ne_of_lt (Nat.lt_of_lt_of_le lt_mb_638 sz6r3)
  have ne_qb_r3 : qb ≠ r3 := Nat.ne_of_lt (Nat.lt_of_lt_of_le lt_qb_638 sz6r3)
  have ne_ps_r3 : ps ≠ r3 := Nat.ne_of_lt (Nat.lt_of_lt_of_le lt_ps_638 sz6r3)
  have ga_r3 : n0 ≤ r3 := Nat.le_trans hsz_638 sz6r3
  have ne_sb_r4 : sb ≠ r4 := Nat.ne_of_lt (Nat.lt_of_lt_of_le lt_sb_638 sz6r4)
  have ne_mb_r4 : mb ≠ r4 := Nat.ne_of_lt (Nat.lt_of_lt_of_le lt_mb_638 sz6r4)
  have ne_qb_r4 : qb ≠ r4 := Nat.ne_of_lt (Nat.lt_of_lt_of_le lt_qb_638 sz6r4)
  have ne_ps_r4 : ps ≠ r4 := Nat.ne_of_lt (Nat.lt_of_lt_of_le lt_ps_638 sz6r4)
  have ga_r4 : n0 ≤ r4 := Nat.le_trans hsz_638 sz6r4
  have A867 := A853.keep K6 (ninS ne_sb_ps nin0)
  have A868 := A854.keep K6 (ninS ne_mb_ps nin0)
  have E869 := E855.keep K6
  have A870 := A856.keep K6 (ninS ne_qb_ps nin0)
  have E871 := E851.keep K6
  have xl : ((put32 (put32 (put32 (put32 [-1, -1, -1, -1, -1] m0 0) m1 1) m2 2) m3 3)).length = 5 := by simp [put32_len]
  have x0 : at32 (put32 (put32 (put32 (put32 [-1, -1, -1, -1, -1] m0 0) m1 1) m2 2) m3 3) m0 = 0 := by rw [own_put_miss b3.1 b0.1 (fun q => d03 q.symm)]; rw [own_put_miss b2.1 b0.1 (fun q => d02 q.symm)]; rw [own_put_miss b1.1 b0.1 (fun q => d01 q.symm)]; exact own_put_hit b0.1 (by simpa [put32_len] using b0.2)
  have x1 : at32 (put32 (put32 (put32 (put32 [-1, -1, -1, -1, -1] m0 0) m1 1) m2 2) m3 3) m1 = 1 := by rw [own_put_miss b3.1 b1.1 (fun q => d13 q.symm)]; rw [own_put_miss b2.1 b1.1 (fun q => d12 q.symm)]; exact own_put_hit b1.1 (by simpa [put32_len] using b1.2)
  have x2 : at32 (put32 (put32 (put32 (put32 [-1, -1, -1, -1, -1] m0 0) m1 1) m2 2) m3 3) m2 = 2 := by rw [own_put_miss b3.1 b2.1 (fun q => d23 q.symm)]; exact own_put_hit b2.1 (by simpa [put32_len] using b2.2)
  have x3 : at32 (put32 (put32 (put32 (put32 [-1, -1, -1, -1, -1] m0 0) m1 1) m2 2) m3 3) m3 = 3 := by exact own_put_hit b3.1 (by simpa [put32_len] using b3.2)
  generalize (put32 (put32 (put32 (put32 [-1, -1, -1, -1, -1] m0 0) m1 1) m2 2) m3 3) = ix at *
  refine go_astore C X865 643 rfl at_641 rfl #[jv pk, sc, iv ff, iv sk, iv pk2, jv st, sc, rv sb, iv kk, iv m0, iv m1, iv m2, iv m3, rv mb, jv (s0.toInt64), sc, jv (s1.toInt64), sc, jv (s2.toInt64), sc, jv (s3.toInt64), sc, iv (4 : Int32), iv rr, rv qb, jv (0 : Int64), sc, rv ps, un, un, un, un, un, un, un, un, un, un, un, un] rfl ?_
  refine go_aload C X865 645 rfl at_643 rfl rfl ?_
  refine go_aload C X865 647 rfl at_645 rfl rfl ?_
  refine go_virtual C X865 E6 (C.w 53 rfl) (C.w 54 rfl) (notFace_of_selects (args := #[]) (mvT C.hZ (C.w 56 rfl))) (C.w 56 rfl) (C.w 55 rfl) (C.w 9 rfl) (C.w 57 rfl) (own_bit_4_0 l Z a0 C.ws ps qb sb xb ob r0 r1 r2 r3 r4 sz ix m0 m1 m2 m3 s0 s1 s2 s3 st _ _ _ _ _ _ _ _ _ _ _ _ _ _ _ _ _ _ _ _ _ _ _ _ _ h866 n0 X865.old Fs Fx Ft Fu A867 Ax6 Ao6 A6r0 A6r1 A6r2 A6r3 A6r4 A870 hl xl b0 z0 b1 z1 b2 z2 b3 z3 x0 x1 x2 x3) (argsL := [(.ref qb)]) (rest := []) (lenOf pd_5 rfl) rfl (by decide) (by decide) (Nat.le_of_ble_eq_true rfl) (by decide) (by decide) rfl rfl (pc' := 650) rfl at_647 ?_
  rintro T872 _ _ ⟨rfl, rfl⟩ X873
  show Go p e below _ (T872.setTop (mkF m 650 #[jv pk, sc, iv ff, iv sk, iv pk2, jv st, sc, rv sb, iv kk, iv m0, iv m1, iv m2, iv m3, rv mb, jv (s0.toInt64), sc, jv (s1.toInt64), sc, jv (s2.toInt64), sc, jv (s3.toInt64), sc, iv (4 : Int32), iv rr, rv qb, jv (0 : Int64), sc, rv ps, un, un, un, un, un, un, un, un, un, un, un, un] [(.long (st + (((((0 : Int64) + ((1 : Int64) * ((((((0 : Int64) + (s3.toInt64 * (0 : Int64))) + (s2.toInt64 * ((0 : Int64) + (s3.toInt64 * (0 : Int64))))) + (s1.toInt64 * (((0 : Int64) + (s3.toInt64 * (0 : Int64))) + (s2.toInt64 * ((0 : Int64) + (s3.toInt64 * (0 : Int64))))))) + (s0.toInt64 * ((((0 : Int64) + (s3.toInt64 * (0 : Int64))) + (s2.toInt64 * ((0 : Int64) + (s3.toInt64 * (0 : Int64))))) + (s1.toInt64 * (((0 : Int64) + (s3.toInt64 * (0 : Int64))) + (s2.toInt64 * ((0 : Int64) + (s3.toInt64 * (1 : Int64))))))))) - (((((0 : Int64) + (s3.toInt64 * (0 : Int64))) + (s2.toInt64 * ((0 : Int64) + (s3.toInt64 * (0 : Int64))))) + (s1.toInt64 * (((0 : Int64) + (s3.toInt64 * (0 : Int64))) + (s2.toInt64 * ((0 : Int64) + (s3.toInt64 * (0 : Int64))))))) + (s0.toInt64 * ((((0 : Int64) + (s3.toInt64 * (0 : Int64))) + (s2.toInt64 * ((0 : Int64) + (s3.toInt64 * (0 : Int64))))) + (s1.toInt64 * (((0 : Int64) + (s3.toInt64 * (0 : Int64))) + (s2.toInt64 * ((0 : Int64) + (s3.toInt64 * (1 : Int64)))))))))))) + (((1 : Int64) * s0.toInt64) * (((((0 : Int64) + (s3.toInt64 * (0 : Int64))) + (s2.toInt64 * ((0 : Int64) + (s3.toInt64 * (0 : Int64))))) + (s1.toInt64 * (((0 : Int64) + (s3.toInt64 * (0 : Int64))) + (s2.toInt64 * ((0 : Int64) + (s3.toInt64 * (1 : Int64))))))) - ((((0 : Int64) + (s3.toInt64 * (0 : Int64))) + (s2.toInt64 * ((0 : Int64) + (s3.toInt64 * (0 : Int64))))) + (s1.toInt64 * (((0 : Int64) + (s3.toInt64 * (0 : Int64))) + (s2.toInt64 * ((0 : Int64) + (s3.toInt64 * (1 : Int64)))))))))) + ((((1 : Int64) * s0.toInt64) * s1.toInt64) * ((((0 : Int64) + (s3.toInt64 * (0 : Int64))) + (s2.toInt64 * ((0 : Int64) + (s3.toInt64 * (1 : Int64))))) - (((0 : Int64) + (s3.toInt64 * (0 : Int64))) + (s2.toInt64 * ((0 : Int64) + (s3.toInt64 * (1 : Int64)))))))) + (((((1 : Int64) * s0.toInt64) * s1.toInt64) * s2.toInt64) * (((0 : Int64) + (s3.toInt64 * (1 : Int64))) - ((0 : Int64) + (s3.toInt64 * (1 : Int64))))))))]))
  refine go_lload C X873 652 rfl at_650 rfl ?_
  refine go_lload C X873 654 rfl at_652 rfl ?_
  refine go_ladd C X873 655 rfl at_654 ?_
  refine go_lif_ne C X873 (pc1 := 656) rfl at_655 at_656 (pc' := 659) (pc2 := 663) rfl (by decide) (by decide) (fun c656 => False.elim (c656 (own_id_4_0 s0 s1 s2 s3 st))) (fun _ => ?_)
  refine go_iconst C X873 660 rfl at_659 (z := 1) rfl ?_
  refine go_goto C X873 at_660 (pc' := 664) (by decide) (by decide) ?_
  exact go_retN C X873 (by simp) (z' := 1) rfl at_664 rfl (by decide) (by decide)
set_option maxRecDepth 65536 in
set_option maxHeartbeats 40000000 in
theorem own_law (l : Launch) (Z : State) (a0 : Array Value) (hw : ∀ d ∈ tables_1, d.before a0 Z = true) (pk : Int64) (ff : Int32) (sk : Int32) (pk2 : Int32) (st : Int64)  (h : Heap) (n0 : Nat) (hn0 : Old Z n0 h)  :
    Con l Z x code maxLocals ret room_1 #[(.long pk), (.int ff), (.int sk), (.int pk2), (.long st)] h n0 (fun v h' => v = some (.int 1)) := by
  refine con_of hw (plainFor_of_name pn_com_example_covertide_covertide_engine_ParameterSetsBitOfPinLaw) hn0 ?_
  intro p e s m below meth c T0 C X0
  refine Go.cast (congrArg T0.setTop (ef_own_law m pk ff sk pk2 st)) ?_
  refine go_iconst C X0 1 rfl at_0 (z := 5) rfl ?_
  refine go_newarr C X0 (C.w 0 rfl) (cap := 5) (by decide) (by decide) (by decide) (by decide) (by decide) (pc' := 3) rfl at_1 (fun T1 h3 sb ha_sb ga_sb E4 A5  X2 => ?_)
  replace A5 : La Z h3 sb .int ([(.int (0 : Int32)), (.int (0 : Int32)), (.int (0 : Int32)), (.int (0 : Int32)), (.int (0 : Int32))]) := A5
  refine go_astore C X2 5 rfl at_3 rfl #[jv pk, sc, iv ff, iv sk, iv pk2, jv st, sc, rv sb, un, un, un, un, un, un, un, un, un, un, un, un, un, un, un, un, un, un, un, un, un, un, un, un, un, un, un, un, un, un, un, un] rfl ?_
  refine go_aload C X2 7 rfl at_5 rfl rfl ?_
  refine go_iconst C X2 8 rfl at_7 (z := 0) rfl ?_
  refine go_lloadN C X2 9 rfl at_8 rfl ?_
  refine go_iconst C X2 10 rfl at_9 (z := 0) rfl ?_
  refine go_callS C X2 (C.w 1 rfl) (C.w 2 rfl) (C.w 3 rfl) (C.w 4 rfl) (own_sizeAt l Z a0 C.ws pk (0 : Int32) h3 n0 X2.old ) (argsL := [(.long pk), (.int (0 : Int32))]) (rest := [(.int (0 : Int32)), (.ref sb)]) (lenOf pd_3 rfl) rfl (by decide) (by decide) (Nat.le_of_ble_eq_true rfl) (by decide) (by decide) rfl rfl (pc' := 13) rfl at_10 ?_
  rintro T6 _ _ ⟨rfl, rfl⟩ X7
  show Go p e below _ (T6.setTop (mkF m 13 #[jv pk, sc, iv ff, iv sk, iv pk2, jv st, sc, rv sb, un, un, un, un, un, un, un, un, un, un, un, un, un, un, un, un, un, un, un, un, un, un, un, un, un, un, un, un, un, un, un, un] [(.int (own_sz pk (0 : Int32))), (.int (0 : Int32)), (.ref sb)]))
  refine go_iastore C X7 A5 (by decide) (by show _ < (5 : Int); decide) ga_sb (pc' := 14) rfl at_13 (fun T9 h11 W12 A13 X10 => ?_)
  replace A13 : La Z h11 sb .int ([(.int (own_sz pk (0 : Int32))), (.int (0 : Int32)), (.int (0 : Int32)), (.int (0 : Int32)), (.int (0 : Int32))]) := A13
  refine go_aload C X10 16 rfl at_14 rfl rfl ?_
  refine go_iconst C X10 17 rfl at_16 (z := 1) rfl ?_
  refine go_lloadN C X10 18 rfl at_17 rfl ?_
  refine go_iconst C X10 19 rfl at_18 (z := 1) rfl ?_
  refine go_callS C X10 (C.w 1 rfl) (C.w 2 rfl) (C.w 3 rfl) (C.w 4 rfl) (own_sizeAt l Z a0 C.ws pk (1 : Int32) h11 n0 X10.old ) (argsL := [(.long pk), (.int (1 : Int32))]) (rest := [(.int (1 : Int32)), (.ref sb)]) (lenOf pd_3 rfl) rfl (by decide) (by decide) (Nat.le_of_ble_eq_true rfl) (by decide) (by decide) rfl rfl (pc' := 22) rfl at_19 ?_
  rintro T14 _ _ ⟨rfl, rfl⟩ X15
  show Go p e below _ (T14.setTop (mkF m 22 #[jv pk, sc, iv ff, iv sk, iv pk2, jv st, sc, rv sb, un, un, un, un, un, un, un, un, un, un, un, un, un, un, un, un, un, un, un, un, un, un, un, un, un, un, un, un, un, un, un, un] [(.int (own_sz pk (1 : Int32))), (.int (1 : Int32)), (.ref sb)]))
  refine go_iastore C X15 A13 (by decide) (by show _ < (5 : Int); decide) ga_sb (pc' := 23) rfl at_22 (fun T17 h19 W20 A21 X18 => ?_)
  replace A21 : La Z h19 sb .int ([(.int (own_sz pk (0 : Int32))), (.int (own_sz pk (1 : Int32))), (.int (0 : Int32)), (.int (0 : Int32)), (.int (0 : Int32))]) := A21
  refine go_aload C X18 25 rfl at_23 rfl rfl ?_
  refine go_iconst C X18 26 rfl at_25 (z := 2) rfl ?_
  refine go_lloadN C X18 27 rfl at_26 rfl ?_
  refine go_iconst C X18 28 rfl at_27 (z := 2) rfl ?_
  refine go_callS C X18 (C.w 1 rfl) (C.w 2 rfl) (C.w 3 rfl) (C.w 4 rfl) (own_sizeAt l Z a0 C.ws pk (2 : Int32) h19 n0 X18.old ) (argsL := [(.long pk), (.int (2 : Int32))]) (rest := [(.int (2 : Int32)), (.ref sb)]) (lenOf pd_3 rfl) rfl (by decide) (by decide) (Nat.le_of_ble_eq_true rfl) (by decide) (by decide) rfl rfl (pc' := 31) rfl at_28 ?_
  rintro T22 _ _ ⟨rfl, rfl⟩ X23
  show Go p e below _ (T22.setTop (mkF m 31 #[jv pk, sc, iv ff, iv sk, iv pk2, jv st, sc, rv sb, un, un, un, un, un, un, un, un, un, un, un, un, un, un, un, un, un, un, un, un, un, un, un, un, un, un, un, un, un, un, un, un] [(.int (own_sz pk (2 : Int32))), (.int (2 : Int32)), (.ref sb)]))
  refine go_iastore C X23 A21 (by decide) (by show _ < (5 : Int); decide) ga_sb (pc' := 32) rfl at_31 (fun T25 h27 W28 A29 X26 => ?_)
  replace A29 : La Z h27 sb .int ([(.int (own_sz pk (0 : Int32))), (.int (own_sz pk (1 : Int32))), (.int (own_sz pk (2 : Int32))), (.int (0 : Int32)), (.int (0 : Int32))]) := A29
  refine go_aload C X26 34 rfl at_32 rfl rfl ?_
  refine go_iconst C X26 35 rfl at_34 (z := 3) rfl ?_
  refine go_lloadN C X26 36 rfl at_35 rfl ?_
  refine go_iconst C X26 37 rfl at_36 (z := 3) rfl ?_
  refine go_callS C X26 (C.w 1 rfl) (C.w 2 rfl) (C.w 3 rfl) (C.w 4 rfl) (own_sizeAt l Z a0 C.ws pk (3 : Int32) h27 n0 X26.old ) (argsL := [(.long pk), (.int (3 : Int32))]) (rest := [(.int (3 : Int32)), (.ref sb)]) (lenOf pd_3 rfl) rfl (by decide) (by decide) (Nat.le_of_ble_eq_true rfl) (by decide) (by decide) rfl rfl (pc' := 40) rfl at_37 ?_
  rintro T30 _ _ ⟨rfl, rfl⟩ X31
  show Go p e below _ (T30.setTop (mkF m 40 #[jv pk, sc, iv ff, iv sk, iv pk2, jv st, sc, rv sb, un, un, un, un, un, un, un, un, un, un, un, un, un, un, un, un, un, un, un, un, un, un, un, un, un, un, un, un, un, un, un, un] [(.int (own_sz pk (3 : Int32))), (.int (3 : Int32)), (.ref sb)]))
  refine go_iastore C X31 A29 (by decide) (by show _ < (5 : Int); decide) ga_sb (pc' := 41) rfl at_40 (fun T33 h35 W36 A37 X34 => ?_)
  replace A37 : La Z h35 sb .int ([(.int (own_sz pk (0 : Int32))), (.int (own_sz pk (1 : Int32))), (.int (own_sz pk (2 : Int32))), (.int (own_sz pk (3 : Int32))), (.int (0 : Int32))]) := A37
  refine go_aload C X34 43 rfl at_41 rfl rfl ?_
  refine go_iconst C X34 44 rfl at_43 (z := 4) rfl ?_
  refine go_iloadN C X34 45 rfl at_44 rfl ?_
  refine go_sipush C X34 48 rfl at_45 (z := 32767) rfl ?_
  refine go_iand C X34 49 rfl at_48 ?_
  refine go_iconst C X34 50 rfl at_49 (z := 1) rfl ?_
  refine go_iadd C X34 51 rfl at_50 ?_
  refine go_iastore C X34 A37 (by decide) (by show _ < (5 : Int); decide) ga_sb (pc' := 52) rfl at_51 (fun T38 h40 W41 A42 X39 => ?_)
  replace A42 : La Z h40 sb .int ([(.int (own_sz pk (0 : Int32))), (.int (own_sz pk (1 : Int32))), (.int (own_sz pk (2 : Int32))), (.int (own_sz pk (3 : Int32))), (.int ((ff &&& (32767 : Int32)) + (1 : Int32)))]) := A42
  generalize (own_sz pk (0 : Int32)) = u0 at *
  generalize (own_sz pk (1 : Int32)) = u1 at *
  generalize (own_sz pk (2 : Int32)) = u2 at *
  generalize (own_sz pk (3 : Int32)) = u3 at *
  generalize ((ff &&& (32767 : Int32)) + (1 : Int32)) = u4 at *
  obtain ⟨sz, esz⟩ : ∃ z : List Int32, z = [u0, u1, u2, u3, u4] := ⟨_, rfl⟩
  have hl : sz.length = 5 := by rw [esz]; rfl
  replace A42 : La Z h40 sb .int (ia sz) := by rw [esz]; exact A42
  clear esz
  refine go_iloadN C X39 53 rfl at_52 rfl ?_
  refine go_ldcInt C X39 (C.w 6 rfl) (pc' := 55) rfl at_53 ?_
  refine go_iand C X39 56 rfl at_55 ?_
  refine go_iconst C X39 57 rfl at_56 (z := 5) rfl ?_
  refine go_irem C X39 58 rfl at_57 (by decide) ?_
  refine go_istore C X39 60 rfl at_58 #[jv pk, sc, iv ff, iv sk, iv pk2, jv st, sc, rv sb, iv ((sk &&& (2147483647 : Int32)) % (5 : Int32)), un, un, un, un, un, un, un, un, un, un, un, un, un, un, un, un, un, un, un, un, un, un, un, un, un, un, un, un, un, un, un] rfl ?_
  have kc : 0 ≤ ((sk &&& 2147483647) % 5).toInt ∧ ((sk &&& 2147483647) % 5).toInt < 5 := by have := i_rem (b := 5) (y := 5) (c_mask sk 2147483647 31 (by decide) (by decide)) rfl (by omega); omega
  generalize ekk : ((sk &&& (2147483647 : Int32)) % (5 : Int32)) = kk
  rw [ekk] at kc
  clear ekk
  have J43 : ∀ (m0 : Int32) (m1 : Int32) (m2 : Int32) (m3 : Int32) (_ : (0 ≤ m0.toInt ∧ m0.toInt < (5 : Nat)) ∧ (0 ≤ m1.toInt ∧ m1.toInt < (5 : Nat)) ∧ (0 ≤ m2.toInt ∧ m2.toInt < (5 : Nat)) ∧ (0 ≤ m3.toInt ∧ m3.toInt < (5 : Nat)) ∧ ¬ m0.toInt = m1.toInt ∧ ¬ m0.toInt = m2.toInt ∧ ¬ m0.toInt = m3.toInt ∧ ¬ m1.toInt = m2.toInt ∧ ¬ m1.toInt = m3.toInt ∧ ¬ m2.toInt = m3.toInt), Go p e below (FinQ s room_1.cells room_1.slots n0 (fun v h' => v = some (.int 1))) (T38.setTop (mkF m 111 #[jv pk, sc, iv ff, iv sk, iv pk2, jv st, sc, rv sb, iv kk, iv m0, iv m1, iv m2, iv m3, un, un, un, un, un, un, un, un, un, un, un, un, un, un, un, un, un, un, un, un, un, un, un, un, un, un, un] [])) := by
    intro m0 m1 m2 m3 hM
    obtain ⟨b0, b1, b2, b3, d01, d02, d03, d12, d13, d23⟩ := hM
    refine go_iconst C X39 112 rfl at_111 (z := 4) rfl ?_
    refine go_newarrE C X39 (C.w 0 rfl) (cap := 4) (ad := "[I") (by decide) (by decide) (by decide) (by decide) (by decide) (by decide) (pc' := 114) rfl at_112 (fun T44 h46 mb ha_mb ga_mb E47 A48 E49 X45 => ?_)
    have ne_sb_mb : sb ≠ mb := Nat.ne_of_lt (Nat.lt_of_lt_of_le A42.lt (Nat.le_of_eq ha_mb.symm))
    have A50 := A42.ext E47
    replace A48 : La Z h46 mb .int ([(.int (0 : Int32)), (.int (0 : Int32)), (.int (0 : Int32)), (.int (0 : Int32))]) := A48
    refine go_dup C X45 115 rfl at_114 rfl ?_
    refine go_iconst C X45 116 rfl at_115 (z := 0) rfl ?_
    refine go_iload C X45 118 rfl at_116 rfl ?_
    refine go_iastore C X45 A48 (by decide) (by show _ < (4 : Int); decide) ga_mb (pc' := 119) rfl at_118 (fun T51 h53 W54 A55 X52 => ?_)
    have A56 := A50.other W54 ne_sb_mb
    have E57 := E49.wr W54
    replace A55 : La Z h53 mb .int ([(.int m0), (.int (0 : Int32)), (.int (0 : Int32)), (.int (0 : Int32))]) := A55
    refine go_dup C X52 120 rfl at_119 rfl ?_
    refine go_iconst C X52 121 rfl at_120 (z := 1) rfl ?_
    refine go_iload C X52 123 rfl at_121 rfl ?_
    refine go_iastore C X52 A55 (by decide) (by show _ < (4 : Int); decide) ga_mb (pc' := 124) rfl at_123 (fun T58 h60 W61 A62 X59 => ?_)
    have A63 := A56.other W61 ne_sb_mb
    have E64 := E57.wr W61
    replace A62 : La Z h60 mb .int ([(.int m0), (.int m1), (.int (0 : Int32)), (.int (0 : Int32))]) := A62
    refine go_dup C X59 125 rfl at_124 rfl ?_
    refine go_iconst C X59 126 rfl at_125 (z := 2) rfl ?_
    refine go_iload C X59 128 rfl at_126 rfl ?_
    refine go_iastore C X59 A62 (by decide) (by show _ < (4 : Int); decide) ga_mb (pc' := 129) rfl at_128 (fun T65 h67 W68 A69 X66 => ?_)
    have A70 := A63.other W68 ne_sb_mb
    have E71 := E64.wr W68
    replace A69 : La Z h67 mb .int ([(.int m0), (.int m1), (.int m2), (.int (0 : Int32))]) := A69
    refine go_dup C X66 130 rfl at_129 rfl ?_
    refine go_iconst C X66 131 rfl at_130 (z := 3) rfl ?_
    refine go_iload C X66 133 rfl at_131 rfl ?_
    refine go_iastore C X66 A69 (by decide) (by show _ < (4 : Int); decide) ga_mb (pc' := 134) rfl at_133 (fun T72 h74 W75 A76 X73 => ?_)
    have A77 := A70.other W75 ne_sb_mb
    have E78 := E71.wr W75
    replace A76 : La Z h74 mb .int ([(.int m0), (.int m1), (.int m2), (.int m3)]) := A76
    refine go_astore C X73 136 rfl at_134 rfl #[jv pk, sc, iv ff, iv sk, iv pk2, jv st, sc, rv sb, iv kk, iv m0, iv m1, iv m2, iv m3, rv mb, un, un, un, un, un, un, un, un, un, un, un, un, un, un, un, un, un, un, un, un, un, un, un, un, un, un] rfl ?_
    refine go_aload C X73 138 rfl at_136 rfl rfl ?_
    refine go_iload C X73 140 rfl at_138 rfl ?_
    refine go_iaload C X73 A77 b0.1 (v := (.int (at32 sz m0))) (ia_at b0.1 (by rw [hl]; exact b0.2)) (pc' := 141) rfl at_140 ?_
    obtain ⟨s0, z0⟩ : ∃ z, at32 sz m0 = z := ⟨_, rfl⟩
    rw [z0]
    refine go_i2l C X73 142 rfl at_141 ?_
    refine go_lstore C X73 144 rfl at_142 #[jv pk, sc, iv ff, iv sk, iv pk2, jv st, sc, rv sb, iv kk, iv m0, iv m1, iv m2, iv m3, rv mb, jv (s0.toInt64), sc, un, un, un, un, un, un, un, un, un, un, un, un, un, un, un, un, un, un, un, un, un, un, un, un] rfl ?_
    refine go_aload C X73 146 rfl at_144 rfl rfl ?_
    refine go_iload C X73 148 rfl at_146 rfl ?_
    refine go_iaload C X73 A77 b1.1 (v := (.int (at32 sz m1))) (ia_at b1.1 (by rw [hl]; exact b1.2)) (pc' := 149) rfl at_148 ?_
    obtain ⟨s1, z1⟩ : ∃ z, at32 sz m1 = z := ⟨_, rfl⟩
    rw [z1]
    refine go_i2l C X73 150 rfl at_149 ?_
    refine go_lstore C X73 152 rfl at_150 #[jv pk, sc, iv ff, iv sk, iv pk2, jv st, sc, rv sb, iv kk, iv m0, iv m1, iv m2, iv m3, rv mb, jv (s0.toInt64), sc, jv (s1.toInt64), sc, un, un, un, un, un, un, un, un, un, un, un, un, un, un, un, un, un, un, un, un, un, un] rfl ?_
    refine go_aload C X73 154 rfl at_152 rfl rfl ?_
    refine go_iload C X73 156 rfl at_154 rfl ?_
    refine go_iaload C X73 A77 b2.1 (v := (.int (at32 sz m2))) (ia_at b2.1 (by rw [hl]; exact b2.2)) (pc' := 157) rfl at_156 ?_
    obtain ⟨s2, z2⟩ : ∃ z, at32 sz m2 = z := ⟨_, rfl⟩
    rw [z2]
    refine go_i2l C X73 158 rfl at_157 ?_
    refine go_lstore C X73 160 rfl at_158 #[jv pk, sc, iv ff, iv sk, iv pk2, jv st, sc, rv sb, iv kk, iv m0, iv m1, iv m2, iv m3, rv mb, jv (s0.toInt64), sc, jv (s1.toInt64), sc, jv (s2.toInt64), sc, un, un, un, un, un, un, un, un, un, un, un, un, un, un, un, un, un, un, un, un] rfl ?_
    refine go_aload C X73 162 rfl at_160 rfl rfl ?_
    refine go_iload C X73 164 rfl at_162 rfl ?_
    refine go_iaload C X73 A77 b3.1 (v := (.int (at32 sz m3))) (ia_at b3.1 (by rw [hl]; exact b3.2)) (pc' := 165) rfl at_164 ?_
    obtain ⟨s3, z3⟩ : ∃ z, at32 sz m3 = z := ⟨_, rfl⟩
    rw [z3]
    refine go_i2l C X73 166 rfl at_165 ?_
    refine go_lstore C X73 168 rfl at_166 #[jv pk, sc, iv ff, iv sk, iv pk2, jv st, sc, rv sb, iv kk, iv m0, iv m1, iv m2, iv m3, rv mb, jv (s0.toInt64), sc, jv (s1.toInt64), sc, jv (s2.toInt64), sc, jv (s3.toInt64), sc, un, un, un, un, un, un, un, un, un, un, un, un, un, un, un, un, un, un] rfl ?_
    refine go_iconst C X73 169 rfl at_168 (z := 1) rfl ?_
    refine go_iload C X73 171 rfl at_169 rfl ?_
    refine go_iconst C X73 172 rfl at_171 (z := 3) rfl ?_
    refine go_iand C X73 173 rfl at_172 ?_
    refine go_iadd C X73 174 rfl at_173 ?_
    refine go_istore C X73 176 rfl at_174 #[jv pk, sc, iv ff, iv sk, iv pk2, jv st, sc, rv sb, iv kk, iv m0, iv m1, iv m2, iv m3, rv mb, jv (s0.toInt64), sc, jv (s1.toInt64), sc, jv (s2.toInt64), sc, jv (s3.toInt64), sc, iv ((1 : Int32) + (pk2 &&& (3 : Int32))), un, un, un, un, un, un, un, un, un, un, un, un, un, un, un, un, un] rfl ?_
    refine go_iload C X73 178 rfl at_176 rfl ?_
    refine go_iconst C X73 179 rfl at_178 (z := 2) rfl ?_
    refine go_iushr C X73 180 rfl at_179 ?_
    refine go_ldcInt C X73 (C.w 6 rfl) (pc' := 182) rfl at_180 ?_
    refine go_iand C X73 183 rfl at_182 ?_
    refine go_istore C X73 185 rfl at_183 #[jv pk, sc, iv ff, iv sk, iv pk2, jv st, sc, rv sb, iv kk, iv m0, iv m1, iv m2, iv m3, rv mb, jv (s0.toInt64), sc, jv (s1.toInt64), sc, jv (s2.toInt64), sc, jv (s3.toInt64), sc, iv ((1 : Int32) + (pk2 &&& (3 : Int32))), iv (((pk2.toUInt32 >>> ((2 : Int32) &&& 31).toUInt32).toInt32) &&& (2147483647 : Int32)), un, un, un, un, un, un, un, un, un, un, un, un, un, un, un, un] rfl ?_
    generalize err : (((pk2.toUInt32 >>> ((2 : Int32) &&& 31).toUInt32).toInt32) &&& (2147483647 : Int32)) = rr
    have hr0 : 0 ≤ rr.toInt := by have := c_mask ((pk2.toUInt32 >>> ((2 : Int32) &&& 31).toUInt32).toInt32) 2147483647 31 (by decide) (by decide); rw [err] at this; omega
    clear err
    have kc : 1 ≤ ((1 : Int32) + (pk2 &&& 3)).toInt ∧ ((1 : Int32) + (pk2 &&& 3)).toInt < 5 := by have := i_add (a := 1) (x := 1) rfl (c_mask pk2 3 2 (by decide) (by decide)) (by omega) (by omega); omega
    generalize ekv : ((1 : Int32) + (pk2 &&& (3 : Int32))) = kv
    rw [ekv] at kc
    clear ekv
    have kd : kv = 1 ∨ kv = 2 ∨ kv = 3 ∨ kv = 4 := by
      rcases (by omega : kv.toInt = 1 ∨ kv.toInt = 2 ∨ kv.toInt = 3 ∨ kv.toInt = 4) with q | q | q | q <;> (have := i_eq (b := Int32.ofInt kv.toInt) (by rw [Int32.ofInt_toInt]); rw [q] at this; subst this; decide)
    clear kc
    rcases kd with rfl | rfl | rfl | rfl
    · refine go_iload C X73 187 rfl at_185 rfl ?_
      refine go_iconst C X73 188 rfl at_187 (z := 1) rfl ?_
      refine go_icmp_ne C X73 at_188 (pc' := 191) (pc2 := 252) rfl (by decide) (by decide) (fun (c188 : ¬ (1 : Int32) = (1 : Int32)) => False.elim (by first | omega | exact absurd c188 (by decide))) (fun (c188 : (1 : Int32) = (1 : Int32)) => ?_)
      refine go_iload C X73 193 rfl at_191 rfl ?_
      refine go_iconst C X73 194 rfl at_193 (z := 4) rfl ?_
      refine go_irem C X73 195 rfl at_194 (by decide) ?_
      refine go_istore C X73 197 rfl at_195 #[jv pk, sc, iv ff, iv sk, iv pk2, jv st, sc, rv sb, iv kk, iv m0, iv m1, iv m2, iv m3, rv mb, jv (s0.toInt64), sc, jv (s1.toInt64), sc, jv (s2.toInt64), sc, jv (s3.toInt64), sc, iv (1 : Int32), iv rr, un, un, un, iv (rr % (4 : Int32)), un, un, un, un, un, un, un, un, un, un, un, un] rfl ?_
      have kc : 0 ≤ (rr % 4).toInt ∧ (rr % 4).toInt < 4 := by have := i_rem (a := rr) (b := 4) (y := 4) rfl rfl hr0; omega
      generalize erv : (rr % (4 : Int32)) = rv
      rw [erv] at kc
      clear erv
      have kd : rv = 0 ∨ rv = 1 ∨ rv = 2 ∨ rv = 3 := by
        rcases (by omega : rv.toInt = 0 ∨ rv.toInt = 1 ∨ rv.toInt = 2 ∨ rv.toInt = 3) with q | q | q | q <;> (have := i_eq (b := Int32.ofInt rv.toInt) (by rw [Int32.ofInt_toInt]); rw [q] at this; subst this; decide)
      clear kc
      rcases kd with rfl | rfl | rfl | rfl
      · exact own_arm_1_0 C X73 A77 A76 E78 ne_sb_mb ga_sb ga_mb hl b0 b1 b2 b3 z0 z1 z2 z3 d01 d02 d03 d12 d13 d23
      · exact own_arm_1_1 C X73 A77 A76 E78 ne_sb_mb ga_sb ga_mb hl b0 b1 b2 b3 z0 z1 z2 z3 d01 d02 d03 d12 d13 d23
      · exact own_arm_1_2 C X73 A77 A76 E78 ne_sb_mb ga_sb ga_mb hl b0 b1 b2 b3 z0 z1 z2 z3 d01 d02 d03 d12 d13 d23
      · exact own_arm_1_3 C X73 A77 A76 E78 ne_sb_mb ga_sb ga_mb hl b0 b1 b2 b3 z0 z1 z2 z3 d01 d02 d03 d12 d13 d23
    · refine go_iload C X73 187 rfl at_185 rfl ?_
      refine go_iconst C X73 188 rfl at_187 (z := 1) rfl ?_
      refine go_icmp_ne C X73 at_188 (pc' := 191) (pc2 := 252) rfl (by decide) (by decide) (fun (c188 : ¬ (2 : Int32) = (1 : Int32)) => ?_) (fun (c188 : (2 : Int32) = (1 : Int32)) => False.elim (by first | omega | exact absurd c188 (by decide)))
      refine go_iload C X73 254 rfl at_252 rfl ?_
      refine go_iconst C X73 255 rfl at_254 (z := 2) rfl ?_
      refine go_icmp_ne C X73 at_255 (pc' := 258) (pc2 := 441) rfl (by decide) (by decide) (fun (c255 : ¬ (2 : Int32) = (2 : Int32)) => False.elim (by first | omega | exact absurd c255 (by decide))) (fun (c255 : (2 : Int32) = (2 : Int32)) => ?_)
      refine go_iload C X73 260 rfl at_258 rfl ?_
      refine go_bipush C X73 262 rfl at_260 (z := 6) rfl ?_
      refine go_irem C X73 263 rfl at_262 (by decide) ?_
      refine go_istore C X73 265 rfl at_263 #[jv pk, sc, iv ff, iv sk, iv pk2, jv st, sc, rv sb, iv kk, iv m0, iv m1, iv m2, iv m3, rv mb, jv (s0.toInt64), sc, jv (s1.toInt64), sc, jv (s2.toInt64), sc, jv (s3.toInt64), sc, iv (2 : Int32), iv rr, un, un, un, iv (rr % (6 : Int32)), un, un, un, un, un, un, un, un, un, un, un, un] rfl ?_
      have kc : 0 ≤ (rr % 6).toInt ∧ (rr % 6).toInt < 6 := by have := i_rem (a := rr) (b := 6) (y := 6) rfl rfl hr0; omega
      generalize erv : (rr % (6 : Int32)) = rv
      rw [erv] at kc
      clear erv
      have kd : rv = 0 ∨ rv = 1 ∨ rv = 2 ∨ rv = 3 ∨ rv = 4 ∨ rv = 5 := by
        rcases (by omega : rv.toInt = 0 ∨ rv.toInt = 1 ∨ rv.toInt = 2 ∨ rv.toInt = 3 ∨ rv.toInt = 4 ∨ rv.toInt = 5) with q | q | q | q | q | q <;> (have := i_eq (b := Int32.ofInt rv.toInt) (by rw [Int32.ofInt_toInt]); rw [q] at this; subst this; decide)
      clear kc
      rcases kd with rfl | rfl | rfl | rfl | rfl | rfl
      · exact own_arm_2_0 C X73 A77 A76 E78 ne_sb_mb ga_sb ga_mb hl b0 b1 b2 b3 z0 z1 z2 z3 d01 d02 d03 d12 d13 d23
      · exact own_arm_2_1 C X73 A77 A76 E78 ne_sb_mb ga_sb ga_mb hl b0 b1 b2 b3 z0 z1 z2 z3 d01 d02 d03 d12 d13 d23
      · exact own_arm_2_2 C X73 A77 A76 E78 ne_sb_mb ga_sb ga_mb hl b0 b1 b2 b3 z0 z1 z2 z3 d01 d02 d03 d12 d13 d23
      · exact own_arm_2_3 C X73 A77 A76 E78 ne_sb_mb ga_sb ga_mb hl b0 b1 b2 b3 z0 z1 z2 z3 d01 d02 d03 d12 d13 d23
      · exact own_arm_2_4 C X73 A77 A76 E78 ne_sb_mb ga_sb ga_mb hl b0 b1 b2 b3 z0 z1 z2 z3 d01 d02 d03 d12 d13 d23
      · exact own_arm_2_5 C X73 A77 A76 E78 ne_sb_mb ga_sb ga_mb hl b0 b1 b2 b3 z0 z1 z2 z3 d01 d02 d03 d12 d13 d23
    · refine go_iload C X73 187 rfl at_185 rfl ?_
      refine go_iconst C X73 188 rfl at_187 (z := 1) rfl ?_
      refine go_icmp_ne C X73 at_188 (pc' := 191) (pc2 := 252) rfl (by decide) (by decide) (fun (c188 : ¬ (3 : Int32) = (1 : Int32)) => ?_) (fun (c188 : (3 : Int32) = (1 : Int32)) => False.elim (by first | omega | exact absurd c188 (by decide)))
      refine go_iload C X73 254 rfl at_252 rfl ?_
      refine go_iconst C X73 255 rfl at_254 (z := 2) rfl ?_
      refine go_icmp_ne C X73 at_255 (pc' := 258) (pc2 := 441) rfl (by decide) (by decide) (fun (c255 : ¬ (3 : Int32) = (2 : Int32)) => ?_) (fun (c255 : (3 : Int32) = (2 : Int32)) => False.elim (by first | omega | exact absurd c255 (by decide)))
      refine go_iload C X73 443 rfl at_441 rfl ?_
      refine go_iconst C X73 444 rfl at_443 (z := 3) rfl ?_
      refine go_icmp_ne C X73 at_444 (pc' := 447) (pc2 := 598) rfl (by decide) (by decide) (fun (c444 : ¬ (3 : Int32) = (3 : Int32)) => False.elim (by first | omega | exact absurd c444 (by decide))) (fun (c444 : (3 : Int32) = (3 : Int32)) => ?_)
      refine go_iload C X73 449 rfl at_447 rfl ?_
      refine go_iconst C X73 450 rfl at_449 (z := 4) rfl ?_
      refine go_irem C X73 451 rfl at_450 (by decide) ?_
      refine go_istore C X73 453 rfl at_451 #[jv pk, sc, iv ff, iv sk, iv pk2, jv st, sc, rv sb, iv kk, iv m0, iv m1, iv m2, iv m3, rv mb, jv (s0.toInt64), sc, jv (s1.toInt64), sc, jv (s2.toInt64), sc, jv (s3.toInt64), sc, iv (3 : Int32), iv rr, un, un, un, iv (rr % (4 : Int32)), un, un, un, un, un, un, un, un, un, un, un, un] rfl ?_
      have kc : 0 ≤ (rr % 4).toInt ∧ (rr % 4).toInt < 4 := by have := i_rem (a := rr) (b := 4) (y := 4) rfl rfl hr0; omega
      generalize erv : (rr % (4 : Int32)) = rv
      rw [erv] at kc
      clear erv
      have kd : rv = 0 ∨ rv = 1 ∨ rv = 2 ∨ rv = 3 := by
        rcases (by omega : rv.toInt = 0 ∨ rv.toInt = 1 ∨ rv.toInt = 2 ∨ rv.toInt = 3) with q | q | q | q <;> (have := i_eq (b := Int32.ofInt rv.toInt) (by rw [Int32.ofInt_toInt]); rw [q] at this; subst this; decide)
      clear kc
      rcases kd with rfl | rfl | rfl | rfl
      · exact own_arm_3_0 C X73 A77 A76 E78 ne_sb_mb ga_sb ga_mb hl b0 b1 b2 b3 z0 z1 z2 z3 d01 d02 d03 d12 d13 d23
      · exact own_arm_3_1 C X73 A77 A76 E78 ne_sb_mb ga_sb ga_mb hl b0 b1 b2 b3 z0 z1 z2 z3 d01 d02 d03 d12 d13 d23
      · exact own_arm_3_2 C X73 A77 A76 E78 ne_sb_mb ga_sb ga_mb hl b0 b1 b2 b3 z0 z1 z2 z3 d01 d02 d03 d12 d13 d23
      · exact own_arm_3_3 C X73 A77 A76 E78 ne_sb_mb ga_sb ga_mb hl b0 b1 b2 b3 z0 z1 z2 z3 d01 d02 d03 d12 d13 d23
    · exact own_arm_4_0 C X73 A77 A76 E78 ne_sb_mb ga_sb ga_mb hl b0 b1 b2 b3 z0 z1 z2 z3 d01 d02 d03 d12 d13 d23
  have kd : kk = 0 ∨ kk = 1 ∨ kk = 2 ∨ kk = 3 ∨ kk = 4 := by
    rcases (by omega : kk.toInt = 0 ∨ kk.toInt = 1 ∨ kk.toInt = 2 ∨ kk.toInt = 3 ∨ kk.toInt = 4) with q | q | q | q | q <;> (have := i_eq (b := Int32.ofInt kk.toInt) (by rw [Int32.ofInt_toInt]); rw [q] at this; subst this; decide)
  clear kc
  rcases kd with rfl | rfl | rfl | rfl | rfl
  · refine go_iload C X39 62 rfl at_60 rfl ?_
    refine go_if_ne C X39 at_62 (pc' := 65) (pc2 := 69) rfl (by decide) (by decide) (fun (c62 : ¬ (0 : Int32) = (0 : Int32)) => False.elim (by first | omega | exact absurd c62 (by decide))) (fun (c62 : (0 : Int32) = (0 : Int32)) => ?_)
    refine go_iconst C X39 66 rfl at_65 (z := 1) rfl ?_
    refine go_goto C X39 at_66 (pc' := 70) (by decide) (by decide) ?_
    refine go_istore C X39 72 rfl at_70 #[jv pk, sc, iv ff, iv sk, iv pk2, jv st, sc, rv sb, iv (0 : Int32), iv (1 : Int32), un, un, un, un, un, un, un, un, un, un, un, un, un, un, un, un, un, un, un, un, un, un, un, un, un, un, un, un, un, un] rfl ?_
    refine go_iload C X39 74 rfl at_72 rfl ?_
    refine go_iconst C X39 75 rfl at_74 (z := 1) rfl ?_
    refine go_icmp_gt C X39 at_75 (pc' := 78) (pc2 := 82) rfl (by decide) (by decide) (fun (c75 : 1 < 0) => False.elim (by first | omega | exact absurd c75 (by decide))) (fun (c75 : 0 ≤ 1) => ?_)
    refine go_iconst C X39 79 rfl at_78 (z := 2) rfl ?_
    refine go_goto C X39 at_79 (pc' := 83) (by decide) (by decide) ?_
    refine go_istore C X39 85 rfl at_83 #[jv pk, sc, iv ff, iv sk, iv pk2, jv st, sc, rv sb, iv (0 : Int32), iv (1 : Int32), iv (2 : Int32), un, un, un, un, un, un, un, un, un, un, un, un, un, un, un, un, un, un, un, un, un, un, un, un, un, un, un, un, un] rfl ?_
    refine go_iload C X39 87 rfl at_85 rfl ?_
    refine go_iconst C X39 88 rfl at_87 (z := 2) rfl ?_
    refine go_icmp_gt C X39 at_88 (pc' := 91) (pc2 := 95) rfl (by decide) (by decide) (fun (c88 : 2 < 0) => False.elim (by first | omega | exact absurd c88 (by decide))) (fun (c88 : 0 ≤ 2) => ?_)
    refine go_iconst C X39 92 rfl at_91 (z := 3) rfl ?_
    refine go_goto C X39 at_92 (pc' := 96) (by decide) (by decide) ?_
    refine go_istore C X39 98 rfl at_96 #[jv pk, sc, iv ff, iv sk, iv pk2, jv st, sc, rv sb, iv (0 : Int32), iv (1 : Int32), iv (2 : Int32), iv (3 : Int32), un, un, un, un, un, un, un, un, un, un, un, un, un, un, un, un, un, un, un, un, un, un, un, un, un, un, un, un] rfl ?_
    refine go_iload C X39 100 rfl at_98 rfl ?_
    refine go_iconst C X39 101 rfl at_100 (z := 3) rfl ?_
    refine go_icmp_gt C X39 at_101 (pc' := 104) (pc2 := 108) rfl (by decide) (by decide) (fun (c101 : 3 < 0) => False.elim (by first | omega | exact absurd c101 (by decide))) (fun (c101 : 0 ≤ 3) => ?_)
    refine go_iconst C X39 105 rfl at_104 (z := 4) rfl ?_
    refine go_goto C X39 at_105 (pc' := 109) (by decide) (by decide) ?_
    refine go_istore C X39 111 rfl at_109 #[jv pk, sc, iv ff, iv sk, iv pk2, jv st, sc, rv sb, iv (0 : Int32), iv (1 : Int32), iv (2 : Int32), iv (3 : Int32), iv (4 : Int32), un, un, un, un, un, un, un, un, un, un, un, un, un, un, un, un, un, un, un, un, un, un, un, un, un, un, un] rfl ?_
    exact J43 (1 : Int32) (2 : Int32) (3 : Int32) (4 : Int32) (by decide)
  · refine go_iload C X39 62 rfl at_60 rfl ?_
    refine go_if_ne C X39 at_62 (pc' := 65) (pc2 := 69) rfl (by decide) (by decide) (fun (c62 : ¬ (1 : Int32) = (0 : Int32)) => ?_) (fun (c62 : (1 : Int32) = (0 : Int32)) => False.elim (by first | omega | exact absurd c62 (by decide)))
    refine go_iconst C X39 70 rfl at_69 (z := 0) rfl ?_
    refine go_istore C X39 72 rfl at_70 #[jv pk, sc, iv ff, iv sk, iv pk2, jv st, sc, rv sb, iv (1 : Int32), iv (0 : Int32), un, un, un, un, un, un, un, un, un, un, un, un, un, un, un, un, un, un, un, un, un, un, un, un, un, un, un, un, un, un] rfl ?_
    refine go_iload C X39 74 rfl at_72 rfl ?_
    refine go_iconst C X39 75 rfl at_74 (z := 1) rfl ?_
    refine go_icmp_gt C X39 at_75 (pc' := 78) (pc2 := 82) rfl (by decide) (by decide) (fun (c75 : 1 < 1) => False.elim (by first | omega | exact absurd c75 (by decide))) (fun (c75 : 1 ≤ 1) => ?_)
    refine go_iconst C X39 79 rfl at_78 (z := 2) rfl ?_
    refine go_goto C X39 at_79 (pc' := 83) (by decide) (by decide) ?_
    refine go_istore C X39 85 rfl at_83 #[jv pk, sc, iv ff, iv sk, iv pk2, jv st, sc, rv sb, iv (1 : Int32), iv (0 : Int32), iv (2 : Int32), un, un, un, un, un, un, un, un, un, un, un, un, un, un, un, un, un, un, un, un, un, un, un, un, un, un, un, un, un] rfl ?_
    refine go_iload C X39 87 rfl at_85 rfl ?_
    refine go_iconst C X39 88 rfl at_87 (z := 2) rfl ?_
    refine go_icmp_gt C X39 at_88 (pc' := 91) (pc2 := 95) rfl (by decide) (by decide) (fun (c88 : 2 < 1) => False.elim (by first | omega | exact absurd c88 (by decide))) (fun (c88 : 1 ≤ 2) => ?_)
    refine go_iconst C X39 92 rfl at_91 (z := 3) rfl ?_
    refine go_goto C X39 at_92 (pc' := 96) (by decide) (by decide) ?_
    refine go_istore C X39 98 rfl at_96 #[jv pk, sc, iv ff, iv sk, iv pk2, jv st, sc, rv sb, iv (1 : Int32), iv (0 : Int32), iv (2 : Int32), iv (3 : Int32), un, un, un, un, un, un, un, un, un, un, un, un, un, un, un, un, un, un, un, un, un, un, un, un, un, un, un, un] rfl ?_
    refine go_iload C X39 100 rfl at_98 rfl ?_
    refine go_iconst C X39 101 rfl at_100 (z := 3) rfl ?_
    refine go_icmp_gt C X39 at_101 (pc' := 104) (pc2 := 108) rfl (by decide) (by decide) (fun (c101 : 3 < 1) => False.elim (by first | omega | exact absurd c101 (by decide))) (fun (c101 : 1 ≤ 3) => ?_)
    refine go_iconst C X39 105 rfl at_104 (z := 4) rfl ?_
    refine go_goto C X39 at_105 (pc' := 109) (by decide) (by decide) ?_
    refine go_istore C X39 111 rfl at_109 #[jv pk, sc, iv ff, iv sk, iv pk2, jv st, sc, rv sb, iv (1 : Int32), iv (0 : Int32), iv (2 : Int32), iv (3 : Int32), iv (4 : Int32), un, un, un, un, un, un, un, un, un, un, un, un, un, un, un, un, un, un, un, un, un, un, un, un, un, un, un] rfl ?_
    exact J43 (0 : Int32) (2 : Int32) (3 : Int32) (4 : Int32) (by decide)
  · refine go_iload C X39 62 rfl at_60 rfl ?_
    refine go_if_ne C X39 at_62 (pc' := 65) (pc2 := 69) rfl (by decide) (by decide) (fun (c62 : ¬ (2 : Int32) = (0 : Int32)) => ?_) (fun (c62 : (2 : Int32) = (0 : Int32)) => False.elim (by first | omega | exact absurd c62 (by decide)))
    refine go_iconst C X39 70 rfl at_69 (z := 0) rfl ?_
    refine go_istore C X39 72 rfl at_70 #[jv pk, sc, iv ff, iv sk, iv pk2, jv st, sc, rv sb, iv (2 : Int32), iv (0 : Int32), un, un, un, un, un, un, un, un, un, un, un, un, un, un, un, un, un, un, un, un, un, un, un, un, un, un, un, un, un, un] rfl ?_
    refine go_iload C X39 74 rfl at_72 rfl ?_
    refine go_iconst C X39 75 rfl at_74 (z := 1) rfl ?_
    refine go_icmp_gt C X39 at_75 (pc' := 78) (pc2 := 82) rfl (by decide) (by decide) (fun (c75 : 1 < 2) => ?_) (fun (c75 : 2 ≤ 1) => False.elim (by first | omega | exact absurd c75 (by decide)))
    refine go_iconst C X39 83 rfl at_82 (z := 1) rfl ?_
    refine go_istore C X39 85 rfl at_83 #[jv pk, sc, iv ff, iv sk, iv pk2, jv st, sc, rv sb, iv (2 : Int32), iv (0 : Int32), iv (1 : Int32), un, un, un, un, un, un, un, un, un, un, un, un, un, un, un, un, un, un, un, un, un, un, un, un, un, un, un, un, un] rfl ?_
    refine go_iload C X39 87 rfl at_85 rfl ?_
    refine go_iconst C X39 88 rfl at_87 (z := 2) rfl ?_
    refine go_icmp_gt C X39 at_88 (pc' := 91) (pc2 := 95) rfl (by decide) (by decide) (fun (c88 : 2 < 2) => False.elim (by first | omega | exact absurd c88 (by decide))) (fun (c88 : 2 ≤ 2) => ?_)
    refine go_iconst C X39 92 rfl at_91 (z := 3) rfl ?_
    refine go_goto C X39 at_92 (pc' := 96) (by decide) (by decide) ?_
    refine go_istore C X39 98 rfl at_96 #[jv pk, sc, iv ff, iv sk, iv pk2, jv st, sc, rv sb, iv (2 : Int32), iv (0 : Int32), iv (1 : Int32), iv (3 : Int32), un, un, un, un, un, un, un, un, un, un, un, un, un, un, un, un, un, un, un, un, un, un, un, un, un, un, un, un] rfl ?_
    refine go_iload C X39 100 rfl at_98 rfl ?_
    refine go_iconst C X39 101 rfl at_100 (z := 3) rfl ?_
    refine go_icmp_gt C X39 at_101 (pc' := 104) (pc2 := 108) rfl (by decide) (by decide) (fun (c101 : 3 < 2) => False.elim (by first | omega | exact absurd c101 (by decide))) (fun (c101 : 2 ≤ 3) => ?_)
    refine go_iconst C X39 105 rfl at_104 (z := 4) rfl ?_
    refine go_goto C X39 at_105 (pc' := 109) (by decide) (by decide) ?_
    refine go_istore C X39 111 rfl at_109 #[jv pk, sc, iv ff, iv sk, iv pk2, jv st, sc, rv sb, iv (2 : Int32), iv (0 : Int32), iv (1 : Int32), iv (3 : Int32), iv (4 : Int32), un, un, un, un, un, un, un, un, un, un, un, un, un, un, un, un, un, un, un, un, un, un, un, un, un, un, un] rfl ?_
    exact J43 (0 : Int32) (1 : Int32) (3 : Int32) (4 : Int32) (by decide)
  · refine go_iload C X39 62 rfl at_60 rfl ?_
    refine go_if_ne C X39 at_62 (pc' := 65) (pc2 := 69) rfl (by decide) (by decide) (fun (c62 : ¬ (3 : Int32) = (0 : Int32)) => ?_) (fun (c62 : (3 : Int32) = (0 : Int32)) => False.elim (by first | omega | exact absurd c62 (by decide)))
    refine go_iconst C X39 70 rfl at_69 (z := 0) rfl ?_
    refine go_istore C X39 72 rfl at_70 #[jv pk, sc, iv ff, iv sk, iv pk2, jv st, sc, rv sb, iv (3 : Int32), iv (0 : Int32), un, un, un, un, un, un, un, un, un, un, un, un, un, un, un, un, un, un, un, un, un, un, un, un, un, un, un, un, un, un] rfl ?_
    refine go_iload C X39 74 rfl at_72 rfl ?_
    refine go_iconst C X39 75 rfl at_74 (z := 1) rfl ?_
    refine go_icmp_gt C X39 at_75 (pc' := 78) (pc2 := 82) rfl (by decide) (by decide) (fun (c75 : 1 < 3) => ?_) (fun (c75 : 3 ≤ 1) => False.elim (by first | omega | exact absurd c75 (by decide)))
    refine go_iconst C X39 83 rfl at_82 (z := 1) rfl ?_
    refine go_istore C X39 85 rfl at_83 #[jv pk, sc, iv ff, iv sk, iv pk2, jv st, sc, rv sb, iv (3 : Int32), iv (0 : Int32), iv (1 : Int32), un, un, un, un, un, un, un, un, un, un, un, un, un, un, un, un, un, un, un, un, un, un, un, un, un, un, un, un, un] rfl ?_
    refine go_iload C X39 87 rfl at_85 rfl ?_
    refine go_iconst C X39 88 rfl at_87 (z := 2) rfl ?_
    refine go_icmp_gt C X39 at_88 (pc' := 91) (pc2 := 95) rfl (by decide) (by decide) (fun (c88 : 2 < 3) => ?_) (fun (c88 : 3 ≤ 2) => False.elim (by first | omega | exact absurd c88 (by decide)))
    refine go_iconst C X39 96 rfl at_95 (z := 2) rfl ?_
    refine go_istore C X39 98 rfl at_96 #[jv pk, sc, iv ff, iv sk, iv pk2, jv st, sc, rv sb, iv (3 : Int32), iv (0 : Int32), iv (1 : Int32), iv (2 : Int32), un, un, un, un, un, un, un, un, un, un, un, un, un, un, un, un, un, un, un, un, un, un, un, un, un, un, un, un] rfl ?_
    refine go_iload C X39 100 rfl at_98 rfl ?_
    refine go_iconst C X39 101 rfl at_100 (z := 3) rfl ?_
    refine go_icmp_gt C X39 at_101 (pc' := 104) (pc2 := 108) rfl (by decide) (by decide) (fun (c101 : 3 < 3) => False.elim (by first | omega | exact absurd c101 (by decide))) (fun (c101 : 3 ≤ 3) => ?_)
    refine go_iconst C X39 105 rfl at_104 (z := 4) rfl ?_
    refine go_goto C X39 at_105 (pc' := 109) (by decide) (by decide) ?_
    refine go_istore C X39 111 rfl at_109 #[jv pk, sc, iv ff, iv sk, iv pk2, jv st, sc, rv sb, iv (3 : Int32), iv (0 : Int32), iv (1 : Int32), iv (2 : Int32), iv (4 : Int32), un, un, un, un, un, un, un, un, un, un, un, un, un, un, un, un, un, un, un, un, un, un, un, un, un, un, un] rfl ?_
    exact J43 (0 : Int32) (1 : Int32) (2 : Int32) (4 : Int32) (by decide)
  · refine go_iload C X39 62 rfl at_60 rfl ?_
    refine go_if_ne C X39 at_62 (pc' := 65) (pc2 := 69) rfl (by decide) (by decide) (fun (c62 : ¬ (4 : Int32) = (0 : Int32)) => ?_) (fun (c62 : (4 : Int32) = (0 : Int32)) => False.elim (by first | omega | exact absurd c62 (by decide)))
    refine go_iconst C X39 70 rfl at_69 (z := 0) rfl ?_
    refine go_istore C X39 72 rfl at_70 #[jv pk, sc, iv ff, iv sk, iv pk2, jv st, sc, rv sb, iv (4 : Int32), iv (0 : Int32), un, un, un, un, un, un, un, un, un, un, un, un, un, un, un, un, un, un, un, un, un, un, un, un, un, un, un, un, un, un] rfl ?_
    refine go_iload C X39 74 rfl at_72 rfl ?_
    refine go_iconst C X39 75 rfl at_74 (z := 1) rfl ?_
    refine go_icmp_gt C X39 at_75 (pc' := 78) (pc2 := 82) rfl (by decide) (by decide) (fun (c75 : 1 < 4) => ?_) (fun (c75 : 4 ≤ 1) => False.elim (by first | omega | exact absurd c75 (by decide)))
    refine go_iconst C X39 83 rfl at_82 (z := 1) rfl ?_
    refine go_istore C X39 85 rfl at_83 #[jv pk, sc, iv ff, iv sk, iv pk2, jv st, sc, rv sb, iv (4 : Int32), iv (0 : Int32), iv (1 : Int32), un, un, un, un, un, un, un, un, un, un, un, un, un, un, un, un, un, un, un, un, un, un, un, un, un, un, un, un, un] rfl ?_
    refine go_iload C X39 87 rfl at_85 rfl ?_
    refine go_iconst C X39 88 rfl at_87 (z := 2) rfl ?_
    refine go_icmp_gt C X39 at_88 (pc' := 91) (pc2 := 95) rfl (by decide) (by decide) (fun (c88 : 2 < 4) => ?_) (fun (c88 : 4 ≤ 2) => False.elim (by first | omega | exact absurd c88 (by decide)))
    refine go_iconst C X39 96 rfl at_95 (z := 2) rfl ?_
    refine go_istore C X39 98 rfl at_96 #[jv pk, sc, iv ff, iv sk, iv pk2, jv st, sc, rv sb, iv (4 : Int32), iv (0 : Int32), iv (1 : Int32), iv (2 : Int32), un, un, un, un, un, un, un, un, un, un, un, un, un, un, un, un, un, un, un, un, un, un, un, un, un, un, un, un] rfl ?_
    refine go_iload C X39 100 rfl at_98 rfl ?_
    refine go_iconst C X39 101 rfl at_100 (z := 3) rfl ?_
    refine go_icmp_gt C X39 at_101 (pc' := 104) (pc2 := 108) rfl (by decide) (by decide) (fun (c101 : 3 < 4) => ?_) (fun (c101 : 4 ≤ 3) => False.elim (by first | omega | exact absurd c101 (by decide)))
    refine go_iconst C X39 109 rfl at_108 (z := 3) rfl ?_
    refine go_istore C X39 111 rfl at_109 #[jv pk, sc, iv ff, iv sk, iv pk2, jv st, sc, rv sb, iv (4 : Int32), iv (0 : Int32), iv (1 : Int32), iv (2 : Int32), iv (3 : Int32), un, un, un, un, un, un, un, un, un, un, un, un, un, un, un, un, un, un, un, un, un, un, un, un, un, un, un] rfl ?_
    exact J43 (0 : Int32) (1 : Int32) (2 : Int32) (3 : Int32) (by decide)
set_option maxRecDepth 65536 in
set_option maxHeartbeats 40000000 in
theorem comes_1 {Post : Tables → Env → Array Value → State → Outcome → State → Prop} (hpost : ∀ tb e args s v u, (limb_1_1.after args s (.returned v) u = true ∧ limb_1_2.after args s (.returned v) u = true ∧ True) → FrameEnd s (.returned v) u (Jvm.fieldLocs frame_1_writes args s ++ Jvm.arrayLocs frame_1_arrays args s ++ Jvm.staticLocs frame_1_statics s) 32 192 → Post tb e args s (.returned v) u) :
    ArmFor flags0 classFile x code maxLocals ret World_1 tables_1 room_1 Calls_1 rest_1 Pre_1 Post := by
  intro l hfl _ _ p e ha hc hk s m args below hf hA hF happ hP
  obtain ⟨hcalls, hrest, hpre⟩ := hP
  obtain ⟨-, -, -, hnamed, -, -, -, hat⟩ := (Spec.applies_iff hf).mp happ
  obtain ⟨hg, hn⟩ := and_e (Cond.before_iff.mp (show (Jvm.Cond.and given_1 narrow_1).before args s = true from hpre))
  obtain ⟨g1, g2⟩ := and_e hg
  obtain ⟨g3, g4⟩ := and_e g2
  obtain ⟨g5, g6⟩ := and_e g4
  obtain ⟨g7, g8⟩ := and_e g6
  obtain ⟨g9, g10⟩ := and_e g8
  obtain ⟨w0, w1, w2, w3, w4, rfl⟩ : ∃ w0 w1 w2 w3 w4 : Value, args = #[w0, w1, w2, w3, w4] := by
    have hs : args.size = 5 := by simpa [Cond.value, given_1] using g1
    obtain ⟨L⟩ := args
    match L, hs with
    | [w0, w1, w2, w3, w4], _ => exact ⟨w0, w1, w2, w3, w4, rfl⟩
  have hw := fun d (hd : d ∈ tables_1) => atoms_spec (ws := Jvm.Cond.code x code maxLocals ret :: tables_1) hat d (List.mem_cons_of_mem _ hd)
  have hfit : Fit s := fun {y c} hc i hi => by
    obtain ⟨ha, rfl⟩ := Array.getElem?_eq_some_iff.mp hc
    have q := List.all_eq_true.mp ((Array.all_eq_true_iff_forall_mem.mp hF) _ (Array.getElem_mem ha)) i (List.mem_range.mpr hi)
    simpa [Array.getElem?_eq_getElem hi] using q
  obtain ⟨i0, ei0⟩ := isL_v g3
  obtain rfl : w0 = (.long i0) := Option.some.inj ei0
  obtain ⟨i1, ei1⟩ := is_v g5
  obtain rfl : w1 = (.int i1) := Option.some.inj ei1
  obtain ⟨i2, ei2⟩ := is_v g7
  obtain rfl : w2 = (.int i2) := Option.some.inj ei2
  obtain ⟨i3, ei3⟩ := is_v g9
  obtain rfl : w3 = (.int i3) := Option.some.inj ei3
  obtain ⟨i4, ei4⟩ := isL_v g10
  obtain rfl : w4 = (.long i4) := Option.some.inj ei4
  obtain ⟨n, o, h1, h2, h3, _, L, rfl, ⟨N, rfl⟩, hq⟩ := own_law l s _ hw i0 i1 i2 i3 i4  s.heap s.heap.size (Old.start s)  tables_1 p e ha hc hk s m _ below hf ((Spec.applies_iff_loose hf).mp happ).1 ⟨rfl, State.Warmed39.refl s, rfl⟩ trivial
  refine ⟨n, _, h1, h2, h3, hpost _ _ _ _ _ _ ⟨Cond.after_iff.mpr rfl, Cond.after_iff.mpr (eq_i res_at (Term.int_eval (1)) rfl), trivial⟩ ⟨hq.1, hq.2.1, (hq.2.2.sift fun y hy => Or.inr (N y hy)).mono (by decide) (by decide)⟩⟩
theorem main_1_1 : Claimed_1_1 := comes_1 fun _ _ _ _ _ _ h hF => ⟨h.1, hF⟩
theorem main_1_2 : Claimed_1_2 := comes_1 fun _ _ _ _ _ _ h hF => ⟨h.2.1, hF⟩

end Jvm.Pilot.@@N@@
namespace Jvm.Pilot.@@N@@
open Jvm Jvm.ClassFile Sem Op Lib Jvm.Free Jvm.Stand Jvm.Pilot.@@N@@.Jvm.D
/-! MADE BY PROGRAM (witnessworld.py) out of the Statement's table words and the real class files: 13 classes; the members and pool entries that the words name. The judged class is class 1, her method 2. -/
namespace start1
open Jvm.ClassFile
def u (s : String) : CpInfo := .utf8 (stringToUtf16 s)
/-- a pool by its gaps: so many unusable entries, then the entry; so many at the end -/
def gap : Nat → List CpInfo → List CpInfo
  | 0, r => r
  | n + 1, r => .unusable :: gap n r
def poolList (es : List (Nat × CpInfo)) (last : Nat) : List CpInfo := es.foldr (fun e r => gap e.1 (e.2 :: r)) (gap last [])
def pool (es : List (Nat × CpInfo)) (last : Nat) : Array CpInfo := ⟨poolList es last⟩
def fileOf (pool : Array CpInfo) (this : Nat) (attrs : Array Attribute := #[]) (ms : Array MethodInfo := #[]) (fl : Nat := 33) (sup : Nat := 0) (ifs : Array Nat := #[]) (fds : Array FieldInfo := #[]) : ClassFile where
  minorVersion := 0
  majorVersion := 65
  constantPool := pool
  accessFlags := fl
  thisClass := this
  superClass := sup
  interfaces := ifs
  fields := fds
  methods := ms
  attributes := attrs
def plain (name : String) (sup : Option ClassId) : Class where
  name := name
  kind := .ordinary
  loader := none
  accessFlags := 33
  super := sup
  interfaces := #[]
  cf := none
  fields := #[]
  methods := #[]
  instanceTypes := #[]
  staticTypes := #[]
  resolved := #[]
  callSites := []
  init := .initialized
  statics := none
  mirror := none

def pool0 : Array CpInfo := pool [(5, u "<init>"), (0, u "()V"), (1, .class_ 10), (1, u "java/lang/Object"), (85, u "clone"), (0, u "()Ljava/lang/Object;")] 26

def k0c0 : Code := { maxStack := 0, maxLocals := 1, code := object_method_1_code, exceptionTable := #[], attributes := #[] }
def k0m0 : Method := { name := "<init>", desc := "()V", sig := { parameters := [], returnType := none }, accessFlags := 1, code := some k0c0 }
def k0m1 : Method := { name := "clone", desc := "()Ljava/lang/Object;", sig := { parameters := [], returnType := some (.object "java/lang/Object") }, accessFlags := 260, code := none }
/-- java/lang/Object -/
def k0 : Class := { plain "java/lang/Object" none with
  accessFlags := 33
  interfaces := #[]
  cf := some (fileOf pool0 8 #[] #[{ accessFlags := 1, nameIndex := 5, descriptorIndex := 6, attributes := #[] }, { accessFlags := 260, nameIndex := 96, descriptorIndex := 97, attributes := #[] }] 33 0 #[] #[])
  fields := #[]
  methods := #[k0m0, k0m1]
  instanceTypes := #[]
  staticTypes := #[]
  resolved := Array.replicate 124 none
  statics := none }

def pool1 : Array CpInfo := pool [(2, .class_ 4), (1, u "java/lang/Object"), (0, u "<init>"), (0, u "()V"), (0, .long 32767), (1, .methodref 10 11), (0, .class_ 12), (0, .nameAndType 13 14), (0, u "com/example/covertide/covertide/engine/ParameterSetsBitOfPinLaw"), (0, u "sizeAt"), (0, u "(JI)I"), (0, .integer 2147483647), (0, .class_ 17), (0, u "com/example/covertide/covertide/engine/ParameterSets"), (0, .methodref 16 19), (0, .nameAndType 5 20), (0, u "([I[IIJ)V"), (0, .methodref 16 22), (0, .nameAndType 23 24), (0, u "bitOf"), (0, u "([I)J"), (2, u "law"), (0, u "(JIIIJ)Z")] 5

def k1m0 : Method := { name := "<init>", desc := "()V", sig := { parameters := [], returnType := none }, accessFlags := 1, code := none }
def k1c1 : Code := { maxStack := 4, maxLocals := 3, code := method_2_code, exceptionTable := #[], attributes := #[] }
def k1m1 : Method := { name := "sizeAt", desc := "(JI)I", sig := { parameters := [.long, .int], returnType := some .int }, accessFlags := 10, code := some k1c1 }
def k1c2 : Code := { maxStack := 7, maxLocals := 40, code := code, exceptionTable := #[], attributes := #[] }
def k1m2 : Method := { name := "law", desc := "(JIIIJ)Z", sig := { parameters := [.long, .int, .int, .int, .long], returnType := some .boolean }, accessFlags := 9, code := some k1c2 }
/-- com/example/covertide/covertide/engine/ParameterSetsBitOfPinLaw -/
def k1 : Class := { plain "com/example/covertide/covertide/engine/ParameterSetsBitOfPinLaw" (some 0) with
  accessFlags := 49
  interfaces := #[]
  cf := some (fileOf pool1 10 #[] #[{ accessFlags := 1, nameIndex := 5, descriptorIndex := 6, attributes := #[] }, { accessFlags := 10, nameIndex := 13, descriptorIndex := 14, attributes := #[] }, { accessFlags := 9, nameIndex := 27, descriptorIndex := 28, attributes := #[] }] 49 2 #[] #[])
  fields := #[]
  methods := #[k1m0, k1m1, k1m2]
  instanceTypes := #[]
  staticTypes := #[]
  resolved := Array.replicate 34 none
  statics := none }

def pool2 : Array CpInfo := pool [(1, .methodref 2 3), (0, .class_ 4), (0, .nameAndType 5 6), (0, u "java/lang/Object"), (0, u "<init>"), (0, u "()V"), (0, .fieldref 8 9), (0, .class_ 10), (0, .nameAndType 11 12), (0, u "com/example/covertide/covertide/engine/ParameterSets"), (0, u "sizes"), (0, u "[I"), (0, .methodref 14 15), (0, .class_ 12), (0, .nameAndType 16 17), (0, u "clone"), (0, u "()Ljava/lang/Object;"), (0, .fieldref 8 19), (0, .nameAndType 20 12), (0, u "members"), (0, .fieldref 8 22), (0, .nameAndType 23 12), (0, u "indexOf"), (0, .methodref 25 26), (0, .class_ 27), (0, .nameAndType 28 29), (0, u "java/util/Arrays"), (0, u "fill"), (0, u "([II)V"), (0, .fieldref 8 31), (0, .nameAndType 32 33), (0, u "size"), (0, u "I"), (0, .fieldref 8 35), (0, .nameAndType 36 37), (0, u "start"), (0, u "J"), (0, .methodref 8 39), (0, .nameAndType 40 41), (0, u "suffixSums"), (0, u "()[[J"), (0, .fieldref 8 43), (0, .nameAndType 40 44), (0, u "[[J"), (0, .fieldref 8 46), (0, .nameAndType 47 37), (0, u "combinations"), (70, .class_ 44), (0, .methodref 25 120), (0, .nameAndType 28 121), (0, u "([JJ)V"), (0, u "([I[IIJ)V"), (16, u "bitOf"), (0, u "([I)J")] 6

def k2c0 : Code := { maxStack := 3, maxLocals := 7, code := prog_10_method_1_code, exceptionTable := #[], attributes := #[] }
def k2m0 : Method := { name := "<init>", desc := "([I[IIJ)V", sig := { parameters := [(.array .int), (.array .int), .int, .long], returnType := none }, accessFlags := 0, code := some k2c0 }
def k2c1 : Code := { maxStack := 8, maxLocals := 10, code := prog_10_method_12_code, exceptionTable := #[], attributes := #[] }
def k2m1 : Method := { name := "bitOf", desc := "([I)J", sig := { parameters := [(.array .int)], returnType := some .long }, accessFlags := 0, code := some k2c1 }
def k2c2 : Code := { maxStack := 9, maxLocals := 5, code := prog_10_method_14_code, exceptionTable := #[], attributes := #[] }
def k2m2 : Method := { name := "suffixSums", desc := "()[[J", sig := { parameters := [], returnType := some (.array (.array .long)) }, accessFlags := 2, code := some k2c2 }
/-- com/example/covertide/covertide/engine/ParameterSets -/
def k2 : Class := { plain "com/example/covertide/covertide/engine/ParameterSets" (some 0) with
  accessFlags := 48
  interfaces := #[]
  cf := some (fileOf pool2 8 #[] #[{ accessFlags := 0, nameIndex := 5, descriptorIndex := 122, attributes := #[] }, { accessFlags := 0, nameIndex := 139, descriptorIndex := 140, attributes := #[] }, { accessFlags := 2, nameIndex := 40, descriptorIndex := 41, attributes := #[] }] 48 2 #[] #[{ accessFlags := 18, nameIndex := 11, descriptorIndex := 12, attributes := #[] }, { accessFlags := 18, nameIndex := 20, descriptorIndex := 12, attributes := #[] }, { accessFlags := 18, nameIndex := 23, descriptorIndex := 12, attributes := #[] }, { accessFlags := 18, nameIndex := 32, descriptorIndex := 33, attributes := #[] }, { accessFlags := 18, nameIndex := 36, descriptorIndex := 37, attributes := #[] }, { accessFlags := 18, nameIndex := 47, descriptorIndex := 37, attributes := #[] }, { accessFlags := 18, nameIndex := 40, descriptorIndex := 44, attributes := #[] }])
  fields := #[{ name := "sizes", type := (.array .int), accessFlags := 18, slot := 0, constantValue := 0 }, { name := "members", type := (.array .int), accessFlags := 18, slot := 1, constantValue := 0 }, { name := "indexOf", type := (.array .int), accessFlags := 18, slot := 2, constantValue := 0 }, { name := "size", type := .int, accessFlags := 18, slot := 3, constantValue := 0 }, { name := "start", type := .long, accessFlags := 18, slot := 4, constantValue := 0 }, { name := "combinations", type := .long, accessFlags := 18, slot := 5, constantValue := 0 }, { name := "suffixSums", type := (.array (.array .long)), accessFlags := 18, slot := 6, constantValue := 0 }]
  methods := #[k2m0, k2m1, k2m2]
  instanceTypes := #[(.array .int), (.array .int), (.array .int), .int, .long, .long, (.array (.array .long))]
  staticTypes := #[]
  resolved := Array.replicate 147 none
  statics := none }

def pool3 : Array CpInfo := pool [(1, .class_ 2), (0, u "java/lang/Cloneable"), (0, .class_ 4), (0, u "java/lang/Object")] 2

/-- java/lang/Cloneable -/
def k3 : Class := { plain "java/lang/Cloneable" (some 0) with
  accessFlags := 1537
  interfaces := #[]
  cf := some (fileOf pool3 1 #[] #[] 1537 3 #[] #[])
  fields := #[]
  methods := #[]
  instanceTypes := #[]
  staticTypes := #[]
  resolved := Array.replicate 7 none
  statics := none }

def pool4 : Array CpInfo := pool [(2, .class_ 4), (1, u "java/lang/Object"), (0, u "<init>"), (0, u "()V"), (7, .class_ 16), (1, u "java/util/Arrays"), (57, .class_ 76), (1, u "java/util/Arrays$NaturalOrder"), (36, .class_ 115), (1, u "java/util/Arrays$LegacyMergeSort"), (1, u "Z"), (257, .class_ 376), (0, u "java/util/Arrays$ArrayList"), (68, u "$assertionsDisabled"), (269, u "MIN_ARRAY_SORT_GRAN"), (0, u "I"), (2, u "INSERTIONSORT_THRESHOLD"), (120, u "fill"), (0, u "([JJ)V"), (3, u "([II)V"), (129, .class_ 976), (0, u "java/util/Arrays$ArrayItr")] 52

def k4m0 : Method := { name := "<init>", desc := "()V", sig := { parameters := [], returnType := none }, accessFlags := 2, code := none }
def k4c1 : Code := { maxStack := 4, maxLocals := 5, code := jdk_65_method_101_code, exceptionTable := #[], attributes := #[] }
def k4m1 : Method := { name := "fill", desc := "([JJ)V", sig := { parameters := [(.array .long), .long], returnType := none }, accessFlags := 9, code := some k4c1 }
def k4c2 : Code := { maxStack := 3, maxLocals := 4, code := jdk_65_method_103_code, exceptionTable := #[], attributes := #[] }
def k4m2 : Method := { name := "fill", desc := "([II)V", sig := { parameters := [(.array .int), .int], returnType := none }, accessFlags := 9, code := some k4c2 }
/-- java/util/Arrays -/
def k4 : Class := { plain "java/util/Arrays" (some 0) with
  accessFlags := 49
  interfaces := #[]
  cf := some (fileOf pool4 14 #[.nestMembers #[975, 375, 113, 74]] #[{ accessFlags := 2, nameIndex := 5, descriptorIndex := 6, attributes := #[] }, { accessFlags := 9, nameIndex := 840, descriptorIndex := 841, attributes := #[] }, { accessFlags := 9, nameIndex := 840, descriptorIndex := 845, attributes := #[] }] 49 2 #[] #[{ accessFlags := 26, nameIndex := 715, descriptorIndex := 716, attributes := #[] }, { accessFlags := 26, nameIndex := 719, descriptorIndex := 716, attributes := #[] }, { accessFlags := 4120, nameIndex := 445, descriptorIndex := 117, attributes := #[] }])
  fields := #[{ name := "MIN_ARRAY_SORT_GRAN", type := .int, accessFlags := 26, slot := 0, constantValue := 0 }, { name := "INSERTIONSORT_THRESHOLD", type := .int, accessFlags := 26, slot := 1, constantValue := 0 }, { name := "$assertionsDisabled", type := .boolean, accessFlags := 4120, slot := 2, constantValue := 0 }]
  methods := #[k4m0, k4m1, k4m2]
  instanceTypes := #[]
  staticTypes := #[.int, .int, .boolean]
  resolved := Array.replicate 1029 none
  statics := none }

def pool5 : Array CpInfo := pool [(1, u "java/io/Serializable"), (0, .class_ 1), (0, u "java/lang/Object"), (0, .class_ 3)] 3

/-- java/io/Serializable -/
def k5 : Class := { plain "java/io/Serializable" (some 0) with
  accessFlags := 1537
  interfaces := #[]
  cf := some (fileOf pool5 2 #[] #[] 1537 4 #[] #[])
  fields := #[]
  methods := #[]
  instanceTypes := #[]
  staticTypes := #[]
  resolved := Array.replicate 8 none
  statics := none }

/-- the primitive byte -/
def k6 : Class := { plain "byte" none with kind := .primitive 'B', accessFlags := 0x411 }
/-- [B -/
def k7 : Class := { plain "[B" (some 0) with kind := .array 6 .byte, interfaces := #[3, 5], accessFlags := 1041 }

/-- the primitive int -/
def k8 : Class := { plain "int" none with kind := .primitive 'I', accessFlags := 0x411 }
/-- [I -/
def k9 : Class := { plain "[I" (some 0) with kind := .array 8 .int, interfaces := #[3, 5], accessFlags := 1041 }

/-- the primitive long -/
def k10 : Class := { plain "long" none with kind := .primitive 'J', accessFlags := 0x411 }
/-- [J -/
def k11 : Class := { plain "[J" (some 0) with kind := .array 10 .long, interfaces := #[3, 5], accessFlags := 1041 }

/-- [L[J; -/
def k12 : Class := { plain "[[J" (some 0) with kind := .array 11 (.array .long), interfaces := #[3, 5], accessFlags := 1041 }

def heap : Heap := #[{ cls := 12, slots := #[.null], vm := .none }]
def classes : Array Class := #[k0, k1, k2, k3, k4, k5, k6, k7, k8, k9, k10, k11, k12]
def interned : List (Array UInt16 × Addr) := []
def slotsUsed : Nat := 1
def theMethod : MethodId := ⟨1, 2⟩
def args0 : Array Value := #[.long 5, .int 7, .int 1, .int 6, .long 9]
def aboutOver (below : List Frame) : State where
  vm := { classes := classes, interned := interned.toArray }
  heap := heap
  slotsUsed := slotsUsed
  threads := #[{ frames := .invoking theMethod args0 :: below }]
def below0 : List Frame := [.native { method := ⟨0, 0⟩, args := #[] }]
def about1 : State := aboutOver below0
def p0 : Program := .bare "" "" ""
def e0 : Env := launch0.env 0 0 0
theorem w_frames : about1.frames = Frame.invoking theMethod args0 :: below0 := rfl
set_option maxRecDepth 65536 in
theorem w_args : argsFit about1.vm theMethod args0 = true := by decide +kernel
set_option maxRecDepth 65536 in
theorem w_heap : heapFits about1 = true := by decide +kernel
set_option maxRecDepth 65536 in
theorem w_runnable : about1.curStatus? = some .runnable := by decide +kernel
set_option maxRecDepth 65536 in
theorem w_alone : about1.alone = true := by decide +kernel
set_option maxRecDepth 65536 in
theorem w_named : about1.methodNamed? x = some theMethod := by decide +kernel
set_option maxRecDepth 65536 in
theorem w_hears : about1.hears theMethod below0 = true := by decide +kernel
set_option maxRecDepth 65536 in
theorem w_ripe : about1.ripe theMethod args0 below0 = true := by decide +kernel
theorem w_running : about1.status = .running := rfl
set_option maxRecDepth 65536 in
theorem w_room : about1.hasRoom e0.platform room_1 = true :=
  launch0.hasRoom_least _ room_1 (by decide +kernel) (by decide +kernel) (by decide +kernel) (by decide +kernel) (by decide +kernel) (by decide +kernel)
theorem allAtoms_all (ts : List Jvm.Cond) (a : Array Jvm.Value) (st : Jvm.State) : (allAtoms ts).before a st = ts.all (fun c => c.before a st) := by
  induction ts with
  | nil => rfl
  | cons c t ih =>
    show (Jvm.Cond.and c (allAtoms t)).before a st = _
    rw [Jvm.Cond.before_and, ih, List.all_cons]
def words1 : List Jvm.Cond := Jvm.Cond.code x code maxLocals ret :: tables_1
/-- a 'code' word, met by the world's own term for the bytes: nothing is compared byte by byte -/
theorem code_word {y : MethodName} {bytes : ByteArray} {mx : Nat} {rt : Option FieldType} {a : Array Value} {s : State} {m : MethodId} {meth : Method} {c : Code} (h1 : s.methodNamed? y = some m) (h2 : s.vm.method? m = some meth) (h3 : meth.code = some c) (h4 : c.code = bytes)
    (h5 : (c.maxLocals == mx && c.exceptionTable.isEmpty && decide (c.maxStack ≤ mostOperands) && decide (meth.sig.returnType = rt) && !meth.locks && decide (parseMethodDescriptor y.desc = some meth.sig)) = true) : (Jvm.Cond.code y bytes mx rt).before a s = true := by
  simp only [Bool.and_eq_true, beq_iff_eq, Bool.not_eq_true', decide_eq_true_eq] at h5
  obtain ⟨⟨⟨⟨⟨g1, g2⟩, g3⟩, g4⟩, g5⟩, g6⟩ := h5
  simp [Cond.before, Cond.holds, Cond.value, h1, h2, h3, h4, g1, g2, g3, g4, g5, g6]
def isCode : Jvm.Cond → Bool
  | .code _ _ _ _ => true
  | _ => false
theorem all_split {L : List Jvm.Cond} {P : Jvm.Cond → Bool} (h1 : L.all (fun c => isCode c || P c) = true) (h2 : ∀ c ∈ L.filter isCode, P c = true) : L.all P = true := by
  refine List.all_eq_true.mpr fun c hc => ?_
  have h := List.all_eq_true.mp h1 c hc
  rcases Bool.eq_false_or_eq_true (isCode c) with hi | hi
  · exact h2 c (List.mem_filter.mpr ⟨hc, hi⟩)
  · simpa [hi] using h
set_option maxRecDepth 65536 in
theorem w_c0 : (Jvm.Cond.code x code maxLocals ret).before args0 about1 = true := code_word (m := ⟨1, 2⟩) (meth := k1m2) (c := k1c2) (by decide +kernel) rfl rfl rfl (by decide +kernel)
set_option maxRecDepth 65536 in
theorem w_c1 : (Jvm.Cond.code ({ cls := "com/example/covertide/covertide/engine/ParameterSetsBitOfPinLaw", name := "sizeAt", desc := "(JI)I" } : Jvm.MethodName) method_2_code (3 : Nat) (Option.some Jvm.ClassFile.FieldType.int)).before args0 about1 = true := code_word (m := ⟨1, 1⟩) (meth := k1m1) (c := k1c1) (by decide +kernel) rfl rfl rfl (by decide +kernel)
set_option maxRecDepth 65536 in
theorem w_c2 : (Jvm.Cond.code ({ cls := "com/example/covertide/covertide/engine/ParameterSets", name := "<init>", desc := "([I[IIJ)V" } : Jvm.MethodName) prog_10_method_1_code (7 : Nat) (Option.none : Option Jvm.ClassFile.FieldType)).before args0 about1 = true := code_word (m := ⟨2, 0⟩) (meth := k2m0) (c := k2c0) (by decide +kernel) rfl rfl rfl (by decide +kernel)
set_option maxRecDepth 65536 in
theorem w_c3 : (Jvm.Cond.code ({ cls := "java/lang/Object", name := "<init>", desc := "()V" } : Jvm.MethodName) object_method_1_code (1 : Nat) (Option.none : Option Jvm.ClassFile.FieldType)).before args0 about1 = true := code_word (m := ⟨0, 0⟩) (meth := k0m0) (c := k0c0) (by decide +kernel) rfl rfl rfl (by decide +kernel)
set_option maxRecDepth 65536 in
theorem w_c4 : (Jvm.Cond.code ({ cls := "java/util/Arrays", name := "fill", desc := "([II)V" } : Jvm.MethodName) jdk_65_method_103_code (4 : Nat) (Option.none : Option Jvm.ClassFile.FieldType)).before args0 about1 = true := code_word (m := ⟨4, 2⟩) (meth := k4m2) (c := k4c2) (by decide +kernel) rfl rfl rfl (by decide +kernel)
set_option maxRecDepth 65536 in
theorem w_c5 : (Jvm.Cond.code ({ cls := "com/example/covertide/covertide/engine/ParameterSets", name := "suffixSums", desc := "()[[J" } : Jvm.MethodName) prog_10_method_14_code (5 : Nat) (Option.some (Jvm.ClassFile.FieldType.array (Jvm.ClassFile.FieldType.array Jvm.ClassFile.FieldType.long)))).before args0 about1 = true := code_word (m := ⟨2, 2⟩) (meth := k2m2) (c := k2c2) (by decide +kernel) rfl rfl rfl (by decide +kernel)
set_option maxRecDepth 65536 in
theorem w_c6 : (Jvm.Cond.code ({ cls := "java/util/Arrays", name := "fill", desc := "([JJ)V" } : Jvm.MethodName) jdk_65_method_101_code (5 : Nat) (Option.none : Option Jvm.ClassFile.FieldType)).before args0 about1 = true := code_word (m := ⟨4, 1⟩) (meth := k4m1) (c := k4c1) (by decide +kernel) rfl rfl rfl (by decide +kernel)
set_option maxRecDepth 65536 in
theorem w_c7 : (Jvm.Cond.code ({ cls := "com/example/covertide/covertide/engine/ParameterSets", name := "bitOf", desc := "([I)J" } : Jvm.MethodName) prog_10_method_12_code (10 : Nat) (Option.some Jvm.ClassFile.FieldType.long)).before args0 about1 = true := code_word (m := ⟨2, 1⟩) (meth := k2m1) (c := k2c1) (by decide +kernel) rfl rfl rfl (by decide +kernel)
def codes1 : List Jvm.Cond := [Jvm.Cond.code x code maxLocals ret, Jvm.Cond.code ({ cls := "com/example/covertide/covertide/engine/ParameterSetsBitOfPinLaw", name := "sizeAt", desc := "(JI)I" } : Jvm.MethodName) method_2_code (3 : Nat) (Option.some Jvm.ClassFile.FieldType.int), Jvm.Cond.code ({ cls := "com/example/covertide/covertide/engine/ParameterSets", name := "<init>", desc := "([I[IIJ)V" } : Jvm.MethodName) prog_10_method_1_code (7 : Nat) (Option.none : Option Jvm.ClassFile.FieldType), Jvm.Cond.code ({ cls := "java/lang/Object", name := "<init>", desc := "()V" } : Jvm.MethodName) object_method_1_code (1 : Nat) (Option.none : Option Jvm.ClassFile.FieldType), Jvm.Cond.code ({ cls := "java/util/Arrays", name := "fill", desc := "([II)V" } : Jvm.MethodName) jdk_65_method_103_code (4 : Nat) (Option.none : Option Jvm.ClassFile.FieldType), Jvm.Cond.code ({ cls := "com/example/covertide/covertide/engine/ParameterSets", name := "suffixSums", desc := "()[[J" } : Jvm.MethodName) prog_10_method_14_code (5 : Nat) (Option.some (Jvm.ClassFile.FieldType.array (Jvm.ClassFile.FieldType.array Jvm.ClassFile.FieldType.long))), Jvm.Cond.code ({ cls := "java/util/Arrays", name := "fill", desc := "([JJ)V" } : Jvm.MethodName) jdk_65_method_101_code (5 : Nat) (Option.none : Option Jvm.ClassFile.FieldType), Jvm.Cond.code ({ cls := "com/example/covertide/covertide/engine/ParameterSets", name := "bitOf", desc := "([I)J" } : Jvm.MethodName) prog_10_method_12_code (10 : Nat) (Option.some Jvm.ClassFile.FieldType.long)]
set_option maxRecDepth 65536 in
theorem codes_eq : words1.filter isCode = codes1 := rfl
theorem w_codes : ∀ c ∈ words1.filter isCode, c.before args0 about1 = true := by
  rw [codes_eq]
  intro c hc
  simp only [codes1, List.mem_cons, List.not_mem_nil, or_false] at hc
  rcases hc with rfl | rfl | rfl | rfl | rfl | rfl | rfl | rfl
  · exact w_c0
  · exact w_c1
  · exact w_c2
  · exact w_c3
  · exact w_c4
  · exact w_c5
  · exact w_c6
  · exact w_c7
set_option maxRecDepth 65536 in
theorem w_t1 : (words1.take 24).all (fun c => isCode c || c.before args0 about1) = true := by decide +kernel
set_option maxRecDepth 65536 in
theorem w_t2 : ((words1.drop 24).take 24).all (fun c => isCode c || c.before args0 about1) = true := by decide +kernel
set_option maxRecDepth 65536 in
theorem w_t3 : ((words1.drop 24).drop 24).all (fun c => isCode c || c.before args0 about1) = true := by decide +kernel
theorem w_tables : (allAtoms (Jvm.Cond.code x code maxLocals ret :: tables_1)).before args0 about1 = true := by
  rw [allAtoms_all]
  show words1.all (fun c => c.before args0 about1) = true
  refine all_split ?_ w_codes
  rw [← List.take_append_drop 24 words1, List.all_append, w_t1, ← List.take_append_drop 24 (words1.drop 24), List.all_append, w_t2, w_t3]
  rfl
set_option maxRecDepth 65536 in
theorem w_case : (Jvm.Cond.and given_1 narrow_1).before args0 about1 = true := by decide +kernel
theorem w_applies : (headSpec (Jvm.Cond.code x code maxLocals ret :: tables_1) room_1).applies x e0.platform about1 = true :=
  (Spec.applies_iff w_frames).mpr ⟨w_running, w_runnable, w_alone, w_named, w_hears, w_ripe, w_room, w_tables⟩
theorem atStart : AtStart classFile x code maxLocals ret World_1 tables_1 room_1 Calls_1 rest_1 Pre_1 launch0 p0 e0 about1 theMethod args0 below0 :=
  ⟨lists_1, trivial, launch0.admits_env _ _ _, launch0.least_env, fairChoices_fair.cas, fairChoices_fair.clock, w_frames, w_args, w_heap, w_applies, trivial, trivial, w_case⟩
end start1
theorem witness_1 : WitnessClaimed_1 := ⟨start1.p0, start1.e0, start1.about1, start1.theMethod, start1.args0, start1.below0, start1.atStart⟩
end Jvm.Pilot.@@N@@
