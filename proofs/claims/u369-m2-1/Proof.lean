import JvmDerived
import JvmDerived.Pilot.@@N@@Statement
import JvmDerived.Pilot.@@N@@Code
set_option linter.unusedVariables false
set_option linter.unusedSimpArgs false
namespace Jvm.Pilot.@@N@@
open Jvm Jvm.ClassFile Sem Op Lib Jvm.Free Jvm.Stand Jvm.LawKit Jvm.RoadKit Bundle Jvm.Pilot.@@N@@.Jvm.D
/-! ## the common layer: a run that comes to an end of which Q speaks, step by step backwards -/
def Go (p : Program) (e : Env) (below : List Frame) (Q : Outcome → State → Prop) (S : State) : Prop :=
  ∃ s₂ o, Steps p.tables e below S s₂ ∧ s₂.status = .running ∧ Ended s₂ below o ∧ Q o s₂
theorem Go.back {p : Program} {e : Env} {below : List Frame} {Q : Outcome → State → Prop} {A B : State} (k : ∀ t, Steps p.tables e below B t → Steps p.tables e below A t) (h : Go p e below Q B) : Go p e below Q A := by
  obtain ⟨t, o, h1, h2⟩ := h
  exact ⟨t, o, k _ h1, h2⟩
theorem Go.cast {p : Program} {e : Env} {below : List Frame} {Q : Outcome → State → Prop} {A B : State} (k : A = B) (h : Go p e below Q B) : Go p e below Q A := k ▸ h
abbrev jv (x : Int64) : Slot := .val (.long x)
abbrev dv (x : UInt64) : Slot := .val (.double x)
abbrev un : Slot := .unset
abbrev sc : Slot := .second
/-- what a body knows of itself -/
def Cx (p : Program) (s : State) (m : MethodId) (meth : Method) (c : Code) (Z : State) (a0 : Array Value) (own : String) (bytes : ByteArray) (maxL : Nat) (ret : Option FieldType) (nm : String) : Prop :=
  p.tables.exec = Jvm.exec ∧ Z.Warmed39 s.vm ∧ (∀ d ∈ tables_1, d.before a0 Z = true) ∧ s.vm.findClass own = some m.cls ∧ c.code = bytes ∧ c.maxLocals = maxL ∧ meth.sig.returnType = ret ∧ meth.locks = false ∧ meth.name = nm
/-- where the run stands: heap h; every write so far lies at or above n0; k cells and n slots made at the most -/
def St (Z : State) (p : Program) (l : Launch) (e : Env) (R : Room) (s : State) (m : MethodId) (args : Array Value) (below : List Frame) (meth : Method) (c : Code) (n0 : Nat) (T : State) (h : Heap) (k n : Nat) : Prop :=
  ∃ locs, Stand p l e R s m args below meth c T locs k n ∧ Fr n0 locs ∧ Old Z n0 s.heap ∧ T.heap = h
def FinQ (s : State) (k n n0 : Nat) (Q : Option Value → Heap → Prop) (o : Outcome) (t : State) : Prop := ∃ v L, o = .returned v ∧ (Fr n0 L ∧ Q v t.heap) ∧ FrameEnd s o t L k n
/-- a body's contract -/
def Con (l : Launch) (Z : State) (y : MethodName) (bytes : ByteArray) (maxL : Nat) (ret : Option FieldType) (rm : Room) (as' : Array Value) (h : Heap) (n0 : Nat) (Q : Option Value → Heap → Prop) : Prop :=
  ∀ ws, MetFree l y (head1 (Jvm.Cond.code y bytes maxL ret :: ws) rm) (fun a U => a = as' ∧ Z.Warmed39 U.vm ∧ U.heap = h) (fun _ _ _ _ _ => True) (fun _ U o U' => ∃ v L, o = .returned v ∧ (Fr n0 L ∧ Q v U'.heap) ∧ FrameEnd U o U' L rm.cells rm.slots)
theorem con_of {l : Launch} {Z : State} {a0 : Array Value} {y : MethodName} {bytes : ByteArray} {maxL : Nat} {ret : Option FieldType} {rm : Room} {as' : Array Value} {h : Heap} {n0 : Nat} {Q : Option Value → Heap → Prop}
    (hw : ∀ d ∈ tables_1, d.before a0 Z = true) (hpl : plainFor y = true) (hn0 : Old Z n0 h)
    (body : ∀ p e s m below meth c T, Cx p s m meth c Z a0 y.cls bytes maxL ret y.name → St Z p l e rm s m as' below meth c n0 T h 0 0 → Go p e below (FinQ s rm.cells rm.slots n0 Q) (T.setTop (entryFrame m as' maxL))) :
    Con l Z y bytes maxL ret rm as' h n0 Q := by
  intro ws
  refine MetFree.of_bodySF hpl hisR ?_
  intro p e s m args below meth c s₁ Bd hml0 hP hK
  obtain ⟨rfl, hZ, hh⟩ := hP
  have e0 : s₁.heap = h := by rw [← hh, Bd.state]; rfl
  exact body p e s m below meth c s₁ ⟨Bd.exec, hZ, hw, findClass_of_methodNamed Bd.named, Bd.bytes, hml0, Bd.returns, Bd.notSynchronized, (name_of_methodNamed Bd.named Bd.method).1⟩ ⟨[], Stand.of_body Bd, Fr.nil n0, by rw [hh]; exact hn0, e0⟩
section Steps1
variable {p : Program} {l : Launch} {e : Env} {R : Room} {s : State} {m : MethodId} {args : Array Value} {below : List Frame} {meth : Method} {c : Code} {Z : State} {a0 : Array Value} {own : String} {bytes : ByteArray} {maxL : Nat} {ret : Option FieldType} {nm : String} {n0 : Nat} {T : State} {h : Heap} {k n : Nat} {Q : Outcome → State → Prop} {pc pc' pc2 : Nat} {Ls Ls' : Array Slot} {st : List Value}
theorem Cx.w (C : Cx p s m meth c Z a0 own bytes maxL ret nm) (i : Nat) {d : Jvm.Cond} (hd : tables_1[i]? = some d) : d.before a0 Z = true := C.2.2.1 _ (List.mem_of_getElem? hd)
theorem Cx.ws (C : Cx p s m meth c Z a0 own bytes maxL ret nm) : ∀ d ∈ tables_1, d.before a0 Z = true := C.2.2.1
theorem Cx.cd (C : Cx p s m meth c Z a0 own bytes maxL ret nm) {r : Except ClassFile.DecodeError (ClassFile.Instr × Nat)} (h2 : decode bytes pc = r) : decode c.code pc = r := hb C.2.2.2.2.1 h2
theorem Cx.ow (C : Cx p s m meth c Z a0 own bytes maxL ret nm) : s.vm.findClass own = some m.cls := C.2.2.2.1
theorem Cx.hZ (C : Cx p s m meth c Z a0 own bytes maxL ret nm) : Z.Warmed39 s.vm := C.2.1
theorem Cx.ml (C : Cx p s m meth c Z a0 own bytes maxL ret nm) : c.maxLocals = maxL := C.2.2.2.2.2.1
theorem Cx.rt (C : Cx p s m meth c Z a0 own bytes maxL ret nm) : meth.sig.returnType = ret := C.2.2.2.2.2.2.1
theorem Cx.lk (C : Cx p s m meth c Z a0 own bytes maxL ret nm) : meth.locks = false := C.2.2.2.2.2.2.2.1
theorem Cx.nmE (C : Cx p s m meth c Z a0 own bytes maxL ret nm) : meth.name = nm := C.2.2.2.2.2.2.2.2
theorem St.sz (X : St Z p l e R s m args below meth c n0 T h k n) : n0 ≤ h.size := by obtain ⟨_, Y, _, q, rfl⟩ := X; exact Nat.le_trans (Nat.le_trans (Nat.le_of_eq q.1.symm) q.2.1) Y.same.2.1
theorem St.old (X : St Z p l e R s m args below meth c n0 T h k n) : Old Z n0 h := by
  obtain ⟨locs, Y, N, o, rfl⟩ := X
  refine ⟨o.1, Nat.le_trans o.2.1 Y.same.2.1, fun a ce hc => ?_⟩
  obtain ⟨c', e1, e2, e3, e4⟩ := Y.same.2.2.2.2.2 a ce (o.2.2 a ce hc)
  have lt := (Array.getElem?_eq_some_iff.mp hc).1
  have hs : c'.slots = ce.slots := Array.ext_getElem? fun i => e4 i fun q => by have := N _ q; have := o.1; simp at *; omega
  rw [hs] at e2
  exact (show c' = ce from e2) ▸ e1
theorem St.more (X : St Z p l e R s m args below meth c n0 T h k n) {k' n' : Nat} (hk : k ≤ k') (hn : n ≤ n') : St Z p l e R s m args below meth c n0 T h k' n' := by
  obtain ⟨locs, Y, r⟩ := X
  exact ⟨locs, Y.more hk hn, r⟩

theorem go_iload (C : Cx p s m meth c Z a0 own bytes maxL ret nm) (X : St Z p l e R s m args below meth c n0 T h k n) {i : Nat} {v : Int32} (pc' : Nat) (hp : pc + 2 = pc') (hd : decode bytes pc = .ok (.iload i, 2)) (hl : Ls[i]? = some (.val (.int v))) (hr : Go p e below Q (T.setTop (mkF m pc' Ls (.int v :: st)))) : Go p e below Q (T.setTop (mkF m pc Ls st)) := by
  subst hp
  obtain ⟨locs, Y, -, -, -⟩ := X
  exact Go.back (fun t kt => Jvm.Free.XS.iload Y.here C.1 rfl (C.cd hd) hl kt) hr
theorem go_iloadN (C : Cx p s m meth c Z a0 own bytes maxL ret nm) (X : St Z p l e R s m args below meth c n0 T h k n) {i : Fin 4} {v : Int32} (pc' : Nat) (hp : pc + 1 = pc') (hd : decode bytes pc = .ok (.iload_n i, 1)) (hl : Ls[i.val]? = some (.val (.int v))) (hr : Go p e below Q (T.setTop (mkF m pc' Ls (.int v :: st)))) : Go p e below Q (T.setTop (mkF m pc Ls st)) := by
  subst hp
  obtain ⟨locs, Y, -, -, -⟩ := X
  exact Go.back (fun t kt => Jvm.Free.XS.iloadN Y.here C.1 rfl (C.cd hd) hl kt) hr
theorem go_istore (C : Cx p s m meth c Z a0 own bytes maxL ret nm) (X : St Z p l e R s m args below meth c n0 T h k n) {i : Nat} {v : Int32} (pc' : Nat) (hp : pc + 2 = pc') (hd : decode bytes pc = .ok (.istore i, 2)) (Ls' : Array Slot) (hl : storeLocals Ls i (.int v) = some Ls') (hr : Go p e below Q (T.setTop (mkF m pc' Ls' st))) : Go p e below Q (T.setTop (mkF m pc Ls (.int v :: st))) := by
  subst hp
  obtain ⟨locs, Y, -, -, -⟩ := X
  exact Go.back (fun t kt => Jvm.Free.XS.istore Y.here C.1 rfl (C.cd hd) rfl hl kt) hr
theorem go_istoreN (C : Cx p s m meth c Z a0 own bytes maxL ret nm) (X : St Z p l e R s m args below meth c n0 T h k n) {i : Fin 4} {v : Int32} (pc' : Nat) (hp : pc + 1 = pc') (hd : decode bytes pc = .ok (.istore_n i, 1)) (Ls' : Array Slot) (hl : storeLocals Ls i.val (.int v) = some Ls') (hr : Go p e below Q (T.setTop (mkF m pc' Ls' st))) : Go p e below Q (T.setTop (mkF m pc Ls (.int v :: st))) := by
  subst hp
  obtain ⟨locs, Y, -, -, -⟩ := X
  exact Go.back (fun t kt => Jvm.Free.XS.istoreN Y.here C.1 rfl (C.cd hd) rfl hl kt) hr
theorem go_lload (C : Cx p s m meth c Z a0 own bytes maxL ret nm) (X : St Z p l e R s m args below meth c n0 T h k n) {i : Nat} {v : Int64} (pc' : Nat) (hp : pc + 2 = pc') (hd : decode bytes pc = .ok (.lload i, 2)) (hl : Ls[i]? = some (.val (.long v))) (hr : Go p e below Q (T.setTop (mkF m pc' Ls (.long v :: st)))) : Go p e below Q (T.setTop (mkF m pc Ls st)) := by
  subst hp
  obtain ⟨locs, Y, -, -, -⟩ := X
  exact Go.back (fun t kt => Jvm.Free.XS.lload Y.here C.1 rfl (C.cd hd) hl kt) hr
theorem go_lloadN (C : Cx p s m meth c Z a0 own bytes maxL ret nm) (X : St Z p l e R s m args below meth c n0 T h k n) {i : Fin 4} {v : Int64} (pc' : Nat) (hp : pc + 1 = pc') (hd : decode bytes pc = .ok (.lload_n i, 1)) (hl : Ls[i.val]? = some (.val (.long v))) (hr : Go p e below Q (T.setTop (mkF m pc' Ls (.long v :: st)))) : Go p e below Q (T.setTop (mkF m pc Ls st)) := by
  subst hp
  obtain ⟨locs, Y, -, -, -⟩ := X
  exact Go.back (fun t kt => Jvm.Free.XS.lloadN Y.here C.1 rfl (C.cd hd) hl kt) hr
theorem go_lstore (C : Cx p s m meth c Z a0 own bytes maxL ret nm) (X : St Z p l e R s m args below meth c n0 T h k n) {i : Nat} {v : Int64} (pc' : Nat) (hp : pc + 2 = pc') (hd : decode bytes pc = .ok (.lstore i, 2)) (Ls' : Array Slot) (hl : storeLocals Ls i (.long v) = some Ls') (hr : Go p e below Q (T.setTop (mkF m pc' Ls' st))) : Go p e below Q (T.setTop (mkF m pc Ls (.long v :: st))) := by
  subst hp
  obtain ⟨locs, Y, -, -, -⟩ := X
  exact Go.back (fun t kt => Jvm.Free.XS.lstore Y.here C.1 rfl (C.cd hd) rfl hl kt) hr
theorem go_lstoreN (C : Cx p s m meth c Z a0 own bytes maxL ret nm) (X : St Z p l e R s m args below meth c n0 T h k n) {i : Fin 4} {v : Int64} (pc' : Nat) (hp : pc + 1 = pc') (hd : decode bytes pc = .ok (.lstore_n i, 1)) (Ls' : Array Slot) (hl : storeLocals Ls i.val (.long v) = some Ls') (hr : Go p e below Q (T.setTop (mkF m pc' Ls' st))) : Go p e below Q (T.setTop (mkF m pc Ls (.long v :: st))) := by
  subst hp
  obtain ⟨locs, Y, -, -, -⟩ := X
  exact Go.back (fun t kt => Jvm.Free.XS.lstoreN Y.here C.1 rfl (C.cd hd) rfl hl kt) hr
theorem go_aload (C : Cx p s m meth c Z a0 own bytes maxL ret nm) (X : St Z p l e R s m args below meth c n0 T h k n) {i : Nat} {v : Value} (pc' : Nat) (hp : pc + 2 = pc') (hd : decode bytes pc = .ok (.aload i, 2)) (hl : Ls[i]? = some (.val v)) (hv : v.isRef = true) (hr : Go p e below Q (T.setTop (mkF m pc' Ls (v :: st)))) : Go p e below Q (T.setTop (mkF m pc Ls st)) := by
  subst hp
  obtain ⟨locs, Y, -, -, -⟩ := X
  exact Go.back (fun t kt => Jvm.Free.XS.aload Y.here C.1 rfl (C.cd hd) hl hv kt) hr
theorem go_aloadN (C : Cx p s m meth c Z a0 own bytes maxL ret nm) (X : St Z p l e R s m args below meth c n0 T h k n) {i : Fin 4} {v : Value} (pc' : Nat) (hp : pc + 1 = pc') (hd : decode bytes pc = .ok (.aload_n i, 1)) (hl : Ls[i.val]? = some (.val v)) (hv : v.isRef = true) (hr : Go p e below Q (T.setTop (mkF m pc' Ls (v :: st)))) : Go p e below Q (T.setTop (mkF m pc Ls st)) := by
  subst hp
  obtain ⟨locs, Y, -, -, -⟩ := X
  exact Go.back (fun t kt => Jvm.Free.XS.aloadN Y.here C.1 rfl (C.cd hd) hl hv kt) hr
theorem go_astore (C : Cx p s m meth c Z a0 own bytes maxL ret nm) (X : St Z p l e R s m args below meth c n0 T h k n) {i : Nat} {v : Value} (pc' : Nat) (hp : pc + 2 = pc') (hd : decode bytes pc = .ok (.astore i, 2)) (hv : v.isRef = true) (Ls' : Array Slot) (hl : storeLocals Ls i v = some Ls') (hr : Go p e below Q (T.setTop (mkF m pc' Ls' st))) : Go p e below Q (T.setTop (mkF m pc Ls (v :: st))) := by
  subst hp
  obtain ⟨locs, Y, -, -, -⟩ := X
  exact Go.back (fun t kt => Jvm.Free.XS.astore Y.here C.1 rfl (C.cd hd) rfl hv hl kt) hr
theorem go_astoreN (C : Cx p s m meth c Z a0 own bytes maxL ret nm) (X : St Z p l e R s m args below meth c n0 T h k n) {i : Fin 4} {v : Value} (pc' : Nat) (hp : pc + 1 = pc') (hd : decode bytes pc = .ok (.astore_n i, 1)) (hv : v.isRef = true) (Ls' : Array Slot) (hl : storeLocals Ls i.val v = some Ls') (hr : Go p e below Q (T.setTop (mkF m pc' Ls' st))) : Go p e below Q (T.setTop (mkF m pc Ls (v :: st))) := by
  subst hp
  obtain ⟨locs, Y, -, -, -⟩ := X
  exact Go.back (fun t kt => Jvm.Free.XS.astoreN Y.here C.1 rfl (C.cd hd) rfl hv hl kt) hr
theorem go_iconst (C : Cx p s m meth c Z a0 own bytes maxL ret nm) (X : St Z p l e R s m args below meth c n0 T h k n) {i : Int} {z : Int32} (pc' : Nat) (hp : pc + 1 = pc') (hd : decode bytes pc = .ok (.iconst i, 1)) (hz : Int32.ofInt i = z) (hr : Go p e below Q (T.setTop (mkF m pc' Ls (.int z :: st)))) : Go p e below Q (T.setTop (mkF m pc Ls st)) := by
  subst hp
  obtain ⟨locs, Y, -, -, -⟩ := X
  exact Go.back (fun t kt => by subst hz; exact Jvm.Free.XS.iconst Y.here C.1 rfl (C.cd hd) kt) hr
theorem go_bipush (C : Cx p s m meth c Z a0 own bytes maxL ret nm) (X : St Z p l e R s m args below meth c n0 T h k n) {i : Int} {z : Int32} (pc' : Nat) (hp : pc + 2 = pc') (hd : decode bytes pc = .ok (.bipush i, 2)) (hz : (Int8.ofInt i).toInt32 = z) (hr : Go p e below Q (T.setTop (mkF m pc' Ls (.int z :: st)))) : Go p e below Q (T.setTop (mkF m pc Ls st)) := by
  subst hp
  obtain ⟨locs, Y, -, -, -⟩ := X
  exact Go.back (fun t kt => by subst hz; exact Jvm.Free.XS.bipush Y.here C.1 rfl (C.cd hd) kt) hr
theorem go_sipush (C : Cx p s m meth c Z a0 own bytes maxL ret nm) (X : St Z p l e R s m args below meth c n0 T h k n) {i : Int} {z : Int32} (pc' : Nat) (hp : pc + 3 = pc') (hd : decode bytes pc = .ok (.sipush i, 3)) (hz : (Int16.ofInt i).toInt32 = z) (hr : Go p e below Q (T.setTop (mkF m pc' Ls (.int z :: st)))) : Go p e below Q (T.setTop (mkF m pc Ls st)) := by
  subst hp
  obtain ⟨locs, Y, -, -, -⟩ := X
  exact Go.back (fun t kt => by subst hz; exact Jvm.Free.XS.sipush Y.here C.1 rfl (C.cd hd) kt) hr
theorem go_lconst (C : Cx p s m meth c Z a0 own bytes maxL ret nm) (X : St Z p l e R s m args below meth c n0 T h k n) {i : Fin 2} {z : Int64} (pc' : Nat) (hp : pc + 1 = pc') (hd : decode bytes pc = .ok (.lconst i, 1)) (hz : Int64.ofNat i = z) (hr : Go p e below Q (T.setTop (mkF m pc' Ls (.long z :: st)))) : Go p e below Q (T.setTop (mkF m pc Ls st)) := by
  subst hp
  obtain ⟨locs, Y, -, -, -⟩ := X
  exact Go.back (fun t kt => by subst hz; exact Jvm.Free.XS.lconst Y.here C.1 rfl (C.cd hd) kt) hr
theorem go_aconstNull (C : Cx p s m meth c Z a0 own bytes maxL ret nm) (X : St Z p l e R s m args below meth c n0 T h k n)  (pc' : Nat) (hp : pc + 1 = pc') (hd : decode bytes pc = .ok (.aconst_null, 1)) (hr : Go p e below Q (T.setTop (mkF m pc' Ls (.null :: st)))) : Go p e below Q (T.setTop (mkF m pc Ls st)) := by
  subst hp
  obtain ⟨locs, Y, -, -, -⟩ := X
  exact Go.back (fun t kt => Jvm.Free.XS.aconstNull Y.here C.1 rfl (C.cd hd) kt) hr
theorem go_iaddL (C : Cx p s m meth c Z a0 own bytes maxL ret nm) (X : St Z p l e R s m args below meth c n0 T h k n) {x y z : Int32} (pc' : Nat) (hp : pc + 1 = pc') (hd : decode bytes pc = .ok (.iadd, 1)) (hz : x + y = z) (hr : Go p e below Q (T.setTop (mkF m pc' Ls (.int z :: st)))) : Go p e below Q (T.setTop (mkF m pc Ls (.int y :: .int x :: st))) := by
  subst hp
  obtain ⟨locs, Y, -, -, -⟩ := X
  exact Go.back (fun t kt => by subst hz; exact Jvm.Free.XS.iadd Y.here C.1 rfl (C.cd hd) rfl kt) hr
theorem go_iadd (C : Cx p s m meth c Z a0 own bytes maxL ret nm) (X : St Z p l e R s m args below meth c n0 T h k n) {x y : Int32} (pc' : Nat) (hp : pc + 1 = pc') (hd : decode bytes pc = .ok (.iadd, 1)) (hr : Go p e below Q (T.setTop (mkF m pc' Ls (.int (x + y) :: st)))) : Go p e below Q (T.setTop (mkF m pc Ls (.int y :: .int x :: st))) := by
  subst hp
  obtain ⟨locs, Y, -, -, -⟩ := X
  exact Go.back (fun t kt => Jvm.Free.XS.iadd Y.here C.1 rfl (C.cd hd) rfl kt) hr
theorem go_isubL (C : Cx p s m meth c Z a0 own bytes maxL ret nm) (X : St Z p l e R s m args below meth c n0 T h k n) {x y z : Int32} (pc' : Nat) (hp : pc + 1 = pc') (hd : decode bytes pc = .ok (.isub, 1)) (hz : x - y = z) (hr : Go p e below Q (T.setTop (mkF m pc' Ls (.int z :: st)))) : Go p e below Q (T.setTop (mkF m pc Ls (.int y :: .int x :: st))) := by
  subst hp
  obtain ⟨locs, Y, -, -, -⟩ := X
  exact Go.back (fun t kt => by subst hz; exact Jvm.Free.XS.isub Y.here C.1 rfl (C.cd hd) rfl kt) hr
theorem go_isub (C : Cx p s m meth c Z a0 own bytes maxL ret nm) (X : St Z p l e R s m args below meth c n0 T h k n) {x y : Int32} (pc' : Nat) (hp : pc + 1 = pc') (hd : decode bytes pc = .ok (.isub, 1)) (hr : Go p e below Q (T.setTop (mkF m pc' Ls (.int (x - y) :: st)))) : Go p e below Q (T.setTop (mkF m pc Ls (.int y :: .int x :: st))) := by
  subst hp
  obtain ⟨locs, Y, -, -, -⟩ := X
  exact Go.back (fun t kt => Jvm.Free.XS.isub Y.here C.1 rfl (C.cd hd) rfl kt) hr
theorem go_imulL (C : Cx p s m meth c Z a0 own bytes maxL ret nm) (X : St Z p l e R s m args below meth c n0 T h k n) {x y z : Int32} (pc' : Nat) (hp : pc + 1 = pc') (hd : decode bytes pc = .ok (.imul, 1)) (hz : x * y = z) (hr : Go p e below Q (T.setTop (mkF m pc' Ls (.int z :: st)))) : Go p e below Q (T.setTop (mkF m pc Ls (.int y :: .int x :: st))) := by
  subst hp
  obtain ⟨locs, Y, -, -, -⟩ := X
  exact Go.back (fun t kt => by subst hz; exact Jvm.Free.XS.imul Y.here C.1 rfl (C.cd hd) rfl kt) hr
theorem go_imul (C : Cx p s m meth c Z a0 own bytes maxL ret nm) (X : St Z p l e R s m args below meth c n0 T h k n) {x y : Int32} (pc' : Nat) (hp : pc + 1 = pc') (hd : decode bytes pc = .ok (.imul, 1)) (hr : Go p e below Q (T.setTop (mkF m pc' Ls (.int (x * y) :: st)))) : Go p e below Q (T.setTop (mkF m pc Ls (.int y :: .int x :: st))) := by
  subst hp
  obtain ⟨locs, Y, -, -, -⟩ := X
  exact Go.back (fun t kt => Jvm.Free.XS.imul Y.here C.1 rfl (C.cd hd) rfl kt) hr
theorem go_iandL (C : Cx p s m meth c Z a0 own bytes maxL ret nm) (X : St Z p l e R s m args below meth c n0 T h k n) {x y z : Int32} (pc' : Nat) (hp : pc + 1 = pc') (hd : decode bytes pc = .ok (.iand, 1)) (hz : x &&& y = z) (hr : Go p e below Q (T.setTop (mkF m pc' Ls (.int z :: st)))) : Go p e below Q (T.setTop (mkF m pc Ls (.int y :: .int x :: st))) := by
  subst hp
  obtain ⟨locs, Y, -, -, -⟩ := X
  exact Go.back (fun t kt => by subst hz; exact Jvm.Free.XS.iand Y.here C.1 rfl (C.cd hd) rfl kt) hr
theorem go_iand (C : Cx p s m meth c Z a0 own bytes maxL ret nm) (X : St Z p l e R s m args below meth c n0 T h k n) {x y : Int32} (pc' : Nat) (hp : pc + 1 = pc') (hd : decode bytes pc = .ok (.iand, 1)) (hr : Go p e below Q (T.setTop (mkF m pc' Ls (.int (x &&& y) :: st)))) : Go p e below Q (T.setTop (mkF m pc Ls (.int y :: .int x :: st))) := by
  subst hp
  obtain ⟨locs, Y, -, -, -⟩ := X
  exact Go.back (fun t kt => Jvm.Free.XS.iand Y.here C.1 rfl (C.cd hd) rfl kt) hr
theorem go_iorL (C : Cx p s m meth c Z a0 own bytes maxL ret nm) (X : St Z p l e R s m args below meth c n0 T h k n) {x y z : Int32} (pc' : Nat) (hp : pc + 1 = pc') (hd : decode bytes pc = .ok (.ior, 1)) (hz : x ||| y = z) (hr : Go p e below Q (T.setTop (mkF m pc' Ls (.int z :: st)))) : Go p e below Q (T.setTop (mkF m pc Ls (.int y :: .int x :: st))) := by
  subst hp
  obtain ⟨locs, Y, -, -, -⟩ := X
  exact Go.back (fun t kt => by subst hz; exact Jvm.Free.XS.ior Y.here C.1 rfl (C.cd hd) rfl kt) hr
theorem go_ior (C : Cx p s m meth c Z a0 own bytes maxL ret nm) (X : St Z p l e R s m args below meth c n0 T h k n) {x y : Int32} (pc' : Nat) (hp : pc + 1 = pc') (hd : decode bytes pc = .ok (.ior, 1)) (hr : Go p e below Q (T.setTop (mkF m pc' Ls (.int (x ||| y) :: st)))) : Go p e below Q (T.setTop (mkF m pc Ls (.int y :: .int x :: st))) := by
  subst hp
  obtain ⟨locs, Y, -, -, -⟩ := X
  exact Go.back (fun t kt => Jvm.Free.XS.ior Y.here C.1 rfl (C.cd hd) rfl kt) hr
theorem go_ixorL (C : Cx p s m meth c Z a0 own bytes maxL ret nm) (X : St Z p l e R s m args below meth c n0 T h k n) {x y z : Int32} (pc' : Nat) (hp : pc + 1 = pc') (hd : decode bytes pc = .ok (.ixor, 1)) (hz : x ^^^ y = z) (hr : Go p e below Q (T.setTop (mkF m pc' Ls (.int z :: st)))) : Go p e below Q (T.setTop (mkF m pc Ls (.int y :: .int x :: st))) := by
  subst hp
  obtain ⟨locs, Y, -, -, -⟩ := X
  exact Go.back (fun t kt => by subst hz; exact Jvm.Free.XS.ixor Y.here C.1 rfl (C.cd hd) rfl kt) hr
theorem go_ixor (C : Cx p s m meth c Z a0 own bytes maxL ret nm) (X : St Z p l e R s m args below meth c n0 T h k n) {x y : Int32} (pc' : Nat) (hp : pc + 1 = pc') (hd : decode bytes pc = .ok (.ixor, 1)) (hr : Go p e below Q (T.setTop (mkF m pc' Ls (.int (x ^^^ y) :: st)))) : Go p e below Q (T.setTop (mkF m pc Ls (.int y :: .int x :: st))) := by
  subst hp
  obtain ⟨locs, Y, -, -, -⟩ := X
  exact Go.back (fun t kt => Jvm.Free.XS.ixor Y.here C.1 rfl (C.cd hd) rfl kt) hr
theorem go_idiv (C : Cx p s m meth c Z a0 own bytes maxL ret nm) (X : St Z p l e R s m args below meth c n0 T h k n) {x y : Int32} (pc' : Nat) (hp : pc + 1 = pc') (hd : decode bytes pc = .ok (.idiv, 1)) (hy : y ≠ 0) (hr : Go p e below Q (T.setTop (mkF m pc' Ls (.int (x / y) :: st)))) : Go p e below Q (T.setTop (mkF m pc Ls (.int y :: .int x :: st))) := by
  subst hp
  obtain ⟨locs, Y, -, -, -⟩ := X
  exact Go.back (fun t kt => Jvm.Free.XS.idiv Y.here C.1 rfl (C.cd hd) rfl hy kt) hr
theorem go_ineg (C : Cx p s m meth c Z a0 own bytes maxL ret nm) (X : St Z p l e R s m args below meth c n0 T h k n) {x : Int32} (pc' : Nat) (hp : pc + 1 = pc') (hd : decode bytes pc = .ok (.ineg, 1)) (hr : Go p e below Q (T.setTop (mkF m pc' Ls (.int (-x) :: st)))) : Go p e below Q (T.setTop (mkF m pc Ls (.int x :: st))) := by
  subst hp
  obtain ⟨locs, Y, -, -, -⟩ := X
  exact Go.back (fun t kt => Jvm.Free.XS.ineg Y.here C.1 rfl (C.cd hd) rfl kt) hr
theorem go_laddL (C : Cx p s m meth c Z a0 own bytes maxL ret nm) (X : St Z p l e R s m args below meth c n0 T h k n) {x y z : Int64} (pc' : Nat) (hp : pc + 1 = pc') (hd : decode bytes pc = .ok (.ladd, 1)) (hz : x + y = z) (hr : Go p e below Q (T.setTop (mkF m pc' Ls (.long z :: st)))) : Go p e below Q (T.setTop (mkF m pc Ls (.long y :: .long x :: st))) := by
  subst hp
  obtain ⟨locs, Y, -, -, -⟩ := X
  exact Go.back (fun t kt => by subst hz; exact Jvm.Free.XS.ladd Y.here C.1 rfl (C.cd hd) rfl kt) hr
theorem go_ladd (C : Cx p s m meth c Z a0 own bytes maxL ret nm) (X : St Z p l e R s m args below meth c n0 T h k n) {x y : Int64} (pc' : Nat) (hp : pc + 1 = pc') (hd : decode bytes pc = .ok (.ladd, 1)) (hr : Go p e below Q (T.setTop (mkF m pc' Ls (.long (x + y) :: st)))) : Go p e below Q (T.setTop (mkF m pc Ls (.long y :: .long x :: st))) := by
  subst hp
  obtain ⟨locs, Y, -, -, -⟩ := X
  exact Go.back (fun t kt => Jvm.Free.XS.ladd Y.here C.1 rfl (C.cd hd) rfl kt) hr
theorem go_lsubL (C : Cx p s m meth c Z a0 own bytes maxL ret nm) (X : St Z p l e R s m args below meth c n0 T h k n) {x y z : Int64} (pc' : Nat) (hp : pc + 1 = pc') (hd : decode bytes pc = .ok (.lsub, 1)) (hz : x - y = z) (hr : Go p e below Q (T.setTop (mkF m pc' Ls (.long z :: st)))) : Go p e below Q (T.setTop (mkF m pc Ls (.long y :: .long x :: st))) := by
  subst hp
  obtain ⟨locs, Y, -, -, -⟩ := X
  exact Go.back (fun t kt => by subst hz; exact Jvm.Free.XS.lsub Y.here C.1 rfl (C.cd hd) rfl kt) hr
theorem go_lsub (C : Cx p s m meth c Z a0 own bytes maxL ret nm) (X : St Z p l e R s m args below meth c n0 T h k n) {x y : Int64} (pc' : Nat) (hp : pc + 1 = pc') (hd : decode bytes pc = .ok (.lsub, 1)) (hr : Go p e below Q (T.setTop (mkF m pc' Ls (.long (x - y) :: st)))) : Go p e below Q (T.setTop (mkF m pc Ls (.long y :: .long x :: st))) := by
  subst hp
  obtain ⟨locs, Y, -, -, -⟩ := X
  exact Go.back (fun t kt => Jvm.Free.XS.lsub Y.here C.1 rfl (C.cd hd) rfl kt) hr
theorem go_lmulL (C : Cx p s m meth c Z a0 own bytes maxL ret nm) (X : St Z p l e R s m args below meth c n0 T h k n) {x y z : Int64} (pc' : Nat) (hp : pc + 1 = pc') (hd : decode bytes pc = .ok (.lmul, 1)) (hz : x * y = z) (hr : Go p e below Q (T.setTop (mkF m pc' Ls (.long z :: st)))) : Go p e below Q (T.setTop (mkF m pc Ls (.long y :: .long x :: st))) := by
  subst hp
  obtain ⟨locs, Y, -, -, -⟩ := X
  exact Go.back (fun t kt => by subst hz; exact Jvm.Free.XS.lmul Y.here C.1 rfl (C.cd hd) rfl kt) hr
theorem go_lmul (C : Cx p s m meth c Z a0 own bytes maxL ret nm) (X : St Z p l e R s m args below meth c n0 T h k n) {x y : Int64} (pc' : Nat) (hp : pc + 1 = pc') (hd : decode bytes pc = .ok (.lmul, 1)) (hr : Go p e below Q (T.setTop (mkF m pc' Ls (.long (x * y) :: st)))) : Go p e below Q (T.setTop (mkF m pc Ls (.long y :: .long x :: st))) := by
  subst hp
  obtain ⟨locs, Y, -, -, -⟩ := X
  exact Go.back (fun t kt => Jvm.Free.XS.lmul Y.here C.1 rfl (C.cd hd) rfl kt) hr
theorem go_landL (C : Cx p s m meth c Z a0 own bytes maxL ret nm) (X : St Z p l e R s m args below meth c n0 T h k n) {x y z : Int64} (pc' : Nat) (hp : pc + 1 = pc') (hd : decode bytes pc = .ok (.land, 1)) (hz : x &&& y = z) (hr : Go p e below Q (T.setTop (mkF m pc' Ls (.long z :: st)))) : Go p e below Q (T.setTop (mkF m pc Ls (.long y :: .long x :: st))) := by
  subst hp
  obtain ⟨locs, Y, -, -, -⟩ := X
  exact Go.back (fun t kt => by subst hz; exact Jvm.Free.XS.land Y.here C.1 rfl (C.cd hd) rfl kt) hr
theorem go_land (C : Cx p s m meth c Z a0 own bytes maxL ret nm) (X : St Z p l e R s m args below meth c n0 T h k n) {x y : Int64} (pc' : Nat) (hp : pc + 1 = pc') (hd : decode bytes pc = .ok (.land, 1)) (hr : Go p e below Q (T.setTop (mkF m pc' Ls (.long (x &&& y) :: st)))) : Go p e below Q (T.setTop (mkF m pc Ls (.long y :: .long x :: st))) := by
  subst hp
  obtain ⟨locs, Y, -, -, -⟩ := X
  exact Go.back (fun t kt => Jvm.Free.XS.land Y.here C.1 rfl (C.cd hd) rfl kt) hr
theorem go_lorL (C : Cx p s m meth c Z a0 own bytes maxL ret nm) (X : St Z p l e R s m args below meth c n0 T h k n) {x y z : Int64} (pc' : Nat) (hp : pc + 1 = pc') (hd : decode bytes pc = .ok (.lor, 1)) (hz : x ||| y = z) (hr : Go p e below Q (T.setTop (mkF m pc' Ls (.long z :: st)))) : Go p e below Q (T.setTop (mkF m pc Ls (.long y :: .long x :: st))) := by
  subst hp
  obtain ⟨locs, Y, -, -, -⟩ := X
  exact Go.back (fun t kt => by subst hz; exact Jvm.Free.XS.lor Y.here C.1 rfl (C.cd hd) rfl kt) hr
theorem go_lor (C : Cx p s m meth c Z a0 own bytes maxL ret nm) (X : St Z p l e R s m args below meth c n0 T h k n) {x y : Int64} (pc' : Nat) (hp : pc + 1 = pc') (hd : decode bytes pc = .ok (.lor, 1)) (hr : Go p e below Q (T.setTop (mkF m pc' Ls (.long (x ||| y) :: st)))) : Go p e below Q (T.setTop (mkF m pc Ls (.long y :: .long x :: st))) := by
  subst hp
  obtain ⟨locs, Y, -, -, -⟩ := X
  exact Go.back (fun t kt => Jvm.Free.XS.lor Y.here C.1 rfl (C.cd hd) rfl kt) hr
theorem go_lxorL (C : Cx p s m meth c Z a0 own bytes maxL ret nm) (X : St Z p l e R s m args below meth c n0 T h k n) {x y z : Int64} (pc' : Nat) (hp : pc + 1 = pc') (hd : decode bytes pc = .ok (.lxor, 1)) (hz : x ^^^ y = z) (hr : Go p e below Q (T.setTop (mkF m pc' Ls (.long z :: st)))) : Go p e below Q (T.setTop (mkF m pc Ls (.long y :: .long x :: st))) := by
  subst hp
  obtain ⟨locs, Y, -, -, -⟩ := X
  exact Go.back (fun t kt => by subst hz; exact Jvm.Free.XS.lxor Y.here C.1 rfl (C.cd hd) rfl kt) hr
theorem go_lxor (C : Cx p s m meth c Z a0 own bytes maxL ret nm) (X : St Z p l e R s m args below meth c n0 T h k n) {x y : Int64} (pc' : Nat) (hp : pc + 1 = pc') (hd : decode bytes pc = .ok (.lxor, 1)) (hr : Go p e below Q (T.setTop (mkF m pc' Ls (.long (x ^^^ y) :: st)))) : Go p e below Q (T.setTop (mkF m pc Ls (.long y :: .long x :: st))) := by
  subst hp
  obtain ⟨locs, Y, -, -, -⟩ := X
  exact Go.back (fun t kt => Jvm.Free.XS.lxor Y.here C.1 rfl (C.cd hd) rfl kt) hr
theorem go_ldiv (C : Cx p s m meth c Z a0 own bytes maxL ret nm) (X : St Z p l e R s m args below meth c n0 T h k n) {x y : Int64} (pc' : Nat) (hp : pc + 1 = pc') (hd : decode bytes pc = .ok (.ldiv, 1)) (hy : y ≠ 0) (hr : Go p e below Q (T.setTop (mkF m pc' Ls (.long (x / y) :: st)))) : Go p e below Q (T.setTop (mkF m pc Ls (.long y :: .long x :: st))) := by
  subst hp
  obtain ⟨locs, Y, -, -, -⟩ := X
  exact Go.back (fun t kt => Jvm.Free.XS.ldiv Y.here C.1 rfl (C.cd hd) rfl hy kt) hr
theorem go_lneg (C : Cx p s m meth c Z a0 own bytes maxL ret nm) (X : St Z p l e R s m args below meth c n0 T h k n) {x : Int64} (pc' : Nat) (hp : pc + 1 = pc') (hd : decode bytes pc = .ok (.lneg, 1)) (hr : Go p e below Q (T.setTop (mkF m pc' Ls (.long (-x) :: st)))) : Go p e below Q (T.setTop (mkF m pc Ls (.long x :: st))) := by
  subst hp
  obtain ⟨locs, Y, -, -, -⟩ := X
  exact Go.back (fun t kt => Jvm.Free.XS.lneg Y.here C.1 rfl (C.cd hd) rfl kt) hr
theorem go_irem (C : Cx p s m meth c Z a0 own bytes maxL ret nm) (X : St Z p l e R s m args below meth c n0 T h k n) {x y : Int32} (pc' : Nat) (hp : pc + 1 = pc') (hd : decode bytes pc = .ok (.irem, 1)) (hy : y ≠ 0) (hr : Go p e below Q (T.setTop (mkF m pc' Ls (.int (x % y) :: st)))) : Go p e below Q (T.setTop (mkF m pc Ls (.int y :: .int x :: st))) := by
  subst hp
  obtain ⟨locs, Y, -, -, -⟩ := X
  exact Go.back (fun t kt => iremM Y C.1 rfl (C.cd hd) rfl hy kt) hr
theorem go_lrem (C : Cx p s m meth c Z a0 own bytes maxL ret nm) (X : St Z p l e R s m args below meth c n0 T h k n) {x y : Int64} (pc' : Nat) (hp : pc + 1 = pc') (hd : decode bytes pc = .ok (.lrem, 1)) (hy : y ≠ 0) (hr : Go p e below Q (T.setTop (mkF m pc' Ls (.long (x % y) :: st)))) : Go p e below Q (T.setTop (mkF m pc Ls (.long y :: .long x :: st))) := by
  subst hp
  obtain ⟨locs, Y, -, -, -⟩ := X
  exact Go.back (fun t kt => by rw [← lrem_mod] at kt; exact Jvm.Free.XS.lrem Y.here C.1 rfl (C.cd hd) rfl hy kt) hr
theorem go_i2l (C : Cx p s m meth c Z a0 own bytes maxL ret nm) (X : St Z p l e R s m args below meth c n0 T h k n) {x : Int32} (pc' : Nat) (hp : pc + 1 = pc') (hd : decode bytes pc = .ok (.i2l, 1)) (hr : Go p e below Q (T.setTop (mkF m pc' Ls (.long (x.toInt64) :: st)))) : Go p e below Q (T.setTop (mkF m pc Ls (.int x :: st))) := by
  subst hp
  obtain ⟨locs, Y, -, -, -⟩ := X
  exact Go.back (fun t kt => Jvm.Free.XS.i2l Y.here C.1 rfl (C.cd hd) rfl kt) hr
theorem go_l2i (C : Cx p s m meth c Z a0 own bytes maxL ret nm) (X : St Z p l e R s m args below meth c n0 T h k n) {x : Int64} (pc' : Nat) (hp : pc + 1 = pc') (hd : decode bytes pc = .ok (.l2i, 1)) (hr : Go p e below Q (T.setTop (mkF m pc' Ls (.int (x.toInt32) :: st)))) : Go p e below Q (T.setTop (mkF m pc Ls (.long x :: st))) := by
  subst hp
  obtain ⟨locs, Y, -, -, -⟩ := X
  exact Go.back (fun t kt => Jvm.Free.XS.l2i Y.here C.1 rfl (C.cd hd) rfl kt) hr
theorem go_i2b (C : Cx p s m meth c Z a0 own bytes maxL ret nm) (X : St Z p l e R s m args below meth c n0 T h k n) {x : Int32} (pc' : Nat) (hp : pc + 1 = pc') (hd : decode bytes pc = .ok (.i2b, 1)) (hr : Go p e below Q (T.setTop (mkF m pc' Ls (.int (x.toInt8.toInt32) :: st)))) : Go p e below Q (T.setTop (mkF m pc Ls (.int x :: st))) := by
  subst hp
  obtain ⟨locs, Y, -, -, -⟩ := X
  exact Go.back (fun t kt => Jvm.Free.XS.i2b Y.here C.1 rfl (C.cd hd) rfl kt) hr
theorem go_i2s (C : Cx p s m meth c Z a0 own bytes maxL ret nm) (X : St Z p l e R s m args below meth c n0 T h k n) {x : Int32} (pc' : Nat) (hp : pc + 1 = pc') (hd : decode bytes pc = .ok (.i2s, 1)) (hr : Go p e below Q (T.setTop (mkF m pc' Ls (.int (x.toInt16.toInt32) :: st)))) : Go p e below Q (T.setTop (mkF m pc Ls (.int x :: st))) := by
  subst hp
  obtain ⟨locs, Y, -, -, -⟩ := X
  exact Go.back (fun t kt => Jvm.Free.XS.i2s Y.here C.1 rfl (C.cd hd) rfl kt) hr
theorem go_i2c (C : Cx p s m meth c Z a0 own bytes maxL ret nm) (X : St Z p l e R s m args below meth c n0 T h k n) {x : Int32} (pc' : Nat) (hp : pc + 1 = pc') (hd : decode bytes pc = .ok (.i2c, 1)) (hr : Go p e below Q (T.setTop (mkF m pc' Ls (.int (x.toUInt32.toUInt16.toUInt32.toInt32) :: st)))) : Go p e below Q (T.setTop (mkF m pc Ls (.int x :: st))) := by
  subst hp
  obtain ⟨locs, Y, -, -, -⟩ := X
  exact Go.back (fun t kt => Jvm.Free.XS.i2c Y.here C.1 rfl (C.cd hd) rfl kt) hr
theorem go_ishl (C : Cx p s m meth c Z a0 own bytes maxL ret nm) (X : St Z p l e R s m args below meth c n0 T h k n) {x : Int32} {y : Int32} (pc' : Nat) (hp : pc + 1 = pc') (hd : decode bytes pc = .ok (.ishl, 1)) (hr : Go p e below Q (T.setTop (mkF m pc' Ls (.int (x <<< (y &&& 31)) :: st)))) : Go p e below Q (T.setTop (mkF m pc Ls (.int y :: .int x :: st))) := by
  subst hp
  obtain ⟨locs, Y, -, -, -⟩ := X
  exact Go.back (fun t kt => Jvm.Free.XS.ishl Y.here C.1 rfl (C.cd hd) rfl kt) hr
theorem go_ishr (C : Cx p s m meth c Z a0 own bytes maxL ret nm) (X : St Z p l e R s m args below meth c n0 T h k n) {x : Int32} {y : Int32} (pc' : Nat) (hp : pc + 1 = pc') (hd : decode bytes pc = .ok (.ishr, 1)) (hr : Go p e below Q (T.setTop (mkF m pc' Ls (.int (x >>> (y &&& 31)) :: st)))) : Go p e below Q (T.setTop (mkF m pc Ls (.int y :: .int x :: st))) := by
  subst hp
  obtain ⟨locs, Y, -, -, -⟩ := X
  exact Go.back (fun t kt => Jvm.Free.XS.ishr Y.here C.1 rfl (C.cd hd) rfl kt) hr
theorem go_iushr (C : Cx p s m meth c Z a0 own bytes maxL ret nm) (X : St Z p l e R s m args below meth c n0 T h k n) {x : Int32} {y : Int32} (pc' : Nat) (hp : pc + 1 = pc') (hd : decode bytes pc = .ok (.iushr, 1)) (hr : Go p e below Q (T.setTop (mkF m pc' Ls (.int ((x.toUInt32 >>> (y &&& 31).toUInt32).toInt32) :: st)))) : Go p e below Q (T.setTop (mkF m pc Ls (.int y :: .int x :: st))) := by
  subst hp
  obtain ⟨locs, Y, -, -, -⟩ := X
  exact Go.back (fun t kt => Jvm.Free.XS.iushr Y.here C.1 rfl (C.cd hd) rfl kt) hr
theorem go_lshl (C : Cx p s m meth c Z a0 own bytes maxL ret nm) (X : St Z p l e R s m args below meth c n0 T h k n) {x : Int64} {y : Int32} (pc' : Nat) (hp : pc + 1 = pc') (hd : decode bytes pc = .ok (.lshl, 1)) (hr : Go p e below Q (T.setTop (mkF m pc' Ls (.long (x <<< (y &&& 0x3f).toInt64) :: st)))) : Go p e below Q (T.setTop (mkF m pc Ls (.int y :: .long x :: st))) := by
  subst hp
  obtain ⟨locs, Y, -, -, -⟩ := X
  exact Go.back (fun t kt => Jvm.Free.XS.lshl Y.here C.1 rfl (C.cd hd) rfl kt) hr
theorem go_lshr (C : Cx p s m meth c Z a0 own bytes maxL ret nm) (X : St Z p l e R s m args below meth c n0 T h k n) {x : Int64} {y : Int32} (pc' : Nat) (hp : pc + 1 = pc') (hd : decode bytes pc = .ok (.lshr, 1)) (hr : Go p e below Q (T.setTop (mkF m pc' Ls (.long (x >>> (y &&& 0x3f).toInt64) :: st)))) : Go p e below Q (T.setTop (mkF m pc Ls (.int y :: .long x :: st))) := by
  subst hp
  obtain ⟨locs, Y, -, -, -⟩ := X
  exact Go.back (fun t kt => Jvm.Free.XS.lshr Y.here C.1 rfl (C.cd hd) rfl kt) hr
theorem go_lushr (C : Cx p s m meth c Z a0 own bytes maxL ret nm) (X : St Z p l e R s m args below meth c n0 T h k n) {x : Int64} {y : Int32} (pc' : Nat) (hp : pc + 1 = pc') (hd : decode bytes pc = .ok (.lushr, 1)) (hr : Go p e below Q (T.setTop (mkF m pc' Ls (.long ((x.toUInt64 >>> (y &&& 0x3f).toInt64.toUInt64).toInt64) :: st)))) : Go p e below Q (T.setTop (mkF m pc Ls (.int y :: .long x :: st))) := by
  subst hp
  obtain ⟨locs, Y, -, -, -⟩ := X
  exact Go.back (fun t kt => Jvm.Free.XS.lushr Y.here C.1 rfl (C.cd hd) rfl kt) hr
theorem go_lcmp (C : Cx p s m meth c Z a0 own bytes maxL ret nm) (X : St Z p l e R s m args below meth c n0 T h k n) {x y : Int64} (pc' : Nat) (hp : pc + 1 = pc') (hd : decode bytes pc = .ok (.lcmp, 1)) (hr : Go p e below Q (T.setTop (mkF m pc' Ls (.int (lcmpW x y) :: st)))) : Go p e below Q (T.setTop (mkF m pc Ls (.long y :: .long x :: st))) := by
  subst hp
  obtain ⟨locs, Y, -, -, -⟩ := X
  exact Go.back (fun t kt => Jvm.Free.XS.lcmp Y.here C.1 rfl (C.cd hd) rfl kt) hr
theorem go_iinc (C : Cx p s m meth c Z a0 own bytes maxL ret nm) (X : St Z p l e R s m args below meth c n0 T h k n) {i : Nat} {cst : Int} {x z : Int32} (pc' : Nat) (hp : pc + 3 = pc') (hd : decode bytes pc = .ok (.iinc i cst, 3)) (hl : Ls[i]? = some (.val (.int x))) (hz : Int32.ofInt cst = z) (Ls' : Array Slot) (hl' : storeLocals Ls i (.int (x + z)) = some Ls') (hr : Go p e below Q (T.setTop (mkF m pc' Ls' st))) : Go p e below Q (T.setTop (mkF m pc Ls st)) := by
  subst hp
  obtain ⟨locs, Y, -, -, -⟩ := X
  exact Go.back (fun t kt => by subst hz; exact Jvm.Free.XS.iinc Y.here C.1 rfl (C.cd hd) hl hl' kt) hr
theorem go_dup (C : Cx p s m meth c Z a0 own bytes maxL ret nm) (X : St Z p l e R s m args below meth c n0 T h k n) {v : Value} (pc' : Nat) (hp : pc + 1 = pc') (hd : decode bytes pc = .ok (.dup, 1)) (hc : v.category = 1) (hr : Go p e below Q (T.setTop (mkF m pc' Ls (v :: v :: st)))) : Go p e below Q (T.setTop (mkF m pc Ls (v :: st))) := by
  subst hp
  obtain ⟨locs, Y, -, -, -⟩ := X
  exact Go.back (fun t kt => Jvm.Free.XS.dup Y.here C.1 rfl (C.cd hd) rfl hc kt) hr
theorem go_pop (C : Cx p s m meth c Z a0 own bytes maxL ret nm) (X : St Z p l e R s m args below meth c n0 T h k n) {v : Value} (pc' : Nat) (hp : pc + 1 = pc') (hd : decode bytes pc = .ok (.pop, 1)) (hc : v.category = 1) (hr : Go p e below Q (T.setTop (mkF m pc' Ls st))) : Go p e below Q (T.setTop (mkF m pc Ls (v :: st))) := by
  subst hp
  obtain ⟨locs, Y, -, -, -⟩ := X
  exact Go.back (fun t kt => Jvm.Free.XS.pop Y.here C.1 rfl (C.cd hd) rfl hc kt) hr
theorem go_dupX1 (C : Cx p s m meth c Z a0 own bytes maxL ret nm) (X : St Z p l e R s m args below meth c n0 T h k n) {v w : Value} (pc' : Nat) (hp : pc + 1 = pc') (hd : decode bytes pc = .ok (.dup_x1, 1)) (hc : v.category = 1) (hc2 : w.category = 1) (hr : Go p e below Q (T.setTop (mkF m pc' Ls (v :: w :: v :: st)))) : Go p e below Q (T.setTop (mkF m pc Ls (v :: w :: st))) := by
  subst hp
  obtain ⟨locs, Y, -, -, -⟩ := X
  exact Go.back (fun t kt => Jvm.Free.XS.dupX1 Y.here C.1 rfl (C.cd hd) rfl hc hc2 kt) hr
theorem go_dup2 (C : Cx p s m meth c Z a0 own bytes maxL ret nm) (X : St Z p l e R s m args below meth c n0 T h k n) {v w : Value} (pc' : Nat) (hp : pc + 1 = pc') (hd : decode bytes pc = .ok (.dup2, 1)) (hc : v.category = 1) (hc2 : w.category = 1) (hr : Go p e below Q (T.setTop (mkF m pc' Ls (v :: w :: v :: w :: st)))) : Go p e below Q (T.setTop (mkF m pc Ls (v :: w :: st))) := by
  subst hp
  obtain ⟨locs, Y, -, -, -⟩ := X
  refine Go.back (fun t kt => ?_) hr
  show Steps p.tables e below (T.setTop { method := m, pc := pc, locals := Ls, stack := v :: w :: st, locked := none }) _
  jvm_step Y.here [Y.here.top, C.1, C.cd hd, hc, hc2]
  exact kt
theorem go_goto (C : Cx p s m meth c Z a0 own bytes maxL ret nm) (X : St Z p l e R s m args below meth c n0 T h k n) {o : Int} (hd : decode bytes pc = .ok (.goto o, 3)) (ho : 0 ≤ (pc : Int) + o) (hp : ((pc : Int) + o).toNat = pc') (hr : Go p e below Q (T.setTop (mkF m pc' Ls st))) : Go p e below Q (T.setTop (mkF m pc Ls st)) := by
  obtain ⟨locs, Y, -, -, -⟩ := X
  exact Go.back (fun t kt => Jvm.Free.XS.goto Y.here C.1 rfl (pc0 := pc) rfl (C.cd hd) ho hp kt) hr
theorem go_icmp (C : Cx p s m meth c Z a0 own bytes maxL ret nm) (X : St Z p l e R s m args below meth c n0 T h k n) {cd : ClassFile.Cond} {o : Int} {x y : Int32} (hd : decode bytes pc = .ok (.if_icmp cd o, 3)) (hp : pc + 3 = pc') (ho : 0 ≤ (pc : Int) + o) (hp2 : ((pc : Int) + o).toNat = pc2) (h1 : if_icmp.holds cd x y = true → Go p e below Q (T.setTop (mkF m pc2 Ls st))) (h2 : if_icmp.holds cd x y = false → Go p e below Q (T.setTop (mkF m pc' Ls st))) : Go p e below Q (T.setTop (mkF m pc Ls (.int y :: .int x :: st))) := by
  subst hp
  obtain ⟨locs, Y, -, -, -⟩ := X
  cases hc : if_icmp.holds cd x y with
  | true => exact Go.back (fun t kt => Jvm.Free.XS.icmpYes Y.here C.1 rfl (pc0 := pc) rfl (C.cd hd) rfl hc ho hp2 kt) (h1 hc)
  | false => exact Go.back (fun t kt => Jvm.Free.XS.icmpNo Y.here C.1 rfl (C.cd hd) rfl hc kt) (h2 hc)
theorem go_if (C : Cx p s m meth c Z a0 own bytes maxL ret nm) (X : St Z p l e R s m args below meth c n0 T h k n) {cd : ClassFile.Cond} {o : Int} {x : Int32} (hd : decode bytes pc = .ok (.ifCond cd o, 3)) (hp : pc + 3 = pc') (ho : 0 ≤ (pc : Int) + o) (hp2 : ((pc : Int) + o).toNat = pc2) (h1 : if_icmp.holds cd x 0 = true → Go p e below Q (T.setTop (mkF m pc2 Ls st))) (h2 : if_icmp.holds cd x 0 = false → Go p e below Q (T.setTop (mkF m pc' Ls st))) : Go p e below Q (T.setTop (mkF m pc Ls (.int x :: st))) := by
  subst hp
  obtain ⟨locs, Y, -, -, -⟩ := X
  cases hc : if_icmp.holds cd x 0 with
  | true => exact Go.back (fun t kt => Jvm.Free.XS.ifYes Y.here C.1 rfl (pc0 := pc) rfl (C.cd hd) rfl ((if0 _ _).trans hc) ho hp2 kt) (h1 hc)
  | false => exact Go.back (fun t kt => Jvm.Free.XS.ifNo Y.here C.1 rfl (C.cd hd) rfl ((if0 _ _).trans hc) kt) (h2 hc)
theorem i32lt {x y : Int32} : x < y ↔ x.toInt < y.toInt := Int32.lt_iff_toInt_lt
theorem ic_lt {x y : Int32} : (if_icmp.holds .lt x y = true ↔ x.toInt < y.toInt) ∧ (if_icmp.holds .lt x y = false ↔ y.toInt ≤ x.toInt) := by
  by_cases q : x < y
  · have := i32lt.mp q; simp [(tlt q).1]; omega
  · have := mt i32lt.mpr q; simp [(flt q).1]; omega
theorem ic_ge {x y : Int32} : (if_icmp.holds .ge x y = true ↔ y.toInt ≤ x.toInt) ∧ (if_icmp.holds .ge x y = false ↔ x.toInt < y.toInt) := by
  by_cases q : x < y
  · have := i32lt.mp q; simp [(tlt q).2.1]; omega
  · have := mt i32lt.mpr q; simp [(flt q).2.1]; omega
theorem ic_gt {x y : Int32} : (if_icmp.holds .gt x y = true ↔ y.toInt < x.toInt) ∧ (if_icmp.holds .gt x y = false ↔ x.toInt ≤ y.toInt) := by
  by_cases q : y < x
  · have := i32lt.mp q; simp [(tlt q).2.2.1]; omega
  · have := mt i32lt.mpr q; simp [(flt q).2.2.1]; omega
theorem ic_le {x y : Int32} : (if_icmp.holds .le x y = true ↔ x.toInt ≤ y.toInt) ∧ (if_icmp.holds .le x y = false ↔ y.toInt < x.toInt) := by
  by_cases q : y < x
  · have := i32lt.mp q; simp [(tlt q).2.2.2]; omega
  · have := mt i32lt.mpr q; simp [(flt q).2.2.2]; omega
theorem ic_eq {x y : Int32} : (if_icmp.holds .eq x y = true ↔ x = y) ∧ (if_icmp.holds .eq x y = false ↔ ¬ x = y) := by
  by_cases q : x = y
  · subst q; exact ⟨⟨fun _ => rfl, fun _ => (teq rfl).1⟩, ⟨fun h => (by rw [(teq rfl).1] at h; cases h), fun h => absurd rfl h⟩⟩
  · exact ⟨⟨fun h => (by rw [(feq q).1] at h; cases h), fun h => absurd h q⟩, ⟨fun _ => q, fun _ => (feq q).1⟩⟩
theorem ic_ne {x y : Int32} : (if_icmp.holds .ne x y = true ↔ ¬ x = y) ∧ (if_icmp.holds .ne x y = false ↔ x = y) := by
  by_cases q : x = y
  · subst q; exact ⟨⟨fun h => (by rw [(teq rfl).2] at h; cases h), fun h => absurd rfl h⟩, ⟨fun _ => rfl, fun _ => (teq rfl).2⟩⟩
  · exact ⟨⟨fun _ => q, fun _ => (feq q).2⟩, ⟨fun h => (by rw [(feq q).2] at h; cases h), fun h => absurd h q⟩⟩
theorem lc_i (x y : Int64) : ((lcmpW x y).toInt < 0 ↔ x.toInt < y.toInt) ∧ (0 < (lcmpW x y).toInt ↔ y.toInt < x.toInt) ∧ (lcmpW x y = 0 ↔ x = y) := by
  obtain ⟨a, b, c⟩ := c_lcmp x y
  refine ⟨?_, ?_, lw_eq x y⟩ <;> rcases Int.lt_trichotomy x.toInt y.toInt with q | q | q <;> (first | have := a q | have := b q | have := c q) <;> omega
theorem go_icmp_lt (C : Cx p s m meth c Z a0 own bytes maxL ret nm) (X : St Z p l e R s m args below meth c n0 T h k n) {o : Int} {x y : Int32} (hd : decode bytes pc = .ok (.if_icmp .lt o, 3)) (hp : pc + 3 = pc') (ho : 0 ≤ (pc : Int) + o) (hp2 : ((pc : Int) + o).toNat = pc2) (h1 : x.toInt < y.toInt → Go p e below Q (T.setTop (mkF m pc2 Ls st))) (h2 : y.toInt ≤ x.toInt → Go p e below Q (T.setTop (mkF m pc' Ls st))) : Go p e below Q (T.setTop (mkF m pc Ls (.int y :: .int x :: st))) := go_icmp C X hd hp ho hp2 (fun q => h1 (ic_lt.1.mp q)) (fun q => h2 (ic_lt.2.mp q))
theorem go_if_lt (C : Cx p s m meth c Z a0 own bytes maxL ret nm) (X : St Z p l e R s m args below meth c n0 T h k n) {o : Int} {x : Int32} (hd : decode bytes pc = .ok (.ifCond .lt o, 3)) (hp : pc + 3 = pc') (ho : 0 ≤ (pc : Int) + o) (hp2 : ((pc : Int) + o).toNat = pc2) (h1 : x.toInt < 0 → Go p e below Q (T.setTop (mkF m pc2 Ls st))) (h2 : 0 ≤ x.toInt → Go p e below Q (T.setTop (mkF m pc' Ls st))) : Go p e below Q (T.setTop (mkF m pc Ls (.int x :: st))) := go_if C X hd hp ho hp2 (fun q => h1 (ic_lt.1.mp q)) (fun q => h2 (ic_lt.2.mp q))
theorem go_lif_lt (C : Cx p s m meth c Z a0 own bytes maxL ret nm) (X : St Z p l e R s m args below meth c n0 T h k n) {o : Int} {x y : Int64} {pc1 : Nat} (hp1 : pc + 1 = pc1) (hd1 : decode bytes pc = .ok (.lcmp, 1)) (hd : decode bytes pc1 = .ok (.ifCond .lt o, 3)) (hp : pc1 + 3 = pc') (ho : 0 ≤ (pc1 : Int) + o) (hp2 : ((pc1 : Int) + o).toNat = pc2) (h1 : x.toInt < y.toInt → Go p e below Q (T.setTop (mkF m pc2 Ls st))) (h2 : y.toInt ≤ x.toInt → Go p e below Q (T.setTop (mkF m pc' Ls st))) : Go p e below Q (T.setTop (mkF m pc Ls (.long y :: .long x :: st))) := go_lcmp C X _ hp1 hd1 (go_if_lt C X hd hp ho hp2 (fun q => h1 ((lc_i x y).1.mp q)) (fun q => h2 (by have := mt (lc_i x y).1.mpr (by omega); omega)))
theorem go_icmp_ge (C : Cx p s m meth c Z a0 own bytes maxL ret nm) (X : St Z p l e R s m args below meth c n0 T h k n) {o : Int} {x y : Int32} (hd : decode bytes pc = .ok (.if_icmp .ge o, 3)) (hp : pc + 3 = pc') (ho : 0 ≤ (pc : Int) + o) (hp2 : ((pc : Int) + o).toNat = pc2) (h1 : y.toInt ≤ x.toInt → Go p e below Q (T.setTop (mkF m pc2 Ls st))) (h2 : x.toInt < y.toInt → Go p e below Q (T.setTop (mkF m pc' Ls st))) : Go p e below Q (T.setTop (mkF m pc Ls (.int y :: .int x :: st))) := go_icmp C X hd hp ho hp2 (fun q => h1 (ic_ge.1.mp q)) (fun q => h2 (ic_ge.2.mp q))
theorem go_if_ge (C : Cx p s m meth c Z a0 own bytes maxL ret nm) (X : St Z p l e R s m args below meth c n0 T h k n) {o : Int} {x : Int32} (hd : decode bytes pc = .ok (.ifCond .ge o, 3)) (hp : pc + 3 = pc') (ho : 0 ≤ (pc : Int) + o) (hp2 : ((pc : Int) + o).toNat = pc2) (h1 : 0 ≤ x.toInt → Go p e below Q (T.setTop (mkF m pc2 Ls st))) (h2 : x.toInt < 0 → Go p e below Q (T.setTop (mkF m pc' Ls st))) : Go p e below Q (T.setTop (mkF m pc Ls (.int x :: st))) := go_if C X hd hp ho hp2 (fun q => h1 (ic_ge.1.mp q)) (fun q => h2 (ic_ge.2.mp q))
theorem go_lif_ge (C : Cx p s m meth c Z a0 own bytes maxL ret nm) (X : St Z p l e R s m args below meth c n0 T h k n) {o : Int} {x y : Int64} {pc1 : Nat} (hp1 : pc + 1 = pc1) (hd1 : decode bytes pc = .ok (.lcmp, 1)) (hd : decode bytes pc1 = .ok (.ifCond .ge o, 3)) (hp : pc1 + 3 = pc') (ho : 0 ≤ (pc1 : Int) + o) (hp2 : ((pc1 : Int) + o).toNat = pc2) (h1 : y.toInt ≤ x.toInt → Go p e below Q (T.setTop (mkF m pc2 Ls st))) (h2 : x.toInt < y.toInt → Go p e below Q (T.setTop (mkF m pc' Ls st))) : Go p e below Q (T.setTop (mkF m pc Ls (.long y :: .long x :: st))) := go_lcmp C X _ hp1 hd1 (go_if_ge C X hd hp ho hp2 (fun q => h1 (by have := mt (lc_i x y).1.mpr (by omega); omega)) (fun q => h2 ((lc_i x y).1.mp q)))
theorem go_icmp_gt (C : Cx p s m meth c Z a0 own bytes maxL ret nm) (X : St Z p l e R s m args below meth c n0 T h k n) {o : Int} {x y : Int32} (hd : decode bytes pc = .ok (.if_icmp .gt o, 3)) (hp : pc + 3 = pc') (ho : 0 ≤ (pc : Int) + o) (hp2 : ((pc : Int) + o).toNat = pc2) (h1 : y.toInt < x.toInt → Go p e below Q (T.setTop (mkF m pc2 Ls st))) (h2 : x.toInt ≤ y.toInt → Go p e below Q (T.setTop (mkF m pc' Ls st))) : Go p e below Q (T.setTop (mkF m pc Ls (.int y :: .int x :: st))) := go_icmp C X hd hp ho hp2 (fun q => h1 (ic_gt.1.mp q)) (fun q => h2 (ic_gt.2.mp q))
theorem go_if_gt (C : Cx p s m meth c Z a0 own bytes maxL ret nm) (X : St Z p l e R s m args below meth c n0 T h k n) {o : Int} {x : Int32} (hd : decode bytes pc = .ok (.ifCond .gt o, 3)) (hp : pc + 3 = pc') (ho : 0 ≤ (pc : Int) + o) (hp2 : ((pc : Int) + o).toNat = pc2) (h1 : 0 < x.toInt → Go p e below Q (T.setTop (mkF m pc2 Ls st))) (h2 : x.toInt ≤ 0 → Go p e below Q (T.setTop (mkF m pc' Ls st))) : Go p e below Q (T.setTop (mkF m pc Ls (.int x :: st))) := go_if C X hd hp ho hp2 (fun q => h1 (ic_gt.1.mp q)) (fun q => h2 (ic_gt.2.mp q))
theorem go_lif_gt (C : Cx p s m meth c Z a0 own bytes maxL ret nm) (X : St Z p l e R s m args below meth c n0 T h k n) {o : Int} {x y : Int64} {pc1 : Nat} (hp1 : pc + 1 = pc1) (hd1 : decode bytes pc = .ok (.lcmp, 1)) (hd : decode bytes pc1 = .ok (.ifCond .gt o, 3)) (hp : pc1 + 3 = pc') (ho : 0 ≤ (pc1 : Int) + o) (hp2 : ((pc1 : Int) + o).toNat = pc2) (h1 : y.toInt < x.toInt → Go p e below Q (T.setTop (mkF m pc2 Ls st))) (h2 : x.toInt ≤ y.toInt → Go p e below Q (T.setTop (mkF m pc' Ls st))) : Go p e below Q (T.setTop (mkF m pc Ls (.long y :: .long x :: st))) := go_lcmp C X _ hp1 hd1 (go_if_gt C X hd hp ho hp2 (fun q => h1 ((lc_i x y).2.1.mp q)) (fun q => h2 (by have := mt (lc_i x y).2.1.mpr (by omega); omega)))
theorem go_icmp_le (C : Cx p s m meth c Z a0 own bytes maxL ret nm) (X : St Z p l e R s m args below meth c n0 T h k n) {o : Int} {x y : Int32} (hd : decode bytes pc = .ok (.if_icmp .le o, 3)) (hp : pc + 3 = pc') (ho : 0 ≤ (pc : Int) + o) (hp2 : ((pc : Int) + o).toNat = pc2) (h1 : x.toInt ≤ y.toInt → Go p e below Q (T.setTop (mkF m pc2 Ls st))) (h2 : y.toInt < x.toInt → Go p e below Q (T.setTop (mkF m pc' Ls st))) : Go p e below Q (T.setTop (mkF m pc Ls (.int y :: .int x :: st))) := go_icmp C X hd hp ho hp2 (fun q => h1 (ic_le.1.mp q)) (fun q => h2 (ic_le.2.mp q))
theorem go_if_le (C : Cx p s m meth c Z a0 own bytes maxL ret nm) (X : St Z p l e R s m args below meth c n0 T h k n) {o : Int} {x : Int32} (hd : decode bytes pc = .ok (.ifCond .le o, 3)) (hp : pc + 3 = pc') (ho : 0 ≤ (pc : Int) + o) (hp2 : ((pc : Int) + o).toNat = pc2) (h1 : x.toInt ≤ 0 → Go p e below Q (T.setTop (mkF m pc2 Ls st))) (h2 : 0 < x.toInt → Go p e below Q (T.setTop (mkF m pc' Ls st))) : Go p e below Q (T.setTop (mkF m pc Ls (.int x :: st))) := go_if C X hd hp ho hp2 (fun q => h1 (ic_le.1.mp q)) (fun q => h2 (ic_le.2.mp q))
theorem go_lif_le (C : Cx p s m meth c Z a0 own bytes maxL ret nm) (X : St Z p l e R s m args below meth c n0 T h k n) {o : Int} {x y : Int64} {pc1 : Nat} (hp1 : pc + 1 = pc1) (hd1 : decode bytes pc = .ok (.lcmp, 1)) (hd : decode bytes pc1 = .ok (.ifCond .le o, 3)) (hp : pc1 + 3 = pc') (ho : 0 ≤ (pc1 : Int) + o) (hp2 : ((pc1 : Int) + o).toNat = pc2) (h1 : x.toInt ≤ y.toInt → Go p e below Q (T.setTop (mkF m pc2 Ls st))) (h2 : y.toInt < x.toInt → Go p e below Q (T.setTop (mkF m pc' Ls st))) : Go p e below Q (T.setTop (mkF m pc Ls (.long y :: .long x :: st))) := go_lcmp C X _ hp1 hd1 (go_if_le C X hd hp ho hp2 (fun q => h1 (by have := mt (lc_i x y).2.1.mpr (by omega); omega)) (fun q => h2 ((lc_i x y).2.1.mp q)))
theorem go_icmp_eq (C : Cx p s m meth c Z a0 own bytes maxL ret nm) (X : St Z p l e R s m args below meth c n0 T h k n) {o : Int} {x y : Int32} (hd : decode bytes pc = .ok (.if_icmp .eq o, 3)) (hp : pc + 3 = pc') (ho : 0 ≤ (pc : Int) + o) (hp2 : ((pc : Int) + o).toNat = pc2) (h1 : x = y → Go p e below Q (T.setTop (mkF m pc2 Ls st))) (h2 : ¬ x = y → Go p e below Q (T.setTop (mkF m pc' Ls st))) : Go p e below Q (T.setTop (mkF m pc Ls (.int y :: .int x :: st))) := go_icmp C X hd hp ho hp2 (fun q => h1 (ic_eq.1.mp q)) (fun q => h2 (ic_eq.2.mp q))
theorem go_if_eq (C : Cx p s m meth c Z a0 own bytes maxL ret nm) (X : St Z p l e R s m args below meth c n0 T h k n) {o : Int} {x : Int32} (hd : decode bytes pc = .ok (.ifCond .eq o, 3)) (hp : pc + 3 = pc') (ho : 0 ≤ (pc : Int) + o) (hp2 : ((pc : Int) + o).toNat = pc2) (h1 : x = 0 → Go p e below Q (T.setTop (mkF m pc2 Ls st))) (h2 : ¬ x = 0 → Go p e below Q (T.setTop (mkF m pc' Ls st))) : Go p e below Q (T.setTop (mkF m pc Ls (.int x :: st))) := go_if C X hd hp ho hp2 (fun q => h1 (ic_eq.1.mp q)) (fun q => h2 (ic_eq.2.mp q))
theorem go_lif_eq (C : Cx p s m meth c Z a0 own bytes maxL ret nm) (X : St Z p l e R s m args below meth c n0 T h k n) {o : Int} {x y : Int64} {pc1 : Nat} (hp1 : pc + 1 = pc1) (hd1 : decode bytes pc = .ok (.lcmp, 1)) (hd : decode bytes pc1 = .ok (.ifCond .eq o, 3)) (hp : pc1 + 3 = pc') (ho : 0 ≤ (pc1 : Int) + o) (hp2 : ((pc1 : Int) + o).toNat = pc2) (h1 : x = y → Go p e below Q (T.setTop (mkF m pc2 Ls st))) (h2 : ¬ x = y → Go p e below Q (T.setTop (mkF m pc' Ls st))) : Go p e below Q (T.setTop (mkF m pc Ls (.long y :: .long x :: st))) := go_lcmp C X _ hp1 hd1 (go_if_eq C X hd hp ho hp2 (fun q => h1 ((lc_i x y).2.2.mp q)) (fun q => h2 (mt (lc_i x y).2.2.mpr q)))
theorem go_icmp_ne (C : Cx p s m meth c Z a0 own bytes maxL ret nm) (X : St Z p l e R s m args below meth c n0 T h k n) {o : Int} {x y : Int32} (hd : decode bytes pc = .ok (.if_icmp .ne o, 3)) (hp : pc + 3 = pc') (ho : 0 ≤ (pc : Int) + o) (hp2 : ((pc : Int) + o).toNat = pc2) (h1 : ¬ x = y → Go p e below Q (T.setTop (mkF m pc2 Ls st))) (h2 : x = y → Go p e below Q (T.setTop (mkF m pc' Ls st))) : Go p e below Q (T.setTop (mkF m pc Ls (.int y :: .int x :: st))) := go_icmp C X hd hp ho hp2 (fun q => h1 (ic_ne.1.mp q)) (fun q => h2 (ic_ne.2.mp q))
theorem go_if_ne (C : Cx p s m meth c Z a0 own bytes maxL ret nm) (X : St Z p l e R s m args below meth c n0 T h k n) {o : Int} {x : Int32} (hd : decode bytes pc = .ok (.ifCond .ne o, 3)) (hp : pc + 3 = pc') (ho : 0 ≤ (pc : Int) + o) (hp2 : ((pc : Int) + o).toNat = pc2) (h1 : ¬ x = 0 → Go p e below Q (T.setTop (mkF m pc2 Ls st))) (h2 : x = 0 → Go p e below Q (T.setTop (mkF m pc' Ls st))) : Go p e below Q (T.setTop (mkF m pc Ls (.int x :: st))) := go_if C X hd hp ho hp2 (fun q => h1 (ic_ne.1.mp q)) (fun q => h2 (ic_ne.2.mp q))
theorem go_lif_ne (C : Cx p s m meth c Z a0 own bytes maxL ret nm) (X : St Z p l e R s m args below meth c n0 T h k n) {o : Int} {x y : Int64} {pc1 : Nat} (hp1 : pc + 1 = pc1) (hd1 : decode bytes pc = .ok (.lcmp, 1)) (hd : decode bytes pc1 = .ok (.ifCond .ne o, 3)) (hp : pc1 + 3 = pc') (ho : 0 ≤ (pc1 : Int) + o) (hp2 : ((pc1 : Int) + o).toNat = pc2) (h1 : ¬ x = y → Go p e below Q (T.setTop (mkF m pc2 Ls st))) (h2 : x = y → Go p e below Q (T.setTop (mkF m pc' Ls st))) : Go p e below Q (T.setTop (mkF m pc Ls (.long y :: .long x :: st))) := go_lcmp C X _ hp1 hd1 (go_if_ne C X hd hp ho hp2 (fun q => h1 (mt (lc_i x y).2.2.mpr q)) (fun q => h2 ((lc_i x y).2.2.mp q)))
theorem go_dload (C : Cx p s m meth c Z a0 own bytes maxL ret nm) (X : St Z p l e R s m args below meth c n0 T h k n) {i : Nat} {v : UInt64} (pc' : Nat) (hp : pc + 2 = pc') (hd : decode bytes pc = .ok (.dload i, 2)) (hl : Ls[i]? = some (.val (.double v))) (hr : Go p e below Q (T.setTop (mkF m pc' Ls (.double v :: st)))) : Go p e below Q (T.setTop (mkF m pc Ls st)) := by
  subst hp
  obtain ⟨locs, Y, -, -, -⟩ := X
  exact Go.back (fun t kt => Jvm.Free.XS.dload Y.here C.1 rfl (C.cd hd) hl kt) hr
theorem go_dloadN (C : Cx p s m meth c Z a0 own bytes maxL ret nm) (X : St Z p l e R s m args below meth c n0 T h k n) {i : Fin 4} {v : UInt64} (pc' : Nat) (hp : pc + 1 = pc') (hd : decode bytes pc = .ok (.dload_n i, 1)) (hl : Ls[i.val]? = some (.val (.double v))) (hr : Go p e below Q (T.setTop (mkF m pc' Ls (.double v :: st)))) : Go p e below Q (T.setTop (mkF m pc Ls st)) := by
  subst hp
  obtain ⟨locs, Y, -, -, -⟩ := X
  exact Go.back (fun t kt => Jvm.Free.XS.dloadN Y.here C.1 rfl (C.cd hd) hl kt) hr
theorem go_dstore (C : Cx p s m meth c Z a0 own bytes maxL ret nm) (X : St Z p l e R s m args below meth c n0 T h k n) {i : Nat} {v : UInt64} (pc' : Nat) (hp : pc + 2 = pc') (hd : decode bytes pc = .ok (.dstore i, 2)) (Ls' : Array Slot) (hl : storeLocals Ls i (.double v) = some Ls') (hr : Go p e below Q (T.setTop (mkF m pc' Ls' st))) : Go p e below Q (T.setTop (mkF m pc Ls (.double v :: st))) := by
  subst hp
  obtain ⟨locs, Y, -, -, -⟩ := X
  exact Go.back (fun t kt => Jvm.Free.XS.dstore Y.here C.1 rfl (C.cd hd) rfl hl kt) hr
theorem go_dstoreN (C : Cx p s m meth c Z a0 own bytes maxL ret nm) (X : St Z p l e R s m args below meth c n0 T h k n) {i : Fin 4} {v : UInt64} (pc' : Nat) (hp : pc + 1 = pc') (hd : decode bytes pc = .ok (.dstore_n i, 1)) (Ls' : Array Slot) (hl : storeLocals Ls i.val (.double v) = some Ls') (hr : Go p e below Q (T.setTop (mkF m pc' Ls' st))) : Go p e below Q (T.setTop (mkF m pc Ls (.double v :: st))) := by
  subst hp
  obtain ⟨locs, Y, -, -, -⟩ := X
  exact Go.back (fun t kt => Jvm.Free.XS.dstoreN Y.here C.1 rfl (C.cd hd) rfl hl kt) hr
theorem go_dconst0 (C : Cx p s m meth c Z a0 own bytes maxL ret nm) (X : St Z p l e R s m args below meth c n0 T h k n)  (pc' : Nat) (hp : pc + 1 = pc') (hd : decode bytes pc = .ok (.dconst 0, 1)) (hr : Go p e below Q (T.setTop (mkF m pc' Ls (.double (FP.l2d 0) :: st)))) : Go p e below Q (T.setTop (mkF m pc Ls st)) := by
  subst hp
  obtain ⟨locs, Y, -, -, -⟩ := X
  exact Go.back (fun t kt => Jvm.Free.XS.dconst0 Y.here C.1 rfl (C.cd hd) (by decide +kernel) kt) hr
theorem go_i2d (C : Cx p s m meth c Z a0 own bytes maxL ret nm) (X : St Z p l e R s m args below meth c n0 T h k n) {x : Int32} (pc' : Nat) (hp : pc + 1 = pc') (hd : decode bytes pc = .ok (.i2d, 1)) (hr : Go p e below Q (T.setTop (mkF m pc' Ls (.double (FP.l2d x.toInt64) :: st)))) : Go p e below Q (T.setTop (mkF m pc Ls (.int x :: st))) := by
  subst hp
  obtain ⟨locs, Y, -, -, -⟩ := X
  exact Go.back (fun t kt => Jvm.Free.XS.i2dS Y.here C.1 rfl (C.cd hd) rfl (i2d_w x) kt) hr
theorem go_l2d (C : Cx p s m meth c Z a0 own bytes maxL ret nm) (X : St Z p l e R s m args below meth c n0 T h k n) {x : Int64} (pc' : Nat) (hp : pc + 1 = pc') (hd : decode bytes pc = .ok (.l2d, 1)) (hr : Go p e below Q (T.setTop (mkF m pc' Ls (.double (FP.l2d x) :: st)))) : Go p e below Q (T.setTop (mkF m pc Ls (.long x :: st))) := by
  subst hp
  obtain ⟨locs, Y, -, -, -⟩ := X
  exact Go.back (fun t kt => Jvm.Free.XS.l2dS Y.here C.1 rfl (C.cd hd) rfl rfl kt) hr
theorem go_dadd (C : Cx p s m meth c Z a0 own bytes maxL ret nm) (X : St Z p l e R s m args below meth c n0 T h k n) {x y : Int64} (pc' : Nat) (hp : pc + 1 = pc') (hd : decode bytes pc = .ok (.dadd, 1)) (ha : B53 x) (hb : B53 y) (hr : Go p e below Q (T.setTop (mkF m pc' Ls (.double (FP.l2d (x + y)) :: st)))) : Go p e below Q (T.setTop (mkF m pc Ls (.double (FP.l2d y) :: .double (FP.l2d x) :: st))) := by
  subst hp
  obtain ⟨locs, Y, -, -, -⟩ := X
  exact Go.back (fun t kt => Jvm.Free.XS.daddS Y.here C.1 rfl (C.cd hd) rfl (nn_w (dadd_w ha hb)) (dadd_w ha hb) kt) hr
theorem go_dcmp (C : Cx p s m meth c Z a0 own bytes maxL ret nm) (X : St Z p l e R s m args below meth c n0 T h k n) {o : CmpOp} {x y : Int64} (pc' : Nat) (hp : pc + 1 = pc') (hd : decode bytes pc = .ok (.dcmp o, 1)) (ha : B53 x) (hb : B53 y) (hr : Go p e below Q (T.setTop (mkF m pc' Ls (.int (lcmpW x y) :: st)))) : Go p e below Q (T.setTop (mkF m pc Ls (.double (FP.l2d y) :: .double (FP.l2d x) :: st))) := by
  subst hp
  obtain ⟨locs, Y, -, -, -⟩ := X
  exact Go.back (fun t kt => Jvm.Free.XS.dcmpS Y.here C.1 rfl (C.cd hd) rfl (dcmpV_w ha hb o) kt) hr
theorem go_ldcInt (C : Cx p s m meth c Z a0 own bytes maxL ret nm) (X : St Z p l e R s m args below meth c n0 T h k n) {idx : Nat} {v : Int32} (w : (Jvm.Cond.constant own idx v).before a0 Z = true) (hp : pc + 2 = pc') (hd : decode bytes pc = .ok (.ldc idx, 2)) (hr : Go p e below Q (T.setTop (mkF m pc' Ls (.int v :: st)))) : Go p e below Q (T.setTop (mkF m pc Ls st)) := by
  subst hp
  obtain ⟨locs, Y, -, -, -⟩ := X
  exact Go.back (fun t kt => Y.ldcInt C.1 C.ow (mvT C.hZ w) (g := mkF m pc Ls st) rfl (C.cd hd) t kt) hr
theorem go_ldcwInt (C : Cx p s m meth c Z a0 own bytes maxL ret nm) (X : St Z p l e R s m args below meth c n0 T h k n) {idx : Nat} {v : Int32} (w : (Jvm.Cond.constant own idx v).before a0 Z = true) (hp : pc + 3 = pc') (hd : decode bytes pc = .ok (.ldc_w idx, 3)) (hr : Go p e below Q (T.setTop (mkF m pc' Ls (.int v :: st)))) : Go p e below Q (T.setTop (mkF m pc Ls st)) := by
  subst hp
  obtain ⟨locs, Y, -, -, -⟩ := X
  exact Go.back (fun t kt => Y.ldcwInt C.1 C.ow (mvT C.hZ w) (g := mkF m pc Ls st) rfl (C.cd hd) t kt) hr
theorem go_ldc2Long (C : Cx p s m meth c Z a0 own bytes maxL ret nm) (X : St Z p l e R s m args below meth c n0 T h k n) {idx : Nat} {v : Int64} (w : (Jvm.Cond.constantLong own idx v).before a0 Z = true) (hp : pc + 3 = pc') (hd : decode bytes pc = .ok (.ldc2_w idx, 3)) (hr : Go p e below Q (T.setTop (mkF m pc' Ls (.long v :: st)))) : Go p e below Q (T.setTop (mkF m pc Ls st)) := by
  subst hp
  obtain ⟨locs, Y, -, -, -⟩ := X
  exact Go.back (fun t kt => Y.ldc2Long C.1 C.ow (mvT C.hZ w) (g := mkF m pc Ls st) rfl (C.cd hd) t kt) hr
variable {kc kn : Nat} {Qy : Option Value → Heap → Prop}
theorem go_leave (C : Cx p s m meth c Z a0 own bytes maxL ret nm) (X : St Z p l e R s m args below meth c n0 T h k n) {v : Option Value} {f : JFrame} (hv : meth.sig.returnType = none → v = none) (hQ : Qy v h) (hk : k ≤ kc) (hn : n ≤ kn)
    (go : ∀ {locs : List Loc} (Y : Stand p l e R s m args below meth c T locs k n) {fs : List Frame}, (∀ (f : JFrame) (acts : List Action), f.method = m → f.locked = none → f.entered = [] → (doReturn e (T.setTop f) acts v).1 = T.setFrames fs) → Steps p.tables e below (T.setTop f) (T.setFrames fs)) :
    Go p e below (FinQ s kc kn n0 Qy) (T.setTop f) := by
  obtain ⟨locs, Y, N, -, rfl⟩ := X
  obtain ⟨fs, hr, hrun, hended, hW, hsame⟩ := Y.leave hv C.lk
  exact ⟨_, _, go Y hr, hrun, hended, _, _, rfl, ⟨N, hQ⟩, ⟨_, rfl⟩, hW, hsame.mono hk hn⟩
theorem go_ret0 (C : Cx p s m meth c Z a0 own bytes maxL none nm) (X : St Z p l e R s m args below meth c n0 T h k n) (hd : decode bytes pc = .ok (.return_, 1)) (hQ : Qy none h) (hk : k ≤ kc) (hn : n ≤ kn) : Go p e below (FinQ s kc kn n0 Qy) (T.setTop (mkF m pc Ls [])) :=
  go_leave C X (fun _ => rfl) hQ hk hn fun Y _ hr => Y.returnOut C.1 C.rt (C.cd hd) hr
theorem go_retI (C : Cx p s m meth c Z a0 own bytes maxL (some .int) nm) (X : St Z p l e R s m args below meth c n0 T h k n) {z : Int32} (hd : decode bytes pc = .ok (.ireturn, 1)) (hQ : Qy (some (.int z)) h) (hk : k ≤ kc) (hn : n ≤ kn) : Go p e below (FinQ s kc kn n0 Qy) (T.setTop (mkF m pc Ls (.int z :: st))) :=
  go_leave C X (fun q => by rw [C.rt] at q; cases q) hQ hk hn fun Y _ hr => retOut Y C.1 C.rt rfl (Or.inl ⟨rfl, Or.inl rfl, _, rfl⟩) (C.cd hd) hr
theorem go_retJ (C : Cx p s m meth c Z a0 own bytes maxL (some .long) nm) (X : St Z p l e R s m args below meth c n0 T h k n) {z : Int64} (hd : decode bytes pc = .ok (.lreturn, 1)) (hQ : Qy (some (.long z)) h) (hk : k ≤ kc) (hn : n ≤ kn) : Go p e below (FinQ s kc kn n0 Qy) (T.setTop (mkF m pc Ls (.long z :: st))) :=
  go_leave C X (fun q => by rw [C.rt] at q; cases q) hQ hk hn fun Y _ hr => retOut Y C.1 C.rt rfl (Or.inr (Or.inl ⟨rfl, rfl, _, rfl⟩)) (C.cd hd) hr
theorem go_retD (C : Cx p s m meth c Z a0 own bytes maxL (some .double) nm) (X : St Z p l e R s m args below meth c n0 T h k n) {z : UInt64} (hd : decode bytes pc = .ok (.dreturn, 1)) (hQ : Qy (some (.double z)) h) (hk : k ≤ kc) (hn : n ≤ kn) : Go p e below (FinQ s kc kn n0 Qy) (T.setTop (mkF m pc Ls (.double z :: st))) :=
  go_leave C X (fun q => by rw [C.rt] at q; cases q) hQ hk hn fun Y _ hr => retOut Y C.1 C.rt rfl (Or.inr (Or.inr (Or.inl ⟨rfl, rfl, _, rfl⟩))) (C.cd hd) hr
theorem go_retA {ty : FieldType} (C : Cx p s m meth c Z a0 own bytes maxL (some ty) nm) (X : St Z p l e R s m args below meth c n0 T h k n) {v : Value} (hd : decode bytes pc = .ok (.areturn, 1)) (ht : ty.isReference = true) (hv : v.isRef = true) (hQ : Qy (some v) h) (hk : k ≤ kc) (hn : n ≤ kn) : Go p e below (FinQ s kc kn n0 Qy) (T.setTop (mkF m pc Ls (v :: st))) :=
  go_leave C X (fun q => by rw [C.rt] at q; cases q) hQ hk hn fun Y _ hr => retOut Y C.1 C.rt (by cases ty <;> first | (cases ht; done) | rfl) (Or.inr (Or.inr (Or.inr (Or.inr ⟨rfl, ht, hv⟩)))) (C.cd hd) hr
theorem go_retN {ty : FieldType} (C : Cx p s m meth c Z a0 own bytes maxL (some ty) nm) (X : St Z p l e R s m args below meth c n0 T h k n) {z z' : Int32} (ht : ty = .boolean ∨ ty = .byte ∨ ty = .char ∨ ty = .short) (hz : nar ty z = z') (hd : decode bytes pc = .ok (.ireturn, 1)) (hQ : Qy (some (.int z')) h) (hk : k ≤ kc) (hn : n ≤ kn) : Go p e below (FinQ s kc kn n0 Qy) (T.setTop (mkF m pc Ls (.int z :: st))) := by
  subst hz
  exact go_leave C X (fun q => by rw [C.rt] at q; cases q) hQ hk hn fun Y _ hr => retN Y C.1 C.rt ht (C.cd hd) hr
/-! calls by the callee's contract -/
variable {idx : Nat} {y : MethodName} {yb : ByteArray} {yl : Nat} {yr : Option FieldType} {rm : Room} {as' : Array Value} {QY : Option Value → Heap → Prop} {argsL rest : List Value}
theorem con_back (C : Cx p s m meth c Z a0 own bytes maxL ret nm) (hM : Con l Z y yb yl yr rm as' h n0 QY) {W : Nat} (wc : (Jvm.Cond.code y yb yl yr).before a0 Z = true) (wz : (Jvm.Cond.initialized y.cls).before a0 Z = true) (hf : rm.frames + 1 ≤ R.frames) (hl : W + (yl + 11) + rm.locals ≤ R.locals) :
    Back l R p e below s args y 3 W (fun A a => a = as' ∧ A.U.heap = h ∧ A.cells + rm.cells ≤ R.cells ∧ A.slots + rm.slots ≤ R.slots) (fun A _ v B => ∃ L, (Fr n0 L ∧ QY v B.U.heap) ∧ B.locs = A.locs ++ L ∧ B.cells = A.cells + rm.cells ∧ B.slots = A.slots + rm.slots) :=
  backOf (Q := fun v h' L => Fr n0 L ∧ QY v h') (hM []) C.hZ wc wz hf hl
theorem go_callS (C : Cx p s m meth c Z a0 own bytes maxL ret nm) (X : St Z p l e R s m args below meth c n0 T h k n) (wl : (Jvm.Cond.methodLink own idx y).before a0 Z = true) (ws : (Jvm.Cond.static y).before a0 Z = true) (wi : (Jvm.Cond.initialized y.cls).before a0 Z = true) (wc : (Jvm.Cond.code y yb yl yr).before a0 Z = true)
    (hM : Con l Z y yb yl yr rm as' h n0 QY) (hlen : ∀ sig, parseMethodDescriptor y.desc = some sig → argsL.length = sig.parameters.length) (ha : argsL.toArray = as') (hy : y.cls ≠ "java/lang/invoke/MethodHandle" ∧ y.cls ≠ "java/lang/invoke/VarHandle")
    (hf : rm.frames + 1 ≤ R.frames) (hl : (rest.map fun v => v.category).sum + (yl + 11) + rm.locals ≤ R.locals) (hc : k + rm.cells ≤ R.cells) (hn : n + rm.slots ≤ R.slots) (hst : st = argsL.reverse ++ rest) (hsz : Ls.size = maxL) (hp : pc + 3 = pc') (hd : decode bytes pc = .ok (.invokestatic idx, 3))
    (hr : ∀ T' h' v, QY v h' → St Z p l e R s m args below meth c n0 T' h' (k + rm.cells) (n + rm.slots) → Go p e below Q (T'.setTop (mkF m pc' Ls (v.toList ++ rest)))) : Go p e below Q (T.setTop (mkF m pc Ls st)) := by
  subst hp; subst ha; subst hst
  obtain ⟨locs, Y, N, zs, eT⟩ := X
  obtain ⟨v, _, ⟨T', L', k', n'⟩, -, X', ⟨Lc, ⟨N', hQ⟩, l1, y1, z1⟩, stp⟩ := Jvm.LawKit.callS Y C.1 C.ow (mvT C.hZ wl) (mvT C.hZ ws) (mvT C.hZ wi) (mvT C.hZ wc) hy (con_back C hM (W := (rest.map fun v => v.category).sum) wc wi hf hl) (g := mkF m pc Ls (argsL.reverse ++ rest)) rfl (hsz.trans C.ml.symm) (argsL := argsL) (rest := rest) hlen rfl (by show 2 * 0 + _ ≤ _; omega) (C.cd hd) (fun _ _ => ⟨rfl, eT, hc, hn⟩)
  dsimp only [Pt.U, Pt.locs, Pt.cells, Pt.slots] at X' l1 y1 z1 stp hQ
  subst l1 y1 z1
  exact Go.back stp (hr T' T'.heap v hQ ⟨_, X', N.app N', zs, rfl⟩)
theorem go_special (C : Cx p s m meth c Z a0 own bytes maxL ret nm) (X : St Z p l e R s m args below meth c n0 T h k n) {a : Addr} (wl : (Jvm.Cond.methodLink own idx y).before a0 Z = true) (ws : (Jvm.Cond.instanceMethod y).before a0 Z = true) (wi : (Jvm.Cond.initialized y.cls).before a0 Z = true) (wc : (Jvm.Cond.code y yb yl none).before a0 Z = true) (hy1 : y.name = "<init>")
    (hM : Con l Z y yb yl none rm as' h n0 QY) (hlen : ∀ sig, parseMethodDescriptor y.desc = some sig → argsL.length = sig.parameters.length) (ha : (.ref a :: argsL).toArray = as') (hy : y.cls ≠ "java/lang/invoke/MethodHandle" ∧ y.cls ≠ "java/lang/invoke/VarHandle")
    (hf : rm.frames + 1 ≤ R.frames) (hl : (rest.map fun v => v.category).sum + (yl + 11) + rm.locals ≤ R.locals) (hc : k + rm.cells ≤ R.cells) (hn : n + rm.slots ≤ R.slots) (hst : st = argsL.reverse ++ .ref a :: rest) (hsz : Ls.size = maxL) (hp : pc + 3 = pc') (hd : decode bytes pc = .ok (.invokespecial idx, 3))
    (hr : ∀ T' h' v, QY v h' → St Z p l e R s m args below meth c n0 T' h' (k + rm.cells) (n + rm.slots) → Go p e below Q (T'.setTop (mkF m pc' Ls (v.toList ++ rest)))) : Go p e below Q (T.setTop (mkF m pc Ls st)) := by
  subst hp; subst ha; subst hst
  obtain ⟨locs, Y, N, zs, eT⟩ := X
  obtain ⟨v, _, ⟨T', L', k', n'⟩, -, X', ⟨Lc, ⟨N', hQ⟩, l1, y1, z1⟩, stp⟩ := Y.specialBack C.1 hy1 C.ow (mvT C.hZ wl) (mvT C.hZ ws) (mvT C.hZ wc) hy (con_back C hM (W := (rest.map fun v => v.category).sum) wc wi hf hl) (g := mkF m pc Ls (argsL.reverse ++ .ref a :: rest)) rfl (hsz.trans C.ml.symm) (Steps.refl _) (a := a) (argsL := argsL) (rest := rest) hlen rfl (by show 2 * 0 + _ ≤ _; omega) (C.cd hd) (fun _ _ => ⟨rfl, eT, hc, hn⟩)
  dsimp only [Pt.U, Pt.locs, Pt.cells, Pt.slots] at X' l1 y1 z1 stp hQ
  subst l1 y1 z1
  exact Go.back (fun t kt => stp.trans kt) (hr T' T'.heap v hQ ⟨_, X', N.app N', zs, rfl⟩)
theorem go_virtual (C : Cx p s m meth c Z a0 own bytes maxL ret nm) (X : St Z p l e R s m args below meth c n0 T h k n) {a : Addr} {cn : String} {y0 : MethodName} (E : Exa Z h a cn) (wl : (Jvm.Cond.methodLink own idx y0).before a0 Z = true) (wd : (Jvm.Cond.declares y0).before a0 Z = true) (hnf : NotFace s y0) (wsel : (Jvm.Cond.selects cn y0 y).before a0 Z = true) (ws : (Jvm.Cond.instanceMethod y).before a0 Z = true) (wi : (Jvm.Cond.initialized y.cls).before a0 Z = true) (wc : (Jvm.Cond.code y yb yl yr).before a0 Z = true)
    (hM : Con l Z y yb yl yr rm as' h n0 QY) (hlen : ∀ sig, parseMethodDescriptor y0.desc = some sig → argsL.length = sig.parameters.length) (ha : (.ref a :: argsL).toArray = as') (hy : y0.cls ≠ "java/lang/invoke/MethodHandle" ∧ y0.cls ≠ "java/lang/invoke/VarHandle")
    (hf : rm.frames + 1 ≤ R.frames) (hl : (rest.map fun v => v.category).sum + (yl + 11) + rm.locals ≤ R.locals) (hc : k + rm.cells ≤ R.cells) (hn : n + rm.slots ≤ R.slots) (hst : st = argsL.reverse ++ .ref a :: rest) (hsz : Ls.size = maxL) (hp : pc + 3 = pc') (hd : decode bytes pc = .ok (.invokevirtual idx, 3))
    (hr : ∀ T' h' v, QY v h' → St Z p l e R s m args below meth c n0 T' h' (k + rm.cells) (n + rm.slots) → Go p e below Q (T'.setTop (mkF m pc' Ls (v.toList ++ rest)))) : Go p e below Q (T.setTop (mkF m pc Ls st)) := by
  subst hp; subst ha; subst hst
  obtain ⟨locs, Y, N, zs, eT⟩ := X
  obtain ⟨cq, kq, qa, qb, qc⟩ := isOf C.hZ eT E
  obtain ⟨v, _, ⟨T', L', k', n'⟩, -, X', ⟨Lc, ⟨N', hQ⟩, l1, y1, z1⟩, stp⟩ := Y.virtualBack C.1 C.ow (mvT C.hZ wl) (mvT C.hZ wd) hnf (mvT C.hZ wsel) (mvT C.hZ ws) hy (con_back C hM (W := (rest.map fun v => v.category).sum) wc wi hf hl) qa qc (g := mkF m pc Ls (argsL.reverse ++ .ref a :: rest)) rfl (hsz.trans C.ml.symm) (Steps.refl _) (argsL := argsL) (rest := rest) hlen rfl (by show 2 * 0 + _ ≤ _; omega) (C.cd hd) (fun _ _ => ⟨rfl, eT, hc, hn⟩)
  dsimp only [Pt.U, Pt.locs, Pt.cells, Pt.slots] at X' l1 y1 z1 stp hQ
  subst l1 y1 z1
  exact Go.back (fun t kt => stp.trans kt) (hr T' T'.heap v hQ ⟨_, X', N.app N', zs, rfl⟩)
theorem go_private (C : Cx p s m meth c Z a0 own bytes maxL ret nm) (X : St Z p l e R s m args below meth c n0 T h k n) {a : Addr} {cn : String} (E : Exa Z h a cn) (wl : (Jvm.Cond.methodLink own idx y).before a0 Z = true) (ws : (Jvm.Cond.instanceMethod y).before a0 Z = true) (wsel : (Jvm.Cond.selects y.cls y y).before a0 Z = true) (wp : (Jvm.Cond.privateMethod y).before a0 Z = true) (wi : (Jvm.Cond.initialized y.cls).before a0 Z = true) (wc : (Jvm.Cond.code y yb yl yr).before a0 Z = true)
    (hM : Con l Z y yb yl yr rm as' h n0 QY) (hlen : ∀ sig, parseMethodDescriptor y.desc = some sig → argsL.length = sig.parameters.length) (ha : (.ref a :: argsL).toArray = as') (hy : y.cls ≠ "java/lang/invoke/MethodHandle" ∧ y.cls ≠ "java/lang/invoke/VarHandle")
    (hf : rm.frames + 1 ≤ R.frames) (hl : (rest.map fun v => v.category).sum + (yl + 11) + rm.locals ≤ R.locals) (hc : k + rm.cells ≤ R.cells) (hn : n + rm.slots ≤ R.slots) (hst : st = argsL.reverse ++ .ref a :: rest) (hsz : Ls.size = maxL) (hp : pc + 3 = pc') (hd : decode bytes pc = .ok (.invokevirtual idx, 3))
    (hr : ∀ T' h' v, QY v h' → St Z p l e R s m args below meth c n0 T' h' (k + rm.cells) (n + rm.slots) → Go p e below Q (T'.setTop (mkF m pc' Ls (v.toList ++ rest)))) : Go p e below Q (T.setTop (mkF m pc Ls st)) := by
  subst hp; subst ha; subst hst
  obtain ⟨locs, Y, N, zs, eT⟩ := X
  obtain ⟨cq, q1, q2⟩ := E.cell
  obtain ⟨v, _, ⟨T', L', k', n'⟩, -, X', ⟨Lc, ⟨N', hQ⟩, l1, y1, z1⟩, stp⟩ := Y.privateBack C.1 C.ow (mvT C.hZ wl) (mvT C.hZ ws) (mvT C.hZ wsel) (Cond.privateMethod_at (mvP C.hZ wp (args := #[]))) (mvT C.hZ wc) hy (con_back C hM (W := (rest.map fun v => v.category).sum) wc wi hf hl) (g := mkF m pc Ls (argsL.reverse ++ .ref a :: rest)) rfl (hsz.trans C.ml.symm) (Steps.refl _) (a := a) (by rw [eT]; exact q1) q2 (argsL := argsL) (rest := rest) hlen rfl (by show 2 * 0 + _ ≤ _; omega) (C.cd hd) (fun _ _ => ⟨rfl, eT, hc, hn⟩)
  dsimp only [Pt.U, Pt.locs, Pt.cells, Pt.slots] at X' l1 y1 z1 stp hQ
  subst l1 y1 z1
  exact Go.back (fun t kt => stp.trans kt) (hr T' T'.heap v hQ ⟨_, X', N.app N', zs, rfl⟩)
theorem go_initO (C : Cx p s m meth c Z a0 own bytes maxL ret nm) (X : St Z p l e R s m args below meth c n0 T h k n) {a : Addr} (w1 : (Jvm.Cond.methodLink own idx Lib.objectInit).before a0 Z = true) (w2 : (Jvm.Cond.instanceMethod Lib.objectInit).before a0 Z = true) (w3 : (Jvm.Cond.code Lib.objectInit ⟨#[0xb1]⟩ 1 none).before a0 Z = true)
    (hf : 1 ≤ R.frames) (hl : (st.map fun v => v.category).sum + 12 ≤ R.locals) (hsz : Ls.size = maxL) (hp : pc + 3 = pc') (hd : decode bytes pc = .ok (.invokespecial idx, 3))
    (hr : ∀ T', St Z p l e R s m args below meth c n0 T' h k n → Go p e below Q (T'.setTop (mkF m pc' Ls st))) : Go p e below Q (T.setTop (mkF m pc Ls (.ref a :: st))) := by
  subst hp
  obtain ⟨locs, Y, N, zs, eT⟩ := X
  obtain ⟨T', X', e', stp⟩ := initO Y C.1 C.hZ C.ow w1 w2 w3 eT (g := mkF m pc Ls (.ref a :: st)) rfl (hsz.trans C.ml.symm) rfl (C.cd hd) hf (W := (st.map fun v => v.category).sum) (by show 2 * 0 + _ ≤ _; omega) hl
  exact Go.back stp (hr T' ⟨_, X', N, zs, e'⟩)
/-! fields, new objects, arrays -/
theorem go_getF (C : Cx p s m meth c Z a0 own bytes maxL ret nm) (X : St Z p l e R s m args below meth c n0 T h k n) {R0 O fn d : String} {a : Addr} {v : Value} (w : (Jvm.Cond.fieldLink own idx R0 fn d).before a0 Z = true) (via : Via Z R0 O fn d) (F : Fld Z h a O fn d v) (hp : pc + 3 = pc') (hd : decode bytes pc = .ok (.getfield idx, 3))
    (hr : ∀ T', St Z p l e R s m args below meth c n0 T' h k n → Go p e below Q (T'.setTop (mkF m pc' Ls (v :: st)))) : Go p e below Q (T.setTop (mkF m pc Ls (.ref a :: st))) := by
  subst hp
  obtain ⟨locs, Y, N, zs, eT⟩ := X
  obtain ⟨T', X', e', stp⟩ := getF Y C.1 C.hZ C.ow (host := "") (Or.inl w) via eT F (g := mkF m pc Ls (.ref a :: st)) rfl rfl (C.cd hd)
  exact Go.back stp (hr T' ⟨_, X', N, zs, e'⟩)
theorem go_getFN (C : Cx p s m meth c Z a0 own bytes maxL ret nm) (X : St Z p l e R s m args below meth c n0 T h k n) {R0 O fn d host : String} {a : Addr} {v : Value} (w : (Jvm.Cond.fieldLinkNest own idx R0 fn d host).before a0 Z = true) (via : Via Z R0 O fn d) (F : Fld Z h a O fn d v) (hp : pc + 3 = pc') (hd : decode bytes pc = .ok (.getfield idx, 3))
    (hr : ∀ T', St Z p l e R s m args below meth c n0 T' h k n → Go p e below Q (T'.setTop (mkF m pc' Ls (v :: st)))) : Go p e below Q (T.setTop (mkF m pc Ls (.ref a :: st))) := by
  subst hp
  obtain ⟨locs, Y, N, zs, eT⟩ := X
  obtain ⟨T', X', e', stp⟩ := getF Y C.1 C.hZ C.ow (host := host) (Or.inr w) via eT F (g := mkF m pc Ls (.ref a :: st)) rfl rfl (C.cd hd)
  exact Go.back stp (hr T' ⟨_, X', N, zs, e'⟩)
theorem go_getS (C : Cx p s m meth c Z a0 own bytes maxL ret nm) (X : St Z p l e R s m args below meth c n0 T h k n) {O fn d : String} {v : Value} (w : (Jvm.Cond.fieldLink own idx O fn d).before a0 Z = true) (F : Sta Z h O fn d v) (hp : pc + 3 = pc') (hd : decode bytes pc = .ok (.getstatic idx, 3))
    (hr : ∀ T', St Z p l e R s m args below meth c n0 T' h k n → Go p e below Q (T'.setTop (mkF m pc' Ls (v :: st)))) : Go p e below Q (T.setTop (mkF m pc Ls st)) := by
  subst hp
  obtain ⟨locs, Y, N, zs, eT⟩ := X
  obtain ⟨T', X', e', stp⟩ := getS2 Y C.1 C.hZ C.ow (host := "") (Or.inl w) Via.refl eT F (g := mkF m pc Ls st) rfl (C.cd hd)
  exact Go.back stp (hr T' ⟨_, X', N, zs, e'⟩)
theorem go_putF (C : Cx p s m meth c Z a0 own bytes maxL ret nm) (X : St Z p l e R s m args below meth c n0 T h k n) {R0 O fn d cn : String} {kk : Nat} {ty : FieldType} {a : Addr} {v old : Value} (w : (Jvm.Cond.fieldLink own idx R0 fn d).before a0 Z = true) (via : Via Z R0 O fn d) (F : Fld Z h a O fn d old) (E : Exa Z h a cn) (L : (Jvm.Cond.lays cn O fn d).before a0 Z = true ∨ ((Jvm.Cond.laysFinal cn O fn d).before a0 Z = true ∧ own = O ∧ meth.name = "<init>")) (wi : (Jvm.Cond.instantiable cn kk).before a0 Z = true) (ga : n0 ≤ a)
    (hty : parseFieldDescriptor d = some ty) (hn : narrow ty v = v) (hf : fits ty v = true) (hp : pc + 3 = pc') (hd : decode bytes pc = .ok (.putfield idx, 3))
    (hr : ∀ T' h', Wr h h' a (Jvm.RoadKit.slotOf Z O fn d) v → St Z p l e R s m args below meth c n0 T' h' k n → Go p e below Q (T'.setTop (mkF m pc' Ls st))) : Go p e below Q (T.setTop (mkF m pc Ls (v :: .ref a :: st))) := by
  subst hp
  obtain ⟨locs, Y, N, zs, eT⟩ := X
  obtain ⟨T', h', X', e', W, stp⟩ := putF Y C.1 C.hZ C.ow (host := "") (Or.inl w) via eT F E L wi hty hn hf (g := mkF m pc Ls (v :: .ref a :: st)) rfl rfl (C.cd hd)
  exact Go.back stp (hr T' h' W ⟨_, X', Fr.snoc X' N ga, zs, e'⟩)
theorem go_putFN (C : Cx p s m meth c Z a0 own bytes maxL ret nm) (X : St Z p l e R s m args below meth c n0 T h k n) {R0 O fn d cn : String} {kk : Nat} {ty : FieldType} {a : Addr} {v v' old : Value} (w : (Jvm.Cond.fieldLink own idx R0 fn d).before a0 Z = true) (via : Via Z R0 O fn d) (F : Fld Z h a O fn d old) (E : Exa Z h a cn) (L : (Jvm.Cond.lays cn O fn d).before a0 Z = true ∨ ((Jvm.Cond.laysFinal cn O fn d).before a0 Z = true ∧ own = O ∧ meth.name = "<init>")) (wi : (Jvm.Cond.instantiable cn kk).before a0 Z = true) (ga : n0 ≤ a)
    (hty : parseFieldDescriptor d = some ty) (hn : narrow ty v = v') (hf : fits ty v' = true) (hp : pc + 3 = pc') (hd : decode bytes pc = .ok (.putfield idx, 3))
    (hr : ∀ T' h', Wr h h' a (Jvm.RoadKit.slotOf Z O fn d) v' → St Z p l e R s m args below meth c n0 T' h' k n → Go p e below Q (T'.setTop (mkF m pc' Ls st))) : Go p e below Q (T.setTop (mkF m pc Ls (v :: .ref a :: st))) := by
  subst hp
  obtain ⟨locs, Y, N, zs, eT⟩ := X
  obtain ⟨T', h', X', e', W, stp⟩ := putFN Y C.1 C.hZ C.ow w via eT F E L wi hty hn hf (g := mkF m pc Ls (v :: .ref a :: st)) rfl rfl (C.cd hd)
  exact Go.back stp (hr T' h' W ⟨_, X', Fr.snoc X' N ga, zs, e'⟩)
theorem go_new (C : Cx p s m meth c Z a0 own bytes maxL ret nm) (X : St Z p l e R s m args below meth c n0 T h k n) {cn : String} {kk : Nat} (w : (Jvm.Cond.classLink own idx cn).before a0 Z = true) (wi : (Jvm.Cond.instantiable cn kk).before a0 Z = true) (wz : (Jvm.Cond.initialized cn).before a0 Z = true) (hc : k + 1 ≤ R.cells) (hl : n + kk ≤ R.slots) (hp : pc + 3 = pc') (hd : decode bytes pc = .ok (.new idx, 3))
    (hr : ∀ T' h' a, a = h.size → n0 ≤ a → Ext h h' → Exa Z h' a cn → (∀ {O fn d : String} {ty : FieldType}, Laid Z a0 cn O fn d → parseFieldDescriptor d = some ty → Fld Z h' a O fn d (defaultValue ty)) → St Z p l e R s m args below meth c n0 T' h' (k + 1) (n + kk) → Go p e below Q (T'.setTop (mkF m pc' Ls (.ref a :: st)))) : Go p e below Q (T.setTop (mkF m pc Ls st)) := by
  subst hp
  have hsz := X.sz
  obtain ⟨locs, Y, N, zs, eT⟩ := X
  obtain ⟨T', h', X', e', E, A, D, -, stp⟩ := newO Y C.1 C.hZ C.ow w wi wz eT (g := mkF m pc Ls st) rfl (C.cd hd) hc hl
  exact Go.back stp (hr T' h' _ rfl hsz E A D ⟨_, X', N, zs, e'⟩)
/-- an array whose components are vs -/
def La (Z : State) (h : Heap) (a : Addr) (ty : FieldType) (vs : List Value) : Prop := ∃ c : Cell, Arr Z h a c ty ∧ c.slots = vs.toArray ∧ vs.length < 2 ^ 31 ∧ ∀ v ∈ vs, fits ty v = true
theorem La.lt {a : Addr} {ty : FieldType} {vs : List Value} (F : La Z h a ty vs) : a < h.size := by obtain ⟨c, A, -⟩ := F; exact A.lt
theorem La.len {a : Addr} {ty : FieldType} {vs : List Value} (F : La Z h a ty vs) : vs.length < 2 ^ 31 := by obtain ⟨c, A, -, q, -⟩ := F; exact q
theorem La.ext {h' : Heap} {a : Addr} {ty : FieldType} {vs : List Value} (F : La Z h a ty vs) (E : Ext h h') : La Z h' a ty vs := by obtain ⟨c, A, r⟩ := F; exact ⟨c, A.ext E, r⟩
theorem La.other {h' : Heap} {a b : Addr} {sl : Nat} {v : Value} {ty : FieldType} {vs : List Value} (F : La Z h b ty vs) (W : Wr h h' a sl v) (q : b ≠ a) : La Z h' b ty vs := by obtain ⟨c, A, r⟩ := F; exact ⟨c, A.other W q, r⟩
theorem La.keep {h' : Heap} {a : Addr} {ws : List Addr} {ty : FieldType} {vs : List Value} (F : La Z h a ty vs) (K : Keep h h' ws) (q : a ∉ ws) : La Z h' a ty vs := by obtain ⟨c, A, r⟩ := F; exact ⟨c, ⟨K.2.1 a c A.1 q, A.2⟩, r⟩
theorem La.set {h' : Heap} {a : Addr} {j : Nat} {v : Value} {ty : FieldType} {vs : List Value} (F : La Z h a ty vs) (W : Wr h h' a j v) (hv : fits ty v = true) : La Z h' a ty (vs.set j v) := by
  obtain ⟨c, A, e1, e2, e3⟩ := F
  refine ⟨_, A.same W, ?_, by simpa using e2, fun w hw => ?_⟩
  · simp [Cell.setSlot, e1]
  · rcases List.mem_or_eq_of_mem_set hw with q | q
    · exact e3 w q
    · subst q; exact hv
theorem clamp_eq {j : Int32} (q : 0 ≤ j.toInt) : (j.toNatClampNeg : Int) = j.toInt := by show ((j.toInt.toNat : Nat) : Int) = _; omega
theorem neg_not {j : Int32} (q : 0 ≤ j.toInt) : ¬ j < 0 := by rw [Int32.lt_iff_toInt_lt]; have : (0 : Int32).toInt = 0 := rfl; omega
theorem La.inb {c : Cell} {vs : List Value} {j : Int32} {v : Value} (e : c.slots = vs.toArray) (q : 0 ≤ j.toInt) (hv : vs[j.toNatClampNeg]? = some v) : ¬ (j < 0 ∨ c.slots.size ≤ j.toNatClampNeg) ∧ c.slots[j.toNatClampNeg]? = some v := by
  obtain ⟨hl, -⟩ := List.getElem?_eq_some_iff.mp hv
  refine ⟨fun r => r.elim (neg_not q) fun r => ?_, by rw [e]; simpa using hv⟩
  rw [e] at r; simp at r; omega
theorem go_alen (C : Cx p s m meth c Z a0 own bytes maxL ret nm) (X : St Z p l e R s m args below meth c n0 T h k n) {a : Addr} {ty : FieldType} {vs : List Value} {z : Int32} (A : La Z h a ty vs) (hz : vs.length.toInt32 = z) (hp : pc + 1 = pc') (hd : decode bytes pc = .ok (.arraylength, 1)) (hr : Go p e below Q (T.setTop (mkF m pc' Ls (.int z :: st)))) : Go p e below Q (T.setTop (mkF m pc Ls (.ref a :: st))) := by
  subst hp
  obtain ⟨locs, Y, N, zs, eT⟩ := X
  obtain ⟨cl, B, e1, e2, e3⟩ := A
  have ez : cl.slots.size.toInt32 = z := by rw [e1]; simpa using hz
  subst ez
  exact Go.back (fun t kt => Y.arraylength C.1 (by rw [eT]; exact B.1) (State.isArrayOf_alike C.hZ.alike B.2.1) (g := mkF m pc Ls (.ref a :: st)) rfl rfl (C.cd hd) t kt) hr

theorem go_iaload (C : Cx p s m meth c Z a0 own bytes maxL ret nm) (X : St Z p l e R s m args below meth c n0 T h k n) {a : Addr} {vs : List Value} {j : Int32} {v : Value} (A : La Z h a .int vs) (q : 0 ≤ j.toInt) (hv : vs[j.toNatClampNeg]? = some v) (hp : pc + 1 = pc') (hd : decode bytes pc = .ok (.iaload, 1)) (hr : Go p e below Q (T.setTop (mkF m pc' Ls (v :: st)))) : Go p e below Q (T.setTop (mkF m pc Ls (.int j :: .ref a :: st))) := by
  subst hp
  obtain ⟨locs, Y, N, zs, eT⟩ := X
  obtain ⟨cl, B, e1, e2, e3⟩ := A
  obtain ⟨i1, i2⟩ := La.inb e1 q hv
  exact Go.back (fun t kt => Y.iaload C.1 (by rw [eT]; exact B.1) (State.isArrayOf_alike C.hZ.alike B.2.1) B.2.2 i1 i2 (g := mkF m pc Ls (.int j :: .ref a :: st)) rfl rfl (C.cd hd) t kt) hr
theorem go_laload (C : Cx p s m meth c Z a0 own bytes maxL ret nm) (X : St Z p l e R s m args below meth c n0 T h k n) {a : Addr} {vs : List Value} {j : Int32} {v : Value} (A : La Z h a .long vs) (q : 0 ≤ j.toInt) (hv : vs[j.toNatClampNeg]? = some v) (hp : pc + 1 = pc') (hd : decode bytes pc = .ok (.laload, 1)) (hr : Go p e below Q (T.setTop (mkF m pc' Ls (v :: st)))) : Go p e below Q (T.setTop (mkF m pc Ls (.int j :: .ref a :: st))) := by
  subst hp
  obtain ⟨locs, Y, N, zs, eT⟩ := X
  obtain ⟨cl, B, e1, e2, e3⟩ := A
  obtain ⟨i1, i2⟩ := La.inb e1 q hv
  exact Go.back (fun t kt => Y.laload C.1 (by rw [eT]; exact B.1) (State.isArrayOf_alike C.hZ.alike B.2.1) B.2.2 i1 i2 (g := mkF m pc Ls (.int j :: .ref a :: st)) rfl rfl (C.cd hd) t kt) hr
theorem go_caload (C : Cx p s m meth c Z a0 own bytes maxL ret nm) (X : St Z p l e R s m args below meth c n0 T h k n) {a : Addr} {vs : List Value} {j : Int32} {v : Value} (A : La Z h a .char vs) (q : 0 ≤ j.toInt) (hv : vs[j.toNatClampNeg]? = some v) (hp : pc + 1 = pc') (hd : decode bytes pc = .ok (.caload, 1)) (hr : Go p e below Q (T.setTop (mkF m pc' Ls (v :: st)))) : Go p e below Q (T.setTop (mkF m pc Ls (.int j :: .ref a :: st))) := by
  subst hp
  obtain ⟨locs, Y, N, zs, eT⟩ := X
  obtain ⟨cl, B, e1, e2, e3⟩ := A
  obtain ⟨i1, i2⟩ := La.inb e1 q hv
  exact Go.back (fun t kt => Y.caload C.1 (by rw [eT]; exact B.1) (State.isArrayOf_alike C.hZ.alike B.2.1) B.2.2 i1 i2 (g := mkF m pc Ls (.int j :: .ref a :: st)) rfl rfl (C.cd hd) t kt) hr
theorem go_saload (C : Cx p s m meth c Z a0 own bytes maxL ret nm) (X : St Z p l e R s m args below meth c n0 T h k n) {a : Addr} {vs : List Value} {j : Int32} {v : Value} (A : La Z h a .short vs) (q : 0 ≤ j.toInt) (hv : vs[j.toNatClampNeg]? = some v) (hp : pc + 1 = pc') (hd : decode bytes pc = .ok (.saload, 1)) (hr : Go p e below Q (T.setTop (mkF m pc' Ls (v :: st)))) : Go p e below Q (T.setTop (mkF m pc Ls (.int j :: .ref a :: st))) := by
  subst hp
  obtain ⟨locs, Y, N, zs, eT⟩ := X
  obtain ⟨cl, B, e1, e2, e3⟩ := A
  obtain ⟨i1, i2⟩ := La.inb e1 q hv
  exact Go.back (fun t kt => Y.saload C.1 (by rw [eT]; exact B.1) (State.isArrayOf_alike C.hZ.alike B.2.1) B.2.2 i1 i2 (g := mkF m pc Ls (.int j :: .ref a :: st)) rfl rfl (C.cd hd) t kt) hr
theorem go_daload (C : Cx p s m meth c Z a0 own bytes maxL ret nm) (X : St Z p l e R s m args below meth c n0 T h k n) {a : Addr} {vs : List Value} {j : Int32} {v : Value} (A : La Z h a .double vs) (q : 0 ≤ j.toInt) (hv : vs[j.toNatClampNeg]? = some v) (hp : pc + 1 = pc') (hd : decode bytes pc = .ok (.daload, 1)) (hr : Go p e below Q (T.setTop (mkF m pc' Ls (v :: st)))) : Go p e below Q (T.setTop (mkF m pc Ls (.int j :: .ref a :: st))) := by
  subst hp
  obtain ⟨locs, Y, N, zs, eT⟩ := X
  obtain ⟨cl, B, e1, e2, e3⟩ := A
  obtain ⟨i1, i2⟩ := La.inb e1 q hv
  exact Go.back (fun t kt => Y.daload C.1 (by rw [eT]; exact B.1) (State.isArrayOf_alike C.hZ.alike B.2.1) B.2.2 i1 i2 (g := mkF m pc Ls (.int j :: .ref a :: st)) rfl rfl (C.cd hd) t kt) hr
theorem go_baloadBytes (C : Cx p s m meth c Z a0 own bytes maxL ret nm) (X : St Z p l e R s m args below meth c n0 T h k n) {a : Addr} {vs : List Value} {j : Int32} {v : Value} (A : La Z h a .byte vs) (q : 0 ≤ j.toInt) (hv : vs[j.toNatClampNeg]? = some v) (hp : pc + 1 = pc') (hd : decode bytes pc = .ok (.baload, 1)) (hr : Go p e below Q (T.setTop (mkF m pc' Ls (v :: st)))) : Go p e below Q (T.setTop (mkF m pc Ls (.int j :: .ref a :: st))) := by
  subst hp
  obtain ⟨locs, Y, N, zs, eT⟩ := X
  obtain ⟨cl, B, e1, e2, e3⟩ := A
  obtain ⟨i1, i2⟩ := La.inb e1 q hv
  exact Go.back (fun t kt => Y.baloadBytes C.1 (by rw [eT]; exact B.1) (State.isArrayOf_alike C.hZ.alike B.2.1) B.2.2 i1 i2 (g := mkF m pc Ls (.int j :: .ref a :: st)) rfl rfl (C.cd hd) t kt) hr
theorem go_baloadBooleans (C : Cx p s m meth c Z a0 own bytes maxL ret nm) (X : St Z p l e R s m args below meth c n0 T h k n) {a : Addr} {vs : List Value} {j : Int32} {v : Value} (A : La Z h a .boolean vs) (q : 0 ≤ j.toInt) (hv : vs[j.toNatClampNeg]? = some v) (hp : pc + 1 = pc') (hd : decode bytes pc = .ok (.baload, 1)) (hr : Go p e below Q (T.setTop (mkF m pc' Ls (v :: st)))) : Go p e below Q (T.setTop (mkF m pc Ls (.int j :: .ref a :: st))) := by
  subst hp
  obtain ⟨locs, Y, N, zs, eT⟩ := X
  obtain ⟨cl, B, e1, e2, e3⟩ := A
  obtain ⟨i1, i2⟩ := La.inb e1 q hv
  exact Go.back (fun t kt => Y.baloadBooleans C.1 (by rw [eT]; exact B.1) (State.isArrayOf_alike C.hZ.alike B.2.1) B.2.2 i1 i2 (g := mkF m pc Ls (.int j :: .ref a :: st)) rfl rfl (C.cd hd) t kt) hr
theorem go_aaload (C : Cx p s m meth c Z a0 own bytes maxL ret nm) (X : St Z p l e R s m args below meth c n0 T h k n) {a : Addr} {vs : List Value} {ty : FieldType} {j : Int32} {v : Value} (A : La Z h a ty vs) (ht : ty.isReference = true) (q : 0 ≤ j.toInt) (hv : vs[j.toNatClampNeg]? = some v) (hp : pc + 1 = pc') (hd : decode bytes pc = .ok (.aaload, 1)) (hr : Go p e below Q (T.setTop (mkF m pc' Ls (v :: st)))) : Go p e below Q (T.setTop (mkF m pc Ls (.int j :: .ref a :: st))) := by
  subst hp
  obtain ⟨locs, Y, N, zs, eT⟩ := X
  obtain ⟨cl, B, e1, e2, e3⟩ := A
  obtain ⟨i1, i2⟩ := La.inb e1 q hv
  exact Go.back (fun t kt => Y.aaload C.1 (by rw [eT]; exact B.1) (State.isArrayOf_alike C.hZ.alike B.2.1) ht B.2.2 i1 i2 (g := mkF m pc Ls (.int j :: .ref a :: st)) rfl rfl (C.cd hd) t kt) hr
theorem go_iastore (C : Cx p s m meth c Z a0 own bytes maxL ret nm) (X : St Z p l e R s m args below meth c n0 T h k n) {a : Addr} {vs : List Value} {j : Int32} {x : Int32} (A : La Z h a .int vs) (q : 0 ≤ j.toInt) (hj : j.toInt < vs.length) (ga : n0 ≤ a) (hp : pc + 1 = pc') (hd : decode bytes pc = .ok (.iastore, 1))
    (hr : ∀ T' h', Wr h h' a j.toNatClampNeg (.int x) → La Z h' a .int (vs.set j.toNatClampNeg (.int x)) → St Z p l e R s m args below meth c n0 T' h' k n → Go p e below Q (T'.setTop (mkF m pc' Ls st))) : Go p e below Q (T.setTop (mkF m pc Ls (.int x :: .int j :: .ref a :: st))) := by
  subst hp
  obtain ⟨locs, Y, N, zs, eT⟩ := X
  have A' := A
  obtain ⟨cl, B, e1, e2, e3⟩ := A
  have i1 : ¬ (j < 0 ∨ cl.slots.size ≤ j.toNatClampNeg) := fun r => r.elim (neg_not q) fun r => by
    rw [e1] at r; simp at r; have := clamp_eq q; omega
  obtain ⟨T', h', X', e', W, stp⟩ := stI Y C.1 C.hZ eT B i1 (g := mkF m pc Ls (.int x :: .int j :: .ref a :: st)) rfl rfl (C.cd hd)
  exact Go.back stp (hr T' h' W (A'.set W rfl) ⟨_, X', Fr.snoc X' N ga, zs, e'⟩)
theorem go_lastore (C : Cx p s m meth c Z a0 own bytes maxL ret nm) (X : St Z p l e R s m args below meth c n0 T h k n) {a : Addr} {vs : List Value} {j : Int32} {x : Int64} (A : La Z h a .long vs) (q : 0 ≤ j.toInt) (hj : j.toInt < vs.length) (ga : n0 ≤ a) (hp : pc + 1 = pc') (hd : decode bytes pc = .ok (.lastore, 1))
    (hr : ∀ T' h', Wr h h' a j.toNatClampNeg (.long x) → La Z h' a .long (vs.set j.toNatClampNeg (.long x)) → St Z p l e R s m args below meth c n0 T' h' k n → Go p e below Q (T'.setTop (mkF m pc' Ls st))) : Go p e below Q (T.setTop (mkF m pc Ls (.long x :: .int j :: .ref a :: st))) := by
  subst hp
  obtain ⟨locs, Y, N, zs, eT⟩ := X
  have A' := A
  obtain ⟨cl, B, e1, e2, e3⟩ := A
  have i1 : ¬ (j < 0 ∨ cl.slots.size ≤ j.toNatClampNeg) := fun r => r.elim (neg_not q) fun r => by
    rw [e1] at r; simp at r; have := clamp_eq q; omega
  obtain ⟨T', h', X', e', W, stp⟩ := stJ Y C.1 C.hZ eT B i1 (g := mkF m pc Ls (.long x :: .int j :: .ref a :: st)) rfl rfl (C.cd hd)
  exact Go.back stp (hr T' h' W (A'.set W rfl) ⟨_, X', Fr.snoc X' N ga, zs, e'⟩)
theorem go_dastore (C : Cx p s m meth c Z a0 own bytes maxL ret nm) (X : St Z p l e R s m args below meth c n0 T h k n) {a : Addr} {vs : List Value} {j : Int32} {x : UInt64} (A : La Z h a .double vs) (q : 0 ≤ j.toInt) (hj : j.toInt < vs.length) (ga : n0 ≤ a) (hp : pc + 1 = pc') (hd : decode bytes pc = .ok (.dastore, 1))
    (hr : ∀ T' h', Wr h h' a j.toNatClampNeg (.double x) → La Z h' a .double (vs.set j.toNatClampNeg (.double x)) → St Z p l e R s m args below meth c n0 T' h' k n → Go p e below Q (T'.setTop (mkF m pc' Ls st))) : Go p e below Q (T.setTop (mkF m pc Ls (.double x :: .int j :: .ref a :: st))) := by
  subst hp
  obtain ⟨locs, Y, N, zs, eT⟩ := X
  have A' := A
  obtain ⟨cl, B, e1, e2, e3⟩ := A
  have i1 : ¬ (j < 0 ∨ cl.slots.size ≤ j.toNatClampNeg) := fun r => r.elim (neg_not q) fun r => by
    rw [e1] at r; simp at r; have := clamp_eq q; omega
  obtain ⟨T', h', X', e', W, stp⟩ := stD Y C.1 C.hZ eT B i1 (g := mkF m pc Ls (.double x :: .int j :: .ref a :: st)) rfl rfl (C.cd hd)
  exact Go.back stp (hr T' h' W (A'.set W rfl) ⟨_, X', Fr.snoc X' N ga, zs, e'⟩)
theorem go_newarr (C : Cx p s m meth c Z a0 own bytes maxL ret nm) (X : St Z p l e R s m args below meth c n0 T h k n) {aty : ArrayType} (w : (Jvm.Cond.arrayClass (newarray.typeOf aty)).before a0 Z = true) {z : Int32} {cap : Nat} (hz : 0 ≤ z.toInt) (hcap : z.toInt ≤ cap) (hb8 : cap * 8 ≤ 536870912) (hc : k + 1 ≤ R.cells) (hl : n + cap ≤ R.slots) (hp : pc + 2 = pc') (hd : decode bytes pc = .ok (.newarray aty, 2))
    (hr : ∀ T' h' a, a = h.size → n0 ≤ a → Ext h h' → La Z h' a (newarray.typeOf aty) (List.replicate z.toNatClampNeg (defaultValue (newarray.typeOf aty))) → St Z p l e R s m args below meth c n0 T' h' (k + 1) (n + cap) → Go p e below Q (T'.setTop (mkF m pc' Ls (.ref a :: st)))) : Go p e below Q (T.setTop (mkF m pc Ls (.int z :: st))) := by
  subst hp
  have hsz := X.sz
  obtain ⟨locs, Y, N, zs, eT⟩ := X
  have hzc := clamp_eq hz
  obtain ⟨T', h', cA, X', e', E, A, stp⟩ := newP Y C.1 C.hZ w eT (g := mkF m pc Ls (.int z :: st)) rfl (C.cd hd) rfl (neg_not hz) (cap := cap) (by omega) hb8 hc hl
  refine Go.back stp (hr T' h' _ rfl hsz E ⟨_, A, by simp [newA], ?_, fun v hv => ?_⟩ ⟨_, X', N, zs, e'⟩)
  · have := z.toInt_lt; simp; omega
  · obtain ⟨-, rfl⟩ := List.mem_replicate.mp hv; cases aty <;> rfl
theorem go_newarrE (C : Cx p s m meth c Z a0 own bytes maxL ret nm) (X : St Z p l e R s m args below meth c n0 T h k n) {aty : ArrayType} (w : (Jvm.Cond.arrayClass (newarray.typeOf aty)).before a0 Z = true) {z : Int32} {cap : Nat} {ad : String} (had : "[" ++ (newarray.typeOf aty).toString = ad) (hz : 0 ≤ z.toInt) (hcap : z.toInt ≤ cap) (hb8 : cap * 8 ≤ 536870912) (hc : k + 1 ≤ R.cells) (hl : n + cap ≤ R.slots) (hp : pc + 2 = pc') (hd : decode bytes pc = .ok (.newarray aty, 2))
    (hr : ∀ T' h' a, a = h.size → n0 ≤ a → Ext h h' → La Z h' a (newarray.typeOf aty) (List.replicate z.toNatClampNeg (defaultValue (newarray.typeOf aty))) → Exa Z h' a ad → St Z p l e R s m args below meth c n0 T' h' (k + 1) (n + cap) → Go p e below Q (T'.setTop (mkF m pc' Ls (.ref a :: st)))) : Go p e below Q (T.setTop (mkF m pc Ls (.int z :: st))) := by
  subst hp
  have hsz := X.sz
  obtain ⟨locs, Y, N, zs, eT⟩ := X
  have hzc := clamp_eq hz
  obtain ⟨T', h', cA, X', e', E, A, EX, stp⟩ := newPE Y C.1 C.hZ w eT (g := mkF m pc Ls (.int z :: st)) rfl (C.cd hd) rfl (neg_not hz) (cap := cap) (by omega) hb8 hc hl had
  refine Go.back stp (hr T' h' _ rfl hsz E ⟨_, A, by simp [newA], ?_, fun v hv => ?_⟩ EX ⟨_, X', N, zs, e'⟩)
  · have := z.toInt_lt; simp; omega
  · obtain ⟨-, rfl⟩ := List.mem_replicate.mp hv; cases aty <;> rfl
theorem go_ifnull_n (C : Cx p s m meth c Z a0 own bytes maxL ret nm) (X : St Z p l e R s m args below meth c n0 T h k n) {o : Int} (hd : decode bytes pc = .ok (.ifnull o, 3)) (ho : 0 ≤ (pc : Int) + o) (hp2 : ((pc : Int) + o).toNat = pc2) (hr : Go p e below Q (T.setTop (mkF m pc2 Ls st))) : Go p e below Q (T.setTop (mkF m pc Ls (.null :: st))) := by
  obtain ⟨locs, Y, -, -, -⟩ := X
  exact Go.back (fun t kt => Jvm.Free.XS.ifnullYes Y.here C.1 rfl (pc0 := pc) rfl (C.cd hd) rfl ho hp2 kt) hr
theorem go_ifnull_r (C : Cx p s m meth c Z a0 own bytes maxL ret nm) (X : St Z p l e R s m args below meth c n0 T h k n) {o : Int} {b : Addr} (hp : pc + 3 = pc') (hd : decode bytes pc = .ok (.ifnull o, 3)) (hr : Go p e below Q (T.setTop (mkF m pc' Ls st))) : Go p e below Q (T.setTop (mkF m pc Ls (.ref b :: st))) := by
  subst hp
  obtain ⟨locs, Y, -, -, -⟩ := X
  exact Go.back (fun t kt => Jvm.Free.XS.ifnullNo Y.here C.1 rfl (C.cd hd) rfl kt) hr
theorem go_ifnonnull_r (C : Cx p s m meth c Z a0 own bytes maxL ret nm) (X : St Z p l e R s m args below meth c n0 T h k n) {o : Int} {b : Addr} (hd : decode bytes pc = .ok (.ifnonnull o, 3)) (ho : 0 ≤ (pc : Int) + o) (hp2 : ((pc : Int) + o).toNat = pc2) (hr : Go p e below Q (T.setTop (mkF m pc2 Ls st))) : Go p e below Q (T.setTop (mkF m pc Ls (.ref b :: st))) := by
  obtain ⟨locs, Y, -, -, -⟩ := X
  exact Go.back (fun t kt => Jvm.Free.XS.ifnonnullYes Y.here C.1 rfl (pc0 := pc) rfl (C.cd hd) rfl ho hp2 kt) hr
theorem go_ifnonnull_n (C : Cx p s m meth c Z a0 own bytes maxL ret nm) (X : St Z p l e R s m args below meth c n0 T h k n) {o : Int} (hp : pc + 3 = pc') (hd : decode bytes pc = .ok (.ifnonnull o, 3)) (hr : Go p e below Q (T.setTop (mkF m pc' Ls st))) : Go p e below Q (T.setTop (mkF m pc Ls (.null :: st))) := by
  subst hp
  obtain ⟨locs, Y, -, -, -⟩ := X
  exact Go.back (fun t kt => Jvm.Free.XS.ifnonnullNo Y.here C.1 rfl (C.cd hd) rfl kt) hr
theorem go_acmp_eq (C : Cx p s m meth c Z a0 own bytes maxL ret nm) (X : St Z p l e R s m args below meth c n0 T h k n) {o : Int} {x y : Value} (hx : x.isRef = true) (hy : y.isRef = true) (hd : decode bytes pc = .ok (.if_acmp .eq o, 3)) (hp : pc + 3 = pc') (ho : 0 ≤ (pc : Int) + o) (hp2 : ((pc : Int) + o).toNat = pc2) (h1 : x = y → Go p e below Q (T.setTop (mkF m pc2 Ls st))) (h2 : ¬ x = y → Go p e below Q (T.setTop (mkF m pc' Ls st))) : Go p e below Q (T.setTop (mkF m pc Ls (y :: x :: st))) := by
  obtain ⟨locs, Y, -, -, -⟩ := X
  by_cases q : x = y
  · exact Go.back (fun t kt => acmp (g := mkF m pc Ls (y :: x :: st)) Y C.1 rfl hx hy (pc0 := pc) (pc' := pc2) (same := true) rfl (C.cd hd) rfl (decide_eq_true q) ho (by simp [acV, hp2]) kt) (h1 q)
  · exact Go.back (fun t kt => acmp (g := mkF m pc Ls (y :: x :: st)) Y C.1 rfl hx hy (pc0 := pc) (pc' := pc') (same := false) rfl (C.cd hd) rfl (decide_eq_false q) ho (by simp [acV, hp]) kt) (h2 q)
theorem go_acmp_ne (C : Cx p s m meth c Z a0 own bytes maxL ret nm) (X : St Z p l e R s m args below meth c n0 T h k n) {o : Int} {x y : Value} (hx : x.isRef = true) (hy : y.isRef = true) (hd : decode bytes pc = .ok (.if_acmp .ne o, 3)) (hp : pc + 3 = pc') (ho : 0 ≤ (pc : Int) + o) (hp2 : ((pc : Int) + o).toNat = pc2) (h1 : ¬ x = y → Go p e below Q (T.setTop (mkF m pc2 Ls st))) (h2 : x = y → Go p e below Q (T.setTop (mkF m pc' Ls st))) : Go p e below Q (T.setTop (mkF m pc Ls (y :: x :: st))) := by
  obtain ⟨locs, Y, -, -, -⟩ := X
  by_cases q : x = y
  · exact Go.back (fun t kt => acmp (g := mkF m pc Ls (y :: x :: st)) Y C.1 rfl hx hy (pc0 := pc) (pc' := pc') (same := true) rfl (C.cd hd) rfl (decide_eq_true q) ho (by simp [acV, hp]) kt) (h2 q)
  · exact Go.back (fun t kt => acmp (g := mkF m pc Ls (y :: x :: st)) Y C.1 rfl hx hy (pc0 := pc) (pc' := pc2) (same := false) rfl (C.cd hd) rfl (decide_eq_false q) ho (by simp [acV, hp2]) kt) (h1 q)
theorem go_cast (C : Cx p s m meth c Z a0 own bytes maxL ret nm) (X : St Z p l e R s m args below meth c n0 T h k n) {cn : String} {a : Addr} (w : (Jvm.Cond.classLink own idx cn).before a0 Z = true) (F : Ins Z h a cn true) (hp : pc + 3 = pc') (hd : decode bytes pc = .ok (.checkcast idx, 3)) (hr : ∀ T', St Z p l e R s m args below meth c n0 T' h k n → Go p e below Q (T'.setTop (mkF m pc' Ls (.ref a :: st)))) : Go p e below Q (T.setTop (mkF m pc Ls (.ref a :: st))) := by
  subst hp
  obtain ⟨locs, Y, N, zs, eT⟩ := X
  obtain ⟨T', X', e', stp⟩ := castY Y C.1 C.hZ C.ow w eT F (g := mkF m pc Ls (.ref a :: st)) rfl rfl (C.cd hd)
  exact Go.back stp (hr T' ⟨_, X', N, zs, e'⟩)
theorem go_clone (C : Cx p s m meth c Z a0 own bytes maxL ret nm) (X : St Z p l e R s m args below meth c n0 T h k n) {ad : String} {a : Addr} {ty : FieldType} {vs : List Value} {cap : Nat} (w1 : (Jvm.Cond.methodLink own idx ⟨ad, "clone", "()Ljava/lang/Object;"⟩).before a0 Z = true) (w2 : (Jvm.Cond.sameMethod ad "java/lang/Object" "clone" "()Ljava/lang/Object;").before a0 Z = true) (w3 : (Jvm.Cond.native ⟨"java/lang/Object", "clone", "()Ljava/lang/Object;"⟩).before a0 Z = true)
    (w4 : (Jvm.Cond.instanceMethod ⟨"java/lang/Object", "clone", "()Ljava/lang/Object;"⟩).before a0 Z = true) (w5 : (Jvm.Cond.selects ad ⟨ad, "clone", "()Ljava/lang/Object;"⟩ ⟨"java/lang/Object", "clone", "()Ljava/lang/Object;"⟩).before a0 Z = true) (w6 : (Jvm.Cond.castable ad "java/lang/Cloneable").before a0 Z = true)
    (A : La Z h a ty vs) (E : Exa Z h a ad) (hf : 1 ≤ R.frames) (hl : (st.map fun v => v.category).sum + 14 ≤ R.locals) (hcap : vs.length ≤ cap) (hc : k + 1 ≤ R.cells) (hsl : n + cap ≤ R.slots) (hsz : Ls.size = maxL) (hp : pc + 3 = pc') (hd : decode bytes pc = .ok (.invokevirtual idx, 3))
    (hr : ∀ T' h' b, b = h.size → n0 ≤ b → Ext h h' → La Z h' b ty vs → Exa Z h' b ad → St Z p l e R s m args below meth c n0 T' h' (k + 1) (n + cap) → Go p e below Q (T'.setTop (mkF m pc' Ls (.ref b :: st)))) : Go p e below Q (T.setTop (mkF m pc Ls (.ref a :: st))) := by
  subst hp
  have hs0 := X.sz
  obtain ⟨locs, Y, N, zs, eT⟩ := X
  obtain ⟨cl, B, e1, e2, e3⟩ := A
  have FC : FitC Z cl := fitC_of B fun i hi v hv => e3 v (by rw [e1] at hv; simp at hv; exact List.mem_of_getElem? hv)
  obtain ⟨T', h', X', e', ex, A', E', stp⟩ := cloneA Y C.1 C.hZ C.ow w1 w2 w3 w4 w5 w6 eT B E FC (g := mkF m pc Ls (.ref a :: st)) rfl (hsz.trans C.ml.symm) rfl (C.cd hd) hf (W := (st.map fun v => v.category).sum) (cap := cap) (by show 2 * 0 + _ ≤ _; omega) hl (by rw [e1]; simpa using hcap) hc hsl
  exact Go.back stp (hr T' h' _ rfl hs0 ex ⟨_, A', e1, e2, e3⟩ E' ⟨_, X', N, zs, e'⟩)

theorem Laid.of {cn O fn d : String} (w : (Jvm.Cond.lays cn O fn d).before a0 Z = true) : Laid Z a0 cn O fn d := Or.inl w
theorem Laid.ofF {cn O fn d : String} (w : (Jvm.Cond.laysFinal cn O fn d).before a0 Z = true) : Laid Z a0 cn O fn d := Or.inr w
end Steps1
/-! numbers -/
theorem i_add {a b : Int32} {x y : Int} (ha : a.toInt = x) (hb : b.toInt = y) (h1 : -2147483648 ≤ x + y) (h2 : x + y < 2147483648) : (a + b).toInt = x + y := by have := c_iadd a b; have := rng32 (a + b); omega
theorem i_sub {a b : Int32} {x y : Int} (ha : a.toInt = x) (hb : b.toInt = y) (h1 : -2147483648 ≤ x - y) (h2 : x - y < 2147483648) : (a - b).toInt = x - y := by have := c_isub a b; have := rng32 (a - b); omega
theorem i_mul {a b : Int32} {x y : Int} (ha : a.toInt = x) (hb : b.toInt = y) (h1 : -2147483648 ≤ x * y) (h2 : x * y < 2147483648) : (a * b).toInt = x * y := by have := c_imul a b; have := rng32 (a * b); rw [ha, hb] at *; generalize x * y = z at *; omega
theorem l_add {a b : Int64} {x y : Int} (ha : a.toInt = x) (hb : b.toInt = y) (h1 : -9223372036854775808 ≤ x + y) (h2 : x + y < 9223372036854775808) : (a + b).toInt = x + y := by have := c_ladd a b; have := rng64 (a + b); omega
theorem l_sub {a b : Int64} {x y : Int} (ha : a.toInt = x) (hb : b.toInt = y) (h1 : -9223372036854775808 ≤ x - y) (h2 : x - y < 9223372036854775808) : (a - b).toInt = x - y := by have := c_lsub a b; have := rng64 (a - b); omega
theorem l_mul {a b : Int64} {x y : Int} (ha : a.toInt = x) (hb : b.toInt = y) (h1 : -9223372036854775808 ≤ x * y) (h2 : x * y < 9223372036854775808) : (a * b).toInt = x * y := by have := c_lmul a b; have := rng64 (a * b); rw [ha, hb] at *; generalize x * y = z at *; omega
theorem i_div {a b : Int32} {x y : Int} (ha : a.toInt = x) (hb : b.toInt = y) (h1 : 0 ≤ x) (h2 : 0 < y) : (a / b).toInt = x / y := by
  have := (c_idiv a b y hb (fun q => by subst q; have : (-1 : Int32).toInt = -1 := rfl; omega)).1 (by omega); rw [this, ha]
theorem l_div {a b : Int64} {x y : Int} (ha : a.toInt = x) (hb : b.toInt = y) (h1 : 0 ≤ x) (h2 : 0 < y) : (a / b).toInt = x / y := by
  have := (c_ldiv a b y hb (fun q => by subst q; have : (-1 : Int64).toInt = -1 := rfl; omega)).1 (by omega); rw [this, ha]
theorem i_rem {a b : Int32} {x y : Int} (ha : a.toInt = x) (hb : b.toInt = y) (h1 : 0 ≤ x) : (a % b).toInt = x % y := by
  have := (c_irem a b y hb).1 (by omega); rw [this, ha]
theorem l_rem {a b : Int64} {x y : Int} (ha : a.toInt = x) (hb : b.toInt = y) (h1 : 0 ≤ x) : (a % b).toInt = x % y := by
  rw [← lrem_mod]; have := (c_lrem a b y hb).1 (by omega); rw [this, ha]
/-- arrays of ints and longs as lists -/
def ia (xs : List Int32) : List Value := xs.map Value.int
def ja (xs : List Int64) : List Value := xs.map Value.long
def at32 (xs : List Int32) (i : Int32) : Int32 := xs.getD i.toNatClampNeg 0
def at64 (xs : List Int64) (i : Int32) : Int64 := xs.getD i.toNatClampNeg 0
def put32 (xs : List Int32) (i y : Int32) : List Int32 := xs.set i.toNatClampNeg y
def put64 (xs : List Int64) (i : Int32) (y : Int64) : List Int64 := xs.set i.toNatClampNeg y
theorem clamp_lt {i : Int32} {n : Nat} (h0 : 0 ≤ i.toInt) (h1 : i.toInt < n) : i.toNatClampNeg < n := by
  have := clamp_eq h0
  omega
theorem ia_at {xs : List Int32} {i : Int32} (h0 : 0 ≤ i.toInt) (h1 : i.toInt < xs.length) : (ia xs)[i.toNatClampNeg]? = some (.int (at32 xs i)) := by
  have := clamp_lt h0 h1; simp [ia, at32, this]
theorem ja_at {xs : List Int64} {i : Int32} (h0 : 0 ≤ i.toInt) (h1 : i.toInt < xs.length) : (ja xs)[i.toNatClampNeg]? = some (.long (at64 xs i)) := by
  have := clamp_lt h0 h1; simp [ja, at64, this]
theorem ia_put (xs : List Int32) (i y : Int32) : (ia xs).set i.toNatClampNeg (.int y) = ia (put32 xs i y) := by simp [ia, put32, List.map_set]
theorem ja_put (xs : List Int64) (i : Int32) (y : Int64) : (ja xs).set i.toNatClampNeg (.long y) = ja (put64 xs i y) := by simp [ja, put64, List.map_set]
theorem ia_len (xs : List Int32) : (ia xs).length = xs.length := by simp [ia]
theorem ja_len (xs : List Int64) : (ja xs).length = xs.length := by simp [ja]
theorem put32_len (xs : List Int32) (i y : Int32) : (put32 xs i y).length = xs.length := by simp [put32]
theorem put64_len (xs : List Int64) (i : Int32) (y : Int64) : (put64 xs i y).length = xs.length := by simp [put64]
theorem La.of {Z : State} {h : Heap} {a : Addr} {ty : FieldType} {c : Cell} (A : Arr Z h a c ty) (vs : List Value) (hl : c.slots.size = vs.length) (h31 : vs.length < 2 ^ 31) (H : ∀ i, i < vs.length → c.slots[i]? = vs[i]?) (G : ∀ v ∈ vs, fits ty v = true) : La Z h a ty vs := by
  refine ⟨c, A, Array.ext_getElem? fun i => ?_, h31, G⟩
  by_cases q : i < vs.length
  · rw [H i q]; simp
  · rw [Array.getElem?_eq_none (by omega)]; simp; omega
theorem eqv_r {Z : State} {args : Array Value} {X F : Term} {idx : List Nat} {y : Addr} (hF : F.eval args Z none idx Z = some (.ref y)) (h : (Jvm.Cond.eq X F).value args Z none Z idx = some true) : X.eval args Z none idx Z = some (.ref y) := by
  simp only [Jvm.Cond.value, hF] at h
  cases hx : X.eval args Z none idx Z with
  | none => simp [hx] at h
  | some v => cases v <;> simp [hx] at h ⊢; exact h
theorem i_eq {a b : Int32} (h : a.toInt = b.toInt) : a = b := Int32.toInt_inj.mp h
theorem l_eq {a b : Int64} (h : a.toInt = b.toInt) : a = b := Int64.toInt_inj.mp h
theorem i_ne {a b : Int32} (h : ¬ a = b) : ¬ a.toInt = b.toInt := fun q => h (i_eq q)
theorem l_ne {a b : Int64} (h : ¬ a = b) : ¬ a.toInt = b.toInt := fun q => h (l_eq q)

theorem d1_0 : decode prog_11_method_5_code 0 = .ok (.aload_n 0, 1) := by decide +kernel
theorem d1_1 : decode prog_11_method_5_code 1 = .ok (.arraylength, 1) := by decide +kernel
theorem d1_2 : decode prog_11_method_5_code 2 = .ok (.iconst 1, 1) := by decide +kernel
theorem d1_3 : decode prog_11_method_5_code 3 = .ok (.isub, 1) := by decide +kernel
theorem d1_4 : decode prog_11_method_5_code 4 = .ok (.istore_n 3, 1) := by decide +kernel
theorem d1_5 : decode prog_11_method_5_code 5 = .ok (.iload_n 3, 1) := by decide +kernel
theorem d1_6 : decode prog_11_method_5_code 6 = .ok (.ifCond .lt 24, 3) := by decide +kernel
theorem d1_9 : decode prog_11_method_5_code 9 = .ok (.aload_n 2, 1) := by decide +kernel
theorem d1_10 : decode prog_11_method_5_code 10 = .ok (.aload_n 0, 1) := by decide +kernel
theorem d1_11 : decode prog_11_method_5_code 11 = .ok (.iload_n 3, 1) := by decide +kernel
theorem d1_12 : decode prog_11_method_5_code 12 = .ok (.iaload, 1) := by decide +kernel
theorem d1_13 : decode prog_11_method_5_code 13 = .ok (.iaload, 1) := by decide +kernel
theorem d1_14 : decode prog_11_method_5_code 14 = .ok (.aload_n 1, 1) := by decide +kernel
theorem d1_15 : decode prog_11_method_5_code 15 = .ok (.arraylength, 1) := by decide +kernel
theorem d1_16 : decode prog_11_method_5_code 16 = .ok (.aload_n 0, 1) := by decide +kernel
theorem d1_17 : decode prog_11_method_5_code 17 = .ok (.arraylength, 1) := by decide +kernel
theorem d1_18 : decode prog_11_method_5_code 18 = .ok (.isub, 1) := by decide +kernel
theorem d1_19 : decode prog_11_method_5_code 19 = .ok (.iload_n 3, 1) := by decide +kernel
theorem d1_20 : decode prog_11_method_5_code 20 = .ok (.iadd, 1) := by decide +kernel
theorem d1_21 : decode prog_11_method_5_code 21 = .ok (.if_icmp .ne 9, 3) := by decide +kernel
theorem d1_30 : decode prog_11_method_5_code 30 = .ok (.iload_n 3, 1) := by decide +kernel
theorem d1_31 : decode prog_11_method_5_code 31 = .ok (.ifCond .ge 5, 3) := by decide +kernel
theorem d1_36 : decode prog_11_method_5_code 36 = .ok (.aload_n 2, 1) := by decide +kernel
theorem d1_37 : decode prog_11_method_5_code 37 = .ok (.aload_n 0, 1) := by decide +kernel
theorem d1_38 : decode prog_11_method_5_code 38 = .ok (.iload_n 3, 1) := by decide +kernel
theorem d1_39 : decode prog_11_method_5_code 39 = .ok (.iaload, 1) := by decide +kernel
theorem d1_40 : decode prog_11_method_5_code 40 = .ok (.iaload, 1) := by decide +kernel
theorem d1_41 : decode prog_11_method_5_code 41 = .ok (.iconst 1, 1) := by decide +kernel
theorem d1_42 : decode prog_11_method_5_code 42 = .ok (.iadd, 1) := by decide +kernel
theorem d1_43 : decode prog_11_method_5_code 43 = .ok (.istore 4, 2) := by decide +kernel
theorem d1_45 : decode prog_11_method_5_code 45 = .ok (.iload_n 3, 1) := by decide +kernel
theorem d1_46 : decode prog_11_method_5_code 46 = .ok (.aload_n 0, 1) := by decide +kernel
theorem d1_47 : decode prog_11_method_5_code 47 = .ok (.arraylength, 1) := by decide +kernel
theorem d1_48 : decode prog_11_method_5_code 48 = .ok (.if_icmp .ge 19, 3) := by decide +kernel
theorem d1_51 : decode prog_11_method_5_code 51 = .ok (.aload_n 0, 1) := by decide +kernel
theorem d1_52 : decode prog_11_method_5_code 52 = .ok (.iload_n 3, 1) := by decide +kernel
theorem d1_53 : decode prog_11_method_5_code 53 = .ok (.aload_n 1, 1) := by decide +kernel
theorem d1_54 : decode prog_11_method_5_code 54 = .ok (.iload 4, 2) := by decide +kernel
theorem d1_56 : decode prog_11_method_5_code 56 = .ok (.iaload, 1) := by decide +kernel
theorem d1_57 : decode prog_11_method_5_code 57 = .ok (.iastore, 1) := by decide +kernel
theorem d1_58 : decode prog_11_method_5_code 58 = .ok (.iinc 3 1, 3) := by decide +kernel
theorem d1_61 : decode prog_11_method_5_code 61 = .ok (.iinc 4 1, 3) := by decide +kernel
theorem d1_64 : decode prog_11_method_5_code 64 = .ok (.goto (-19), 3) := by decide +kernel
theorem d1_67 : decode prog_11_method_5_code 67 = .ok (.iconst 1, 1) := by decide +kernel
theorem d1_68 : decode prog_11_method_5_code 68 = .ok (.ireturn, 1) := by decide +kernel
theorem pn_com_example_covertide_covertide_engine_Subsets : plainName "com/example/covertide/covertide/engine/Subsets" = true := by first | (simp [plainName, overriddenIn]; done) | decide +kernel
theorem ef_own_next_0 (m : MethodId) (b : Addr) (f : Addr) (g : Addr) : entryFrame m #[(.ref b), (.ref f), (.ref g)] 5 = mkF m 0 #[rv b, rv f, rv g, un, un] [] := by first | (simp [entryFrame, mkF, argsToLocals, Value.category]; done) | rfl
set_option maxRecDepth 65536 in
set_option maxHeartbeats 40000000 in
theorem own_next_0 (l : Launch) (Z : State) (a0 : Array Value) (hw : ∀ d ∈ tables_1, d.before a0 Z = true) (b : Addr) (f : Addr) (g : Addr) (ix : List Int32) (o0 o1 o2 o3 o4 : Int32) (h : Heap) (n0 : Nat) (hn0 : Old Z n0 h) (A1 : La Z h b .int [.int o0, .int o1, .int o2]) (A2 : La Z h f .int [.int o0, .int o1, .int o2, .int o3, .int o4]) (A3 : La Z h g .int (ia ix)) (gb : n0 ≤ b) (nbf : b ≠ f) (nbg : b ≠ g) (hl : ix.length = 80) (b0 : 0 ≤ o0.toInt ∧ o0.toInt < (80 : Nat)) (e0 : at32 ix o0 = 0) (b1 : 0 ≤ o1.toInt ∧ o1.toInt < (80 : Nat)) (e1 : at32 ix o1 = 1) (b2 : 0 ≤ o2.toInt ∧ o2.toInt < (80 : Nat)) (e2 : at32 ix o2 = 2) (b3 : 0 ≤ o3.toInt ∧ o3.toInt < (80 : Nat)) (e3 : at32 ix o3 = 3) (b4 : 0 ≤ o4.toInt ∧ o4.toInt < (80 : Nat)) (e4 : at32 ix o4 = 4) :
    Con l Z (⟨"com/example/covertide/covertide/engine/Subsets", "next", "([I[I[I)Z"⟩ : MethodName) prog_11_method_5_code 5 (some .boolean) ({ frames := 0, cells := 0, slots := 0, locals := 0 } : Room) #[(.ref b), (.ref f), (.ref g)] h n0 (fun v h' => v = some (.int 1) ∧ Keep h h' [b] ∧ La Z h' b .int [.int o0, .int o1, .int o3]) := by
  refine con_of hw (plainFor_of_name pn_com_example_covertide_covertide_engine_Subsets) hn0 ?_
  intro p e s m below meth c T0 C X0
  refine Go.cast (congrArg T0.setTop (ef_own_next_0 m b f g)) ?_
  refine go_aloadN C X0 1 rfl d1_0 rfl rfl ?_
  refine go_alen C X0 A1 (z := (3 : Int32)) rfl (pc' := 2) rfl d1_1 ?_
  refine go_iconst C X0 3 rfl d1_2 (z := 1) rfl ?_
  refine go_isubL C X0 4 rfl d1_3 (z := (2)) rfl ?_
  refine go_istoreN C X0 5 rfl d1_4 #[rv b, rv f, rv g, iv (2 : Int32), un] rfl ?_
  refine go_iloadN C X0 6 rfl d1_5 rfl ?_
  refine go_if_lt C X0 d1_6 (pc' := 9) (pc2 := 30) rfl (by decide) (by decide) (fun (c6 : 2 < 0) => False.elim (by first | omega | exact absurd c6 (by decide))) (fun (c6 : 0 ≤ 2) => ?_)
  refine go_aloadN C X0 10 rfl d1_9 rfl rfl ?_
  refine go_aloadN C X0 11 rfl d1_10 rfl rfl ?_
  refine go_iloadN C X0 12 rfl d1_11 rfl ?_
  refine go_iaload C X0 A1 (by decide) (v := (.int o2)) rfl (pc' := 13) rfl d1_12 ?_
  refine go_iaload C X0 A3 b2.1 (v := (.int (at32 ix o2))) (ia_at b2.1 (by rw [hl]; exact b2.2)) (pc' := 14) rfl d1_13 ?_
  rw [e2]
  refine go_aloadN C X0 15 rfl d1_14 rfl rfl ?_
  refine go_alen C X0 A2 (z := (5 : Int32)) rfl (pc' := 16) rfl d1_15 ?_
  refine go_aloadN C X0 17 rfl d1_16 rfl rfl ?_
  refine go_alen C X0 A1 (z := (3 : Int32)) rfl (pc' := 18) rfl d1_17 ?_
  refine go_isubL C X0 19 rfl d1_18 (z := (2)) rfl ?_
  refine go_iloadN C X0 20 rfl d1_19 rfl ?_
  refine go_iaddL C X0 21 rfl d1_20 (z := (4)) rfl ?_
  refine go_icmp_ne C X0 d1_21 (pc' := 24) (pc2 := 30) rfl (by decide) (by decide) (fun (c21 : ¬ (2 : Int32) = (4 : Int32)) => ?_) (fun (c21 : (2 : Int32) = (4 : Int32)) => False.elim (by first | omega | exact absurd c21 (by decide)))
  refine go_iloadN C X0 31 rfl d1_30 rfl ?_
  refine go_if_ge C X0 d1_31 (pc' := 34) (pc2 := 36) rfl (by decide) (by decide) (fun (c31 : 0 ≤ 2) => ?_) (fun (c31 : 2 < 0) => False.elim (by first | omega | exact absurd c31 (by decide)))
  refine go_aloadN C X0 37 rfl d1_36 rfl rfl ?_
  refine go_aloadN C X0 38 rfl d1_37 rfl rfl ?_
  refine go_iloadN C X0 39 rfl d1_38 rfl ?_
  refine go_iaload C X0 A1 (by decide) (v := (.int o2)) rfl (pc' := 40) rfl d1_39 ?_
  refine go_iaload C X0 A3 b2.1 (v := (.int (at32 ix o2))) (ia_at b2.1 (by rw [hl]; exact b2.2)) (pc' := 41) rfl d1_40 ?_
  rw [e2]
  refine go_iconst C X0 42 rfl d1_41 (z := 1) rfl ?_
  refine go_iaddL C X0 43 rfl d1_42 (z := (3)) rfl ?_
  refine go_istore C X0 45 rfl d1_43 #[rv b, rv f, rv g, iv (2 : Int32), iv (3 : Int32)] rfl ?_
  refine go_iloadN C X0 46 rfl d1_45 rfl ?_
  refine go_aloadN C X0 47 rfl d1_46 rfl rfl ?_
  refine go_alen C X0 A1 (z := (3 : Int32)) rfl (pc' := 48) rfl d1_47 ?_
  refine go_icmp_ge C X0 d1_48 (pc' := 51) (pc2 := 67) rfl (by decide) (by decide) (fun (c48 : 3 ≤ 2) => False.elim (by first | omega | exact absurd c48 (by decide))) (fun (c48 : 2 < 3) => ?_)
  refine go_aloadN C X0 52 rfl d1_51 rfl rfl ?_
  refine go_iloadN C X0 53 rfl d1_52 rfl ?_
  refine go_aloadN C X0 54 rfl d1_53 rfl rfl ?_
  refine go_iload C X0 56 rfl d1_54 rfl ?_
  refine go_iaload C X0 A2 (by decide) (v := (.int o3)) rfl (pc' := 57) rfl d1_56 ?_
  refine go_iastore C X0 A1 (by decide) (by show _ < (3 : Int); decide) gb (pc' := 58) rfl d1_57 (fun T1 h3 W4 A5 X2 => ?_)
  have A6 := A2.other W4 (Ne.symm nbf)
  have A7 := A3.other W4 (Ne.symm nbg)
  have K8 := (Keep.refl h [b]).wr W4 (Or.inl (List.mem_of_getElem? (i := 0) rfl))
  replace A5 : La Z h3 b .int ([(.int o0), (.int o1), (.int o3)]) := A5
  refine go_iinc C X2 61 rfl d1_58 rfl (z := 1) rfl #[rv b, rv f, rv g, iv (3 : Int32), iv (3 : Int32)] rfl ?_
  refine go_iinc C X2 64 rfl d1_61 rfl (z := 1) rfl #[rv b, rv f, rv g, iv (3 : Int32), iv (4 : Int32)] rfl ?_
  refine go_goto C X2 d1_64 (pc' := 45) (by decide) (by decide) ?_
  refine go_iloadN C X2 46 rfl d1_45 rfl ?_
  refine go_aloadN C X2 47 rfl d1_46 rfl rfl ?_
  refine go_alen C X2 A5 (z := (3 : Int32)) rfl (pc' := 48) rfl d1_47 ?_
  refine go_icmp_ge C X2 d1_48 (pc' := 51) (pc2 := 67) rfl (by decide) (by decide) (fun (c48 : 3 ≤ 3) => ?_) (fun (c48 : 3 < 3) => False.elim (by first | omega | exact absurd c48 (by decide)))
  refine go_iconst C X2 68 rfl d1_67 (z := 1) rfl ?_
  exact go_retN C X2 (by simp) (z' := 1) rfl d1_68 ⟨rfl, K8, A5⟩ (by decide) (by decide)
theorem ef_own_next_1 (m : MethodId) (b : Addr) (f : Addr) (g : Addr) : entryFrame m #[(.ref b), (.ref f), (.ref g)] 5 = mkF m 0 #[rv b, rv f, rv g, un, un] [] := by first | (simp [entryFrame, mkF, argsToLocals, Value.category]; done) | rfl
set_option maxRecDepth 65536 in
set_option maxHeartbeats 40000000 in
theorem own_next_1 (l : Launch) (Z : State) (a0 : Array Value) (hw : ∀ d ∈ tables_1, d.before a0 Z = true) (b : Addr) (f : Addr) (g : Addr) (ix : List Int32) (o0 o1 o2 o3 o4 : Int32) (h : Heap) (n0 : Nat) (hn0 : Old Z n0 h) (A1 : La Z h b .int [.int o0, .int o1, .int o3]) (A2 : La Z h f .int [.int o0, .int o1, .int o2, .int o3, .int o4]) (A3 : La Z h g .int (ia ix)) (gb : n0 ≤ b) (nbf : b ≠ f) (nbg : b ≠ g) (hl : ix.length = 80) (b0 : 0 ≤ o0.toInt ∧ o0.toInt < (80 : Nat)) (e0 : at32 ix o0 = 0) (b1 : 0 ≤ o1.toInt ∧ o1.toInt < (80 : Nat)) (e1 : at32 ix o1 = 1) (b2 : 0 ≤ o2.toInt ∧ o2.toInt < (80 : Nat)) (e2 : at32 ix o2 = 2) (b3 : 0 ≤ o3.toInt ∧ o3.toInt < (80 : Nat)) (e3 : at32 ix o3 = 3) (b4 : 0 ≤ o4.toInt ∧ o4.toInt < (80 : Nat)) (e4 : at32 ix o4 = 4) :
    Con l Z (⟨"com/example/covertide/covertide/engine/Subsets", "next", "([I[I[I)Z"⟩ : MethodName) prog_11_method_5_code 5 (some .boolean) ({ frames := 0, cells := 0, slots := 0, locals := 0 } : Room) #[(.ref b), (.ref f), (.ref g)] h n0 (fun v h' => v = some (.int 1) ∧ Keep h h' [b] ∧ La Z h' b .int [.int o0, .int o1, .int o4]) := by
  refine con_of hw (plainFor_of_name pn_com_example_covertide_covertide_engine_Subsets) hn0 ?_
  intro p e s m below meth c T0 C X0
  refine Go.cast (congrArg T0.setTop (ef_own_next_1 m b f g)) ?_
  refine go_aloadN C X0 1 rfl d1_0 rfl rfl ?_
  refine go_alen C X0 A1 (z := (3 : Int32)) rfl (pc' := 2) rfl d1_1 ?_
  refine go_iconst C X0 3 rfl d1_2 (z := 1) rfl ?_
  refine go_isubL C X0 4 rfl d1_3 (z := (2)) rfl ?_
  refine go_istoreN C X0 5 rfl d1_4 #[rv b, rv f, rv g, iv (2 : Int32), un] rfl ?_
  refine go_iloadN C X0 6 rfl d1_5 rfl ?_
  refine go_if_lt C X0 d1_6 (pc' := 9) (pc2 := 30) rfl (by decide) (by decide) (fun (c6 : 2 < 0) => False.elim (by first | omega | exact absurd c6 (by decide))) (fun (c6 : 0 ≤ 2) => ?_)
  refine go_aloadN C X0 10 rfl d1_9 rfl rfl ?_
  refine go_aloadN C X0 11 rfl d1_10 rfl rfl ?_
  refine go_iloadN C X0 12 rfl d1_11 rfl ?_
  refine go_iaload C X0 A1 (by decide) (v := (.int o3)) rfl (pc' := 13) rfl d1_12 ?_
  refine go_iaload C X0 A3 b3.1 (v := (.int (at32 ix o3))) (ia_at b3.1 (by rw [hl]; exact b3.2)) (pc' := 14) rfl d1_13 ?_
  rw [e3]
  refine go_aloadN C X0 15 rfl d1_14 rfl rfl ?_
  refine go_alen C X0 A2 (z := (5 : Int32)) rfl (pc' := 16) rfl d1_15 ?_
  refine go_aloadN C X0 17 rfl d1_16 rfl rfl ?_
  refine go_alen C X0 A1 (z := (3 : Int32)) rfl (pc' := 18) rfl d1_17 ?_
  refine go_isubL C X0 19 rfl d1_18 (z := (2)) rfl ?_
  refine go_iloadN C X0 20 rfl d1_19 rfl ?_
  refine go_iaddL C X0 21 rfl d1_20 (z := (4)) rfl ?_
  refine go_icmp_ne C X0 d1_21 (pc' := 24) (pc2 := 30) rfl (by decide) (by decide) (fun (c21 : ¬ (3 : Int32) = (4 : Int32)) => ?_) (fun (c21 : (3 : Int32) = (4 : Int32)) => False.elim (by first | omega | exact absurd c21 (by decide)))
  refine go_iloadN C X0 31 rfl d1_30 rfl ?_
  refine go_if_ge C X0 d1_31 (pc' := 34) (pc2 := 36) rfl (by decide) (by decide) (fun (c31 : 0 ≤ 2) => ?_) (fun (c31 : 2 < 0) => False.elim (by first | omega | exact absurd c31 (by decide)))
  refine go_aloadN C X0 37 rfl d1_36 rfl rfl ?_
  refine go_aloadN C X0 38 rfl d1_37 rfl rfl ?_
  refine go_iloadN C X0 39 rfl d1_38 rfl ?_
  refine go_iaload C X0 A1 (by decide) (v := (.int o3)) rfl (pc' := 40) rfl d1_39 ?_
  refine go_iaload C X0 A3 b3.1 (v := (.int (at32 ix o3))) (ia_at b3.1 (by rw [hl]; exact b3.2)) (pc' := 41) rfl d1_40 ?_
  rw [e3]
  refine go_iconst C X0 42 rfl d1_41 (z := 1) rfl ?_
  refine go_iaddL C X0 43 rfl d1_42 (z := (4)) rfl ?_
  refine go_istore C X0 45 rfl d1_43 #[rv b, rv f, rv g, iv (2 : Int32), iv (4 : Int32)] rfl ?_
  refine go_iloadN C X0 46 rfl d1_45 rfl ?_
  refine go_aloadN C X0 47 rfl d1_46 rfl rfl ?_
  refine go_alen C X0 A1 (z := (3 : Int32)) rfl (pc' := 48) rfl d1_47 ?_
  refine go_icmp_ge C X0 d1_48 (pc' := 51) (pc2 := 67) rfl (by decide) (by decide) (fun (c48 : 3 ≤ 2) => False.elim (by first | omega | exact absurd c48 (by decide))) (fun (c48 : 2 < 3) => ?_)
  refine go_aloadN C X0 52 rfl d1_51 rfl rfl ?_
  refine go_iloadN C X0 53 rfl d1_52 rfl ?_
  refine go_aloadN C X0 54 rfl d1_53 rfl rfl ?_
  refine go_iload C X0 56 rfl d1_54 rfl ?_
  refine go_iaload C X0 A2 (by decide) (v := (.int o4)) rfl (pc' := 57) rfl d1_56 ?_
  refine go_iastore C X0 A1 (by decide) (by show _ < (3 : Int); decide) gb (pc' := 58) rfl d1_57 (fun T1 h3 W4 A5 X2 => ?_)
  have A6 := A2.other W4 (Ne.symm nbf)
  have A7 := A3.other W4 (Ne.symm nbg)
  have K8 := (Keep.refl h [b]).wr W4 (Or.inl (List.mem_of_getElem? (i := 0) rfl))
  replace A5 : La Z h3 b .int ([(.int o0), (.int o1), (.int o4)]) := A5
  refine go_iinc C X2 61 rfl d1_58 rfl (z := 1) rfl #[rv b, rv f, rv g, iv (3 : Int32), iv (4 : Int32)] rfl ?_
  refine go_iinc C X2 64 rfl d1_61 rfl (z := 1) rfl #[rv b, rv f, rv g, iv (3 : Int32), iv (5 : Int32)] rfl ?_
  refine go_goto C X2 d1_64 (pc' := 45) (by decide) (by decide) ?_
  refine go_iloadN C X2 46 rfl d1_45 rfl ?_
  refine go_aloadN C X2 47 rfl d1_46 rfl rfl ?_
  refine go_alen C X2 A5 (z := (3 : Int32)) rfl (pc' := 48) rfl d1_47 ?_
  refine go_icmp_ge C X2 d1_48 (pc' := 51) (pc2 := 67) rfl (by decide) (by decide) (fun (c48 : 3 ≤ 3) => ?_) (fun (c48 : 3 < 3) => False.elim (by first | omega | exact absurd c48 (by decide)))
  refine go_iconst C X2 68 rfl d1_67 (z := 1) rfl ?_
  exact go_retN C X2 (by simp) (z' := 1) rfl d1_68 ⟨rfl, K8, A5⟩ (by decide) (by decide)
theorem d1_24 : decode prog_11_method_5_code 24 = .ok (.iinc 3 (-1), 3) := by decide +kernel
theorem d1_27 : decode prog_11_method_5_code 27 = .ok (.goto (-22), 3) := by decide +kernel
theorem ef_own_next_2 (m : MethodId) (b : Addr) (f : Addr) (g : Addr) : entryFrame m #[(.ref b), (.ref f), (.ref g)] 5 = mkF m 0 #[rv b, rv f, rv g, un, un] [] := by first | (simp [entryFrame, mkF, argsToLocals, Value.category]; done) | rfl
set_option maxRecDepth 65536 in
set_option maxHeartbeats 40000000 in
theorem own_next_2 (l : Launch) (Z : State) (a0 : Array Value) (hw : ∀ d ∈ tables_1, d.before a0 Z = true) (b : Addr) (f : Addr) (g : Addr) (ix : List Int32) (o0 o1 o2 o3 o4 : Int32) (h : Heap) (n0 : Nat) (hn0 : Old Z n0 h) (A1 : La Z h b .int [.int o0, .int o1, .int o4]) (A2 : La Z h f .int [.int o0, .int o1, .int o2, .int o3, .int o4]) (A3 : La Z h g .int (ia ix)) (gb : n0 ≤ b) (nbf : b ≠ f) (nbg : b ≠ g) (hl : ix.length = 80) (b0 : 0 ≤ o0.toInt ∧ o0.toInt < (80 : Nat)) (e0 : at32 ix o0 = 0) (b1 : 0 ≤ o1.toInt ∧ o1.toInt < (80 : Nat)) (e1 : at32 ix o1 = 1) (b2 : 0 ≤ o2.toInt ∧ o2.toInt < (80 : Nat)) (e2 : at32 ix o2 = 2) (b3 : 0 ≤ o3.toInt ∧ o3.toInt < (80 : Nat)) (e3 : at32 ix o3 = 3) (b4 : 0 ≤ o4.toInt ∧ o4.toInt < (80 : Nat)) (e4 : at32 ix o4 = 4) :
    Con l Z (⟨"com/example/covertide/covertide/engine/Subsets", "next", "([I[I[I)Z"⟩ : MethodName) prog_11_method_5_code 5 (some .boolean) ({ frames := 0, cells := 0, slots := 0, locals := 0 } : Room) #[(.ref b), (.ref f), (.ref g)] h n0 (fun v h' => v = some (.int 1) ∧ Keep h h' [b] ∧ La Z h' b .int [.int o0, .int o2, .int o3]) := by
  refine con_of hw (plainFor_of_name pn_com_example_covertide_covertide_engine_Subsets) hn0 ?_
  intro p e s m below meth c T0 C X0
  refine Go.cast (congrArg T0.setTop (ef_own_next_2 m b f g)) ?_
  refine go_aloadN C X0 1 rfl d1_0 rfl rfl ?_
  refine go_alen C X0 A1 (z := (3 : Int32)) rfl (pc' := 2) rfl d1_1 ?_
  refine go_iconst C X0 3 rfl d1_2 (z := 1) rfl ?_
  refine go_isubL C X0 4 rfl d1_3 (z := (2)) rfl ?_
  refine go_istoreN C X0 5 rfl d1_4 #[rv b, rv f, rv g, iv (2 : Int32), un] rfl ?_
  refine go_iloadN C X0 6 rfl d1_5 rfl ?_
  refine go_if_lt C X0 d1_6 (pc' := 9) (pc2 := 30) rfl (by decide) (by decide) (fun (c6 : 2 < 0) => False.elim (by first | omega | exact absurd c6 (by decide))) (fun (c6 : 0 ≤ 2) => ?_)
  refine go_aloadN C X0 10 rfl d1_9 rfl rfl ?_
  refine go_aloadN C X0 11 rfl d1_10 rfl rfl ?_
  refine go_iloadN C X0 12 rfl d1_11 rfl ?_
  refine go_iaload C X0 A1 (by decide) (v := (.int o4)) rfl (pc' := 13) rfl d1_12 ?_
  refine go_iaload C X0 A3 b4.1 (v := (.int (at32 ix o4))) (ia_at b4.1 (by rw [hl]; exact b4.2)) (pc' := 14) rfl d1_13 ?_
  rw [e4]
  refine go_aloadN C X0 15 rfl d1_14 rfl rfl ?_
  refine go_alen C X0 A2 (z := (5 : Int32)) rfl (pc' := 16) rfl d1_15 ?_
  refine go_aloadN C X0 17 rfl d1_16 rfl rfl ?_
  refine go_alen C X0 A1 (z := (3 : Int32)) rfl (pc' := 18) rfl d1_17 ?_
  refine go_isubL C X0 19 rfl d1_18 (z := (2)) rfl ?_
  refine go_iloadN C X0 20 rfl d1_19 rfl ?_
  refine go_iaddL C X0 21 rfl d1_20 (z := (4)) rfl ?_
  refine go_icmp_ne C X0 d1_21 (pc' := 24) (pc2 := 30) rfl (by decide) (by decide) (fun (c21 : ¬ (4 : Int32) = (4 : Int32)) => False.elim (by first | omega | exact absurd c21 (by decide))) (fun (c21 : (4 : Int32) = (4 : Int32)) => ?_)
  refine go_iinc C X0 27 rfl d1_24 rfl (z := (-1)) rfl #[rv b, rv f, rv g, iv (1 : Int32), un] rfl ?_
  refine go_goto C X0 d1_27 (pc' := 5) (by decide) (by decide) ?_
  refine go_iloadN C X0 6 rfl d1_5 rfl ?_
  refine go_if_lt C X0 d1_6 (pc' := 9) (pc2 := 30) rfl (by decide) (by decide) (fun (c6 : 1 < 0) => False.elim (by first | omega | exact absurd c6 (by decide))) (fun (c6 : 0 ≤ 1) => ?_)
  refine go_aloadN C X0 10 rfl d1_9 rfl rfl ?_
  refine go_aloadN C X0 11 rfl d1_10 rfl rfl ?_
  refine go_iloadN C X0 12 rfl d1_11 rfl ?_
  refine go_iaload C X0 A1 (by decide) (v := (.int o1)) rfl (pc' := 13) rfl d1_12 ?_
  refine go_iaload C X0 A3 b1.1 (v := (.int (at32 ix o1))) (ia_at b1.1 (by rw [hl]; exact b1.2)) (pc' := 14) rfl d1_13 ?_
  rw [e1]
  refine go_aloadN C X0 15 rfl d1_14 rfl rfl ?_
  refine go_alen C X0 A2 (z := (5 : Int32)) rfl (pc' := 16) rfl d1_15 ?_
  refine go_aloadN C X0 17 rfl d1_16 rfl rfl ?_
  refine go_alen C X0 A1 (z := (3 : Int32)) rfl (pc' := 18) rfl d1_17 ?_
  refine go_isubL C X0 19 rfl d1_18 (z := (2)) rfl ?_
  refine go_iloadN C X0 20 rfl d1_19 rfl ?_
  refine go_iaddL C X0 21 rfl d1_20 (z := (3)) rfl ?_
  refine go_icmp_ne C X0 d1_21 (pc' := 24) (pc2 := 30) rfl (by decide) (by decide) (fun (c21 : ¬ (1 : Int32) = (3 : Int32)) => ?_) (fun (c21 : (1 : Int32) = (3 : Int32)) => False.elim (by first | omega | exact absurd c21 (by decide)))
  refine go_iloadN C X0 31 rfl d1_30 rfl ?_
  refine go_if_ge C X0 d1_31 (pc' := 34) (pc2 := 36) rfl (by decide) (by decide) (fun (c31 : 0 ≤ 1) => ?_) (fun (c31 : 1 < 0) => False.elim (by first | omega | exact absurd c31 (by decide)))
  refine go_aloadN C X0 37 rfl d1_36 rfl rfl ?_
  refine go_aloadN C X0 38 rfl d1_37 rfl rfl ?_
  refine go_iloadN C X0 39 rfl d1_38 rfl ?_
  refine go_iaload C X0 A1 (by decide) (v := (.int o1)) rfl (pc' := 40) rfl d1_39 ?_
  refine go_iaload C X0 A3 b1.1 (v := (.int (at32 ix o1))) (ia_at b1.1 (by rw [hl]; exact b1.2)) (pc' := 41) rfl d1_40 ?_
  rw [e1]
  refine go_iconst C X0 42 rfl d1_41 (z := 1) rfl ?_
  refine go_iaddL C X0 43 rfl d1_42 (z := (2)) rfl ?_
  refine go_istore C X0 45 rfl d1_43 #[rv b, rv f, rv g, iv (1 : Int32), iv (2 : Int32)] rfl ?_
  refine go_iloadN C X0 46 rfl d1_45 rfl ?_
  refine go_aloadN C X0 47 rfl d1_46 rfl rfl ?_
  refine go_alen C X0 A1 (z := (3 : Int32)) rfl (pc' := 48) rfl d1_47 ?_
  refine go_icmp_ge C X0 d1_48 (pc' := 51) (pc2 := 67) rfl (by decide) (by decide) (fun (c48 : 3 ≤ 1) => False.elim (by first | omega | exact absurd c48 (by decide))) (fun (c48 : 1 < 3) => ?_)
  refine go_aloadN C X0 52 rfl d1_51 rfl rfl ?_
  refine go_iloadN C X0 53 rfl d1_52 rfl ?_
  refine go_aloadN C X0 54 rfl d1_53 rfl rfl ?_
  refine go_iload C X0 56 rfl d1_54 rfl ?_
  refine go_iaload C X0 A2 (by decide) (v := (.int o2)) rfl (pc' := 57) rfl d1_56 ?_
  refine go_iastore C X0 A1 (by decide) (by show _ < (3 : Int); decide) gb (pc' := 58) rfl d1_57 (fun T1 h3 W4 A5 X2 => ?_)
  have A6 := A2.other W4 (Ne.symm nbf)
  have A7 := A3.other W4 (Ne.symm nbg)
  have K8 := (Keep.refl h [b]).wr W4 (Or.inl (List.mem_of_getElem? (i := 0) rfl))
  replace A5 : La Z h3 b .int ([(.int o0), (.int o2), (.int o4)]) := A5
  refine go_iinc C X2 61 rfl d1_58 rfl (z := 1) rfl #[rv b, rv f, rv g, iv (2 : Int32), iv (2 : Int32)] rfl ?_
  refine go_iinc C X2 64 rfl d1_61 rfl (z := 1) rfl #[rv b, rv f, rv g, iv (2 : Int32), iv (3 : Int32)] rfl ?_
  refine go_goto C X2 d1_64 (pc' := 45) (by decide) (by decide) ?_
  refine go_iloadN C X2 46 rfl d1_45 rfl ?_
  refine go_aloadN C X2 47 rfl d1_46 rfl rfl ?_
  refine go_alen C X2 A5 (z := (3 : Int32)) rfl (pc' := 48) rfl d1_47 ?_
  refine go_icmp_ge C X2 d1_48 (pc' := 51) (pc2 := 67) rfl (by decide) (by decide) (fun (c48 : 3 ≤ 2) => False.elim (by first | omega | exact absurd c48 (by decide))) (fun (c48 : 2 < 3) => ?_)
  refine go_aloadN C X2 52 rfl d1_51 rfl rfl ?_
  refine go_iloadN C X2 53 rfl d1_52 rfl ?_
  refine go_aloadN C X2 54 rfl d1_53 rfl rfl ?_
  refine go_iload C X2 56 rfl d1_54 rfl ?_
  refine go_iaload C X2 A6 (by decide) (v := (.int o3)) rfl (pc' := 57) rfl d1_56 ?_
  refine go_iastore C X2 A5 (by decide) (by show _ < (3 : Int); decide) gb (pc' := 58) rfl d1_57 (fun T9 h11 W12 A13 X10 => ?_)
  have A14 := A6.other W12 (Ne.symm nbf)
  have A15 := A7.other W12 (Ne.symm nbg)
  have K16 := K8.wr W12 (Or.inl (List.mem_of_getElem? (i := 0) rfl))
  replace A13 : La Z h11 b .int ([(.int o0), (.int o2), (.int o3)]) := A13
  refine go_iinc C X10 61 rfl d1_58 rfl (z := 1) rfl #[rv b, rv f, rv g, iv (3 : Int32), iv (3 : Int32)] rfl ?_
  refine go_iinc C X10 64 rfl d1_61 rfl (z := 1) rfl #[rv b, rv f, rv g, iv (3 : Int32), iv (4 : Int32)] rfl ?_
  refine go_goto C X10 d1_64 (pc' := 45) (by decide) (by decide) ?_
  refine go_iloadN C X10 46 rfl d1_45 rfl ?_
  refine go_aloadN C X10 47 rfl d1_46 rfl rfl ?_
  refine go_alen C X10 A13 (z := (3 : Int32)) rfl (pc' := 48) rfl d1_47 ?_
  refine go_icmp_ge C X10 d1_48 (pc' := 51) (pc2 := 67) rfl (by decide) (by decide) (fun (c48 : 3 ≤ 3) => ?_) (fun (c48 : 3 < 3) => False.elim (by first | omega | exact absurd c48 (by decide)))
  refine go_iconst C X10 68 rfl d1_67 (z := 1) rfl ?_
  exact go_retN C X10 (by simp) (z' := 1) rfl d1_68 ⟨rfl, K16, A13⟩ (by decide) (by decide)
theorem ef_own_next_3 (m : MethodId) (b : Addr) (f : Addr) (g : Addr) : entryFrame m #[(.ref b), (.ref f), (.ref g)] 5 = mkF m 0 #[rv b, rv f, rv g, un, un] [] := by first | (simp [entryFrame, mkF, argsToLocals, Value.category]; done) | rfl
set_option maxRecDepth 65536 in
set_option maxHeartbeats 40000000 in
theorem own_next_3 (l : Launch) (Z : State) (a0 : Array Value) (hw : ∀ d ∈ tables_1, d.before a0 Z = true) (b : Addr) (f : Addr) (g : Addr) (ix : List Int32) (o0 o1 o2 o3 o4 : Int32) (h : Heap) (n0 : Nat) (hn0 : Old Z n0 h) (A1 : La Z h b .int [.int o0, .int o2, .int o3]) (A2 : La Z h f .int [.int o0, .int o1, .int o2, .int o3, .int o4]) (A3 : La Z h g .int (ia ix)) (gb : n0 ≤ b) (nbf : b ≠ f) (nbg : b ≠ g) (hl : ix.length = 80) (b0 : 0 ≤ o0.toInt ∧ o0.toInt < (80 : Nat)) (e0 : at32 ix o0 = 0) (b1 : 0 ≤ o1.toInt ∧ o1.toInt < (80 : Nat)) (e1 : at32 ix o1 = 1) (b2 : 0 ≤ o2.toInt ∧ o2.toInt < (80 : Nat)) (e2 : at32 ix o2 = 2) (b3 : 0 ≤ o3.toInt ∧ o3.toInt < (80 : Nat)) (e3 : at32 ix o3 = 3) (b4 : 0 ≤ o4.toInt ∧ o4.toInt < (80 : Nat)) (e4 : at32 ix o4 = 4) :
    Con l Z (⟨"com/example/covertide/covertide/engine/Subsets", "next", "([I[I[I)Z"⟩ : MethodName) prog_11_method_5_code 5 (some .boolean) ({ frames := 0, cells := 0, slots := 0, locals := 0 } : Room) #[(.ref b), (.ref f), (.ref g)] h n0 (fun v h' => v = some (.int 1) ∧ Keep h h' [b] ∧ La Z h' b .int [.int o0, .int o2, .int o4]) := by
  refine con_of hw (plainFor_of_name pn_com_example_covertide_covertide_engine_Subsets) hn0 ?_
  intro p e s m below meth c T0 C X0
  refine Go.cast (congrArg T0.setTop (ef_own_next_3 m b f g)) ?_
  refine go_aloadN C X0 1 rfl d1_0 rfl rfl ?_
  refine go_alen C X0 A1 (z := (3 : Int32)) rfl (pc' := 2) rfl d1_1 ?_
  refine go_iconst C X0 3 rfl d1_2 (z := 1) rfl ?_
  refine go_isubL C X0 4 rfl d1_3 (z := (2)) rfl ?_
  refine go_istoreN C X0 5 rfl d1_4 #[rv b, rv f, rv g, iv (2 : Int32), un] rfl ?_
  refine go_iloadN C X0 6 rfl d1_5 rfl ?_
  refine go_if_lt C X0 d1_6 (pc' := 9) (pc2 := 30) rfl (by decide) (by decide) (fun (c6 : 2 < 0) => False.elim (by first | omega | exact absurd c6 (by decide))) (fun (c6 : 0 ≤ 2) => ?_)
  refine go_aloadN C X0 10 rfl d1_9 rfl rfl ?_
  refine go_aloadN C X0 11 rfl d1_10 rfl rfl ?_
  refine go_iloadN C X0 12 rfl d1_11 rfl ?_
  refine go_iaload C X0 A1 (by decide) (v := (.int o3)) rfl (pc' := 13) rfl d1_12 ?_
  refine go_iaload C X0 A3 b3.1 (v := (.int (at32 ix o3))) (ia_at b3.1 (by rw [hl]; exact b3.2)) (pc' := 14) rfl d1_13 ?_
  rw [e3]
  refine go_aloadN C X0 15 rfl d1_14 rfl rfl ?_
  refine go_alen C X0 A2 (z := (5 : Int32)) rfl (pc' := 16) rfl d1_15 ?_
  refine go_aloadN C X0 17 rfl d1_16 rfl rfl ?_
  refine go_alen C X0 A1 (z := (3 : Int32)) rfl (pc' := 18) rfl d1_17 ?_
  refine go_isubL C X0 19 rfl d1_18 (z := (2)) rfl ?_
  refine go_iloadN C X0 20 rfl d1_19 rfl ?_
  refine go_iaddL C X0 21 rfl d1_20 (z := (4)) rfl ?_
  refine go_icmp_ne C X0 d1_21 (pc' := 24) (pc2 := 30) rfl (by decide) (by decide) (fun (c21 : ¬ (3 : Int32) = (4 : Int32)) => ?_) (fun (c21 : (3 : Int32) = (4 : Int32)) => False.elim (by first | omega | exact absurd c21 (by decide)))
  refine go_iloadN C X0 31 rfl d1_30 rfl ?_
  refine go_if_ge C X0 d1_31 (pc' := 34) (pc2 := 36) rfl (by decide) (by decide) (fun (c31 : 0 ≤ 2) => ?_) (fun (c31 : 2 < 0) => False.elim (by first | omega | exact absurd c31 (by decide)))
  refine go_aloadN C X0 37 rfl d1_36 rfl rfl ?_
  refine go_aloadN C X0 38 rfl d1_37 rfl rfl ?_
  refine go_iloadN C X0 39 rfl d1_38 rfl ?_
  refine go_iaload C X0 A1 (by decide) (v := (.int o3)) rfl (pc' := 40) rfl d1_39 ?_
  refine go_iaload C X0 A3 b3.1 (v := (.int (at32 ix o3))) (ia_at b3.1 (by rw [hl]; exact b3.2)) (pc' := 41) rfl d1_40 ?_
  rw [e3]
  refine go_iconst C X0 42 rfl d1_41 (z := 1) rfl ?_
  refine go_iaddL C X0 43 rfl d1_42 (z := (4)) rfl ?_
  refine go_istore C X0 45 rfl d1_43 #[rv b, rv f, rv g, iv (2 : Int32), iv (4 : Int32)] rfl ?_
  refine go_iloadN C X0 46 rfl d1_45 rfl ?_
  refine go_aloadN C X0 47 rfl d1_46 rfl rfl ?_
  refine go_alen C X0 A1 (z := (3 : Int32)) rfl (pc' := 48) rfl d1_47 ?_
  refine go_icmp_ge C X0 d1_48 (pc' := 51) (pc2 := 67) rfl (by decide) (by decide) (fun (c48 : 3 ≤ 2) => False.elim (by first | omega | exact absurd c48 (by decide))) (fun (c48 : 2 < 3) => ?_)
  refine go_aloadN C X0 52 rfl d1_51 rfl rfl ?_
  refine go_iloadN C X0 53 rfl d1_52 rfl ?_
  refine go_aloadN C X0 54 rfl d1_53 rfl rfl ?_
  refine go_iload C X0 56 rfl d1_54 rfl ?_
  refine go_iaload C X0 A2 (by decide) (v := (.int o4)) rfl (pc' := 57) rfl d1_56 ?_
  refine go_iastore C X0 A1 (by decide) (by show _ < (3 : Int); decide) gb (pc' := 58) rfl d1_57 (fun T1 h3 W4 A5 X2 => ?_)
  have A6 := A2.other W4 (Ne.symm nbf)
  have A7 := A3.other W4 (Ne.symm nbg)
  have K8 := (Keep.refl h [b]).wr W4 (Or.inl (List.mem_of_getElem? (i := 0) rfl))
  replace A5 : La Z h3 b .int ([(.int o0), (.int o2), (.int o4)]) := A5
  refine go_iinc C X2 61 rfl d1_58 rfl (z := 1) rfl #[rv b, rv f, rv g, iv (3 : Int32), iv (4 : Int32)] rfl ?_
  refine go_iinc C X2 64 rfl d1_61 rfl (z := 1) rfl #[rv b, rv f, rv g, iv (3 : Int32), iv (5 : Int32)] rfl ?_
  refine go_goto C X2 d1_64 (pc' := 45) (by decide) (by decide) ?_
  refine go_iloadN C X2 46 rfl d1_45 rfl ?_
  refine go_aloadN C X2 47 rfl d1_46 rfl rfl ?_
  refine go_alen C X2 A5 (z := (3 : Int32)) rfl (pc' := 48) rfl d1_47 ?_
  refine go_icmp_ge C X2 d1_48 (pc' := 51) (pc2 := 67) rfl (by decide) (by decide) (fun (c48 : 3 ≤ 3) => ?_) (fun (c48 : 3 < 3) => False.elim (by first | omega | exact absurd c48 (by decide)))
  refine go_iconst C X2 68 rfl d1_67 (z := 1) rfl ?_
  exact go_retN C X2 (by simp) (z' := 1) rfl d1_68 ⟨rfl, K8, A5⟩ (by decide) (by decide)
theorem ef_own_next_4 (m : MethodId) (b : Addr) (f : Addr) (g : Addr) : entryFrame m #[(.ref b), (.ref f), (.ref g)] 5 = mkF m 0 #[rv b, rv f, rv g, un, un] [] := by first | (simp [entryFrame, mkF, argsToLocals, Value.category]; done) | rfl
set_option maxRecDepth 65536 in
set_option maxHeartbeats 40000000 in
theorem own_next_4 (l : Launch) (Z : State) (a0 : Array Value) (hw : ∀ d ∈ tables_1, d.before a0 Z = true) (b : Addr) (f : Addr) (g : Addr) (ix : List Int32) (o0 o1 o2 o3 o4 : Int32) (h : Heap) (n0 : Nat) (hn0 : Old Z n0 h) (A1 : La Z h b .int [.int o0, .int o2, .int o4]) (A2 : La Z h f .int [.int o0, .int o1, .int o2, .int o3, .int o4]) (A3 : La Z h g .int (ia ix)) (gb : n0 ≤ b) (nbf : b ≠ f) (nbg : b ≠ g) (hl : ix.length = 80) (b0 : 0 ≤ o0.toInt ∧ o0.toInt < (80 : Nat)) (e0 : at32 ix o0 = 0) (b1 : 0 ≤ o1.toInt ∧ o1.toInt < (80 : Nat)) (e1 : at32 ix o1 = 1) (b2 : 0 ≤ o2.toInt ∧ o2.toInt < (80 : Nat)) (e2 : at32 ix o2 = 2) (b3 : 0 ≤ o3.toInt ∧ o3.toInt < (80 : Nat)) (e3 : at32 ix o3 = 3) (b4 : 0 ≤ o4.toInt ∧ o4.toInt < (80 : Nat)) (e4 : at32 ix o4 = 4) :
    Con l Z (⟨"com/example/covertide/covertide/engine/Subsets", "next", "([I[I[I)Z"⟩ : MethodName) prog_11_method_5_code 5 (some .boolean) ({ frames := 0, cells := 0, slots := 0, locals := 0 } : Room) #[(.ref b), (.ref f), (.ref g)] h n0 (fun v h' => v = some (.int 1) ∧ Keep h h' [b] ∧ La Z h' b .int [.int o0, .int o3, .int o4]) := by
  refine con_of hw (plainFor_of_name pn_com_example_covertide_covertide_engine_Subsets) hn0 ?_
  intro p e s m below meth c T0 C X0
  refine Go.cast (congrArg T0.setTop (ef_own_next_4 m b f g)) ?_
  refine go_aloadN C X0 1 rfl d1_0 rfl rfl ?_
  refine go_alen C X0 A1 (z := (3 : Int32)) rfl (pc' := 2) rfl d1_1 ?_
  refine go_iconst C X0 3 rfl d1_2 (z := 1) rfl ?_
  refine go_isubL C X0 4 rfl d1_3 (z := (2)) rfl ?_
  refine go_istoreN C X0 5 rfl d1_4 #[rv b, rv f, rv g, iv (2 : Int32), un] rfl ?_
  refine go_iloadN C X0 6 rfl d1_5 rfl ?_
  refine go_if_lt C X0 d1_6 (pc' := 9) (pc2 := 30) rfl (by decide) (by decide) (fun (c6 : 2 < 0) => False.elim (by first | omega | exact absurd c6 (by decide))) (fun (c6 : 0 ≤ 2) => ?_)
  refine go_aloadN C X0 10 rfl d1_9 rfl rfl ?_
  refine go_aloadN C X0 11 rfl d1_10 rfl rfl ?_
  refine go_iloadN C X0 12 rfl d1_11 rfl ?_
  refine go_iaload C X0 A1 (by decide) (v := (.int o4)) rfl (pc' := 13) rfl d1_12 ?_
  refine go_iaload C X0 A3 b4.1 (v := (.int (at32 ix o4))) (ia_at b4.1 (by rw [hl]; exact b4.2)) (pc' := 14) rfl d1_13 ?_
  rw [e4]
  refine go_aloadN C X0 15 rfl d1_14 rfl rfl ?_
  refine go_alen C X0 A2 (z := (5 : Int32)) rfl (pc' := 16) rfl d1_15 ?_
  refine go_aloadN C X0 17 rfl d1_16 rfl rfl ?_
  refine go_alen C X0 A1 (z := (3 : Int32)) rfl (pc' := 18) rfl d1_17 ?_
  refine go_isubL C X0 19 rfl d1_18 (z := (2)) rfl ?_
  refine go_iloadN C X0 20 rfl d1_19 rfl ?_
  refine go_iaddL C X0 21 rfl d1_20 (z := (4)) rfl ?_
  refine go_icmp_ne C X0 d1_21 (pc' := 24) (pc2 := 30) rfl (by decide) (by decide) (fun (c21 : ¬ (4 : Int32) = (4 : Int32)) => False.elim (by first | omega | exact absurd c21 (by decide))) (fun (c21 : (4 : Int32) = (4 : Int32)) => ?_)
  refine go_iinc C X0 27 rfl d1_24 rfl (z := (-1)) rfl #[rv b, rv f, rv g, iv (1 : Int32), un] rfl ?_
  refine go_goto C X0 d1_27 (pc' := 5) (by decide) (by decide) ?_
  refine go_iloadN C X0 6 rfl d1_5 rfl ?_
  refine go_if_lt C X0 d1_6 (pc' := 9) (pc2 := 30) rfl (by decide) (by decide) (fun (c6 : 1 < 0) => False.elim (by first | omega | exact absurd c6 (by decide))) (fun (c6 : 0 ≤ 1) => ?_)
  refine go_aloadN C X0 10 rfl d1_9 rfl rfl ?_
  refine go_aloadN C X0 11 rfl d1_10 rfl rfl ?_
  refine go_iloadN C X0 12 rfl d1_11 rfl ?_
  refine go_iaload C X0 A1 (by decide) (v := (.int o2)) rfl (pc' := 13) rfl d1_12 ?_
  refine go_iaload C X0 A3 b2.1 (v := (.int (at32 ix o2))) (ia_at b2.1 (by rw [hl]; exact b2.2)) (pc' := 14) rfl d1_13 ?_
  rw [e2]
  refine go_aloadN C X0 15 rfl d1_14 rfl rfl ?_
  refine go_alen C X0 A2 (z := (5 : Int32)) rfl (pc' := 16) rfl d1_15 ?_
  refine go_aloadN C X0 17 rfl d1_16 rfl rfl ?_
  refine go_alen C X0 A1 (z := (3 : Int32)) rfl (pc' := 18) rfl d1_17 ?_
  refine go_isubL C X0 19 rfl d1_18 (z := (2)) rfl ?_
  refine go_iloadN C X0 20 rfl d1_19 rfl ?_
  refine go_iaddL C X0 21 rfl d1_20 (z := (3)) rfl ?_
  refine go_icmp_ne C X0 d1_21 (pc' := 24) (pc2 := 30) rfl (by decide) (by decide) (fun (c21 : ¬ (2 : Int32) = (3 : Int32)) => ?_) (fun (c21 : (2 : Int32) = (3 : Int32)) => False.elim (by first | omega | exact absurd c21 (by decide)))
  refine go_iloadN C X0 31 rfl d1_30 rfl ?_
  refine go_if_ge C X0 d1_31 (pc' := 34) (pc2 := 36) rfl (by decide) (by decide) (fun (c31 : 0 ≤ 1) => ?_) (fun (c31 : 1 < 0) => False.elim (by first | omega | exact absurd c31 (by decide)))
  refine go_aloadN C X0 37 rfl d1_36 rfl rfl ?_
  refine go_aloadN C X0 38 rfl d1_37 rfl rfl ?_
  refine go_iloadN C X0 39 rfl d1_38 rfl ?_
  refine go_iaload C X0 A1 (by decide) (v := (.int o2)) rfl (pc' := 40) rfl d1_39 ?_
  refine go_iaload C X0 A3 b2.1 (v := (.int (at32 ix o2))) (ia_at b2.1 (by rw [hl]; exact b2.2)) (pc' := 41) rfl d1_40 ?_
  rw [e2]
  refine go_iconst C X0 42 rfl d1_41 (z := 1) rfl ?_
  refine go_iaddL C X0 43 rfl d1_42 (z := (3)) rfl ?_
  refine go_istore C X0 45 rfl d1_43 #[rv b, rv f, rv g, iv (1 : Int32), iv (3 : Int32)] rfl ?_
  refine go_iloadN C X0 46 rfl d1_45 rfl ?_
  refine go_aloadN C X0 47 rfl d1_46 rfl rfl ?_
  refine go_alen C X0 A1 (z := (3 : Int32)) rfl (pc' := 48) rfl d1_47 ?_
  refine go_icmp_ge C X0 d1_48 (pc' := 51) (pc2 := 67) rfl (by decide) (by decide) (fun (c48 : 3 ≤ 1) => False.elim (by first | omega | exact absurd c48 (by decide))) (fun (c48 : 1 < 3) => ?_)
  refine go_aloadN C X0 52 rfl d1_51 rfl rfl ?_
  refine go_iloadN C X0 53 rfl d1_52 rfl ?_
  refine go_aloadN C X0 54 rfl d1_53 rfl rfl ?_
  refine go_iload C X0 56 rfl d1_54 rfl ?_
  refine go_iaload C X0 A2 (by decide) (v := (.int o3)) rfl (pc' := 57) rfl d1_56 ?_
  refine go_iastore C X0 A1 (by decide) (by show _ < (3 : Int); decide) gb (pc' := 58) rfl d1_57 (fun T1 h3 W4 A5 X2 => ?_)
  have A6 := A2.other W4 (Ne.symm nbf)
  have A7 := A3.other W4 (Ne.symm nbg)
  have K8 := (Keep.refl h [b]).wr W4 (Or.inl (List.mem_of_getElem? (i := 0) rfl))
  replace A5 : La Z h3 b .int ([(.int o0), (.int o3), (.int o4)]) := A5
  refine go_iinc C X2 61 rfl d1_58 rfl (z := 1) rfl #[rv b, rv f, rv g, iv (2 : Int32), iv (3 : Int32)] rfl ?_
  refine go_iinc C X2 64 rfl d1_61 rfl (z := 1) rfl #[rv b, rv f, rv g, iv (2 : Int32), iv (4 : Int32)] rfl ?_
  refine go_goto C X2 d1_64 (pc' := 45) (by decide) (by decide) ?_
  refine go_iloadN C X2 46 rfl d1_45 rfl ?_
  refine go_aloadN C X2 47 rfl d1_46 rfl rfl ?_
  refine go_alen C X2 A5 (z := (3 : Int32)) rfl (pc' := 48) rfl d1_47 ?_
  refine go_icmp_ge C X2 d1_48 (pc' := 51) (pc2 := 67) rfl (by decide) (by decide) (fun (c48 : 3 ≤ 2) => False.elim (by first | omega | exact absurd c48 (by decide))) (fun (c48 : 2 < 3) => ?_)
  refine go_aloadN C X2 52 rfl d1_51 rfl rfl ?_
  refine go_iloadN C X2 53 rfl d1_52 rfl ?_
  refine go_aloadN C X2 54 rfl d1_53 rfl rfl ?_
  refine go_iload C X2 56 rfl d1_54 rfl ?_
  refine go_iaload C X2 A6 (by decide) (v := (.int o4)) rfl (pc' := 57) rfl d1_56 ?_
  refine go_iastore C X2 A5 (by decide) (by show _ < (3 : Int); decide) gb (pc' := 58) rfl d1_57 (fun T9 h11 W12 A13 X10 => ?_)
  have A14 := A6.other W12 (Ne.symm nbf)
  have A15 := A7.other W12 (Ne.symm nbg)
  have K16 := K8.wr W12 (Or.inl (List.mem_of_getElem? (i := 0) rfl))
  replace A13 : La Z h11 b .int ([(.int o0), (.int o3), (.int o4)]) := A13
  refine go_iinc C X10 61 rfl d1_58 rfl (z := 1) rfl #[rv b, rv f, rv g, iv (3 : Int32), iv (4 : Int32)] rfl ?_
  refine go_iinc C X10 64 rfl d1_61 rfl (z := 1) rfl #[rv b, rv f, rv g, iv (3 : Int32), iv (5 : Int32)] rfl ?_
  refine go_goto C X10 d1_64 (pc' := 45) (by decide) (by decide) ?_
  refine go_iloadN C X10 46 rfl d1_45 rfl ?_
  refine go_aloadN C X10 47 rfl d1_46 rfl rfl ?_
  refine go_alen C X10 A13 (z := (3 : Int32)) rfl (pc' := 48) rfl d1_47 ?_
  refine go_icmp_ge C X10 d1_48 (pc' := 51) (pc2 := 67) rfl (by decide) (by decide) (fun (c48 : 3 ≤ 3) => ?_) (fun (c48 : 3 < 3) => False.elim (by first | omega | exact absurd c48 (by decide)))
  refine go_iconst C X10 68 rfl d1_67 (z := 1) rfl ?_
  exact go_retN C X10 (by simp) (z' := 1) rfl d1_68 ⟨rfl, K16, A13⟩ (by decide) (by decide)
theorem ef_own_next_5 (m : MethodId) (b : Addr) (f : Addr) (g : Addr) : entryFrame m #[(.ref b), (.ref f), (.ref g)] 5 = mkF m 0 #[rv b, rv f, rv g, un, un] [] := by first | (simp [entryFrame, mkF, argsToLocals, Value.category]; done) | rfl
set_option maxRecDepth 65536 in
set_option maxHeartbeats 40000000 in
theorem own_next_5 (l : Launch) (Z : State) (a0 : Array Value) (hw : ∀ d ∈ tables_1, d.before a0 Z = true) (b : Addr) (f : Addr) (g : Addr) (ix : List Int32) (o0 o1 o2 o3 o4 : Int32) (h : Heap) (n0 : Nat) (hn0 : Old Z n0 h) (A1 : La Z h b .int [.int o0, .int o3, .int o4]) (A2 : La Z h f .int [.int o0, .int o1, .int o2, .int o3, .int o4]) (A3 : La Z h g .int (ia ix)) (gb : n0 ≤ b) (nbf : b ≠ f) (nbg : b ≠ g) (hl : ix.length = 80) (b0 : 0 ≤ o0.toInt ∧ o0.toInt < (80 : Nat)) (e0 : at32 ix o0 = 0) (b1 : 0 ≤ o1.toInt ∧ o1.toInt < (80 : Nat)) (e1 : at32 ix o1 = 1) (b2 : 0 ≤ o2.toInt ∧ o2.toInt < (80 : Nat)) (e2 : at32 ix o2 = 2) (b3 : 0 ≤ o3.toInt ∧ o3.toInt < (80 : Nat)) (e3 : at32 ix o3 = 3) (b4 : 0 ≤ o4.toInt ∧ o4.toInt < (80 : Nat)) (e4 : at32 ix o4 = 4) :
    Con l Z (⟨"com/example/covertide/covertide/engine/Subsets", "next", "([I[I[I)Z"⟩ : MethodName) prog_11_method_5_code 5 (some .boolean) ({ frames := 0, cells := 0, slots := 0, locals := 0 } : Room) #[(.ref b), (.ref f), (.ref g)] h n0 (fun v h' => v = some (.int 1) ∧ Keep h h' [b] ∧ La Z h' b .int [.int o1, .int o2, .int o3]) := by
  refine con_of hw (plainFor_of_name pn_com_example_covertide_covertide_engine_Subsets) hn0 ?_
  intro p e s m below meth c T0 C X0
  refine Go.cast (congrArg T0.setTop (ef_own_next_5 m b f g)) ?_
  refine go_aloadN C X0 1 rfl d1_0 rfl rfl ?_
  refine go_alen C X0 A1 (z := (3 : Int32)) rfl (pc' := 2) rfl d1_1 ?_
  refine go_iconst C X0 3 rfl d1_2 (z := 1) rfl ?_
  refine go_isubL C X0 4 rfl d1_3 (z := (2)) rfl ?_
  refine go_istoreN C X0 5 rfl d1_4 #[rv b, rv f, rv g, iv (2 : Int32), un] rfl ?_
  refine go_iloadN C X0 6 rfl d1_5 rfl ?_
  refine go_if_lt C X0 d1_6 (pc' := 9) (pc2 := 30) rfl (by decide) (by decide) (fun (c6 : 2 < 0) => False.elim (by first | omega | exact absurd c6 (by decide))) (fun (c6 : 0 ≤ 2) => ?_)
  refine go_aloadN C X0 10 rfl d1_9 rfl rfl ?_
  refine go_aloadN C X0 11 rfl d1_10 rfl rfl ?_
  refine go_iloadN C X0 12 rfl d1_11 rfl ?_
  refine go_iaload C X0 A1 (by decide) (v := (.int o4)) rfl (pc' := 13) rfl d1_12 ?_
  refine go_iaload C X0 A3 b4.1 (v := (.int (at32 ix o4))) (ia_at b4.1 (by rw [hl]; exact b4.2)) (pc' := 14) rfl d1_13 ?_
  rw [e4]
  refine go_aloadN C X0 15 rfl d1_14 rfl rfl ?_
  refine go_alen C X0 A2 (z := (5 : Int32)) rfl (pc' := 16) rfl d1_15 ?_
  refine go_aloadN C X0 17 rfl d1_16 rfl rfl ?_
  refine go_alen C X0 A1 (z := (3 : Int32)) rfl (pc' := 18) rfl d1_17 ?_
  refine go_isubL C X0 19 rfl d1_18 (z := (2)) rfl ?_
  refine go_iloadN C X0 20 rfl d1_19 rfl ?_
  refine go_iaddL C X0 21 rfl d1_20 (z := (4)) rfl ?_
  refine go_icmp_ne C X0 d1_21 (pc' := 24) (pc2 := 30) rfl (by decide) (by decide) (fun (c21 : ¬ (4 : Int32) = (4 : Int32)) => False.elim (by first | omega | exact absurd c21 (by decide))) (fun (c21 : (4 : Int32) = (4 : Int32)) => ?_)
  refine go_iinc C X0 27 rfl d1_24 rfl (z := (-1)) rfl #[rv b, rv f, rv g, iv (1 : Int32), un] rfl ?_
  refine go_goto C X0 d1_27 (pc' := 5) (by decide) (by decide) ?_
  refine go_iloadN C X0 6 rfl d1_5 rfl ?_
  refine go_if_lt C X0 d1_6 (pc' := 9) (pc2 := 30) rfl (by decide) (by decide) (fun (c6 : 1 < 0) => False.elim (by first | omega | exact absurd c6 (by decide))) (fun (c6 : 0 ≤ 1) => ?_)
  refine go_aloadN C X0 10 rfl d1_9 rfl rfl ?_
  refine go_aloadN C X0 11 rfl d1_10 rfl rfl ?_
  refine go_iloadN C X0 12 rfl d1_11 rfl ?_
  refine go_iaload C X0 A1 (by decide) (v := (.int o3)) rfl (pc' := 13) rfl d1_12 ?_
  refine go_iaload C X0 A3 b3.1 (v := (.int (at32 ix o3))) (ia_at b3.1 (by rw [hl]; exact b3.2)) (pc' := 14) rfl d1_13 ?_
  rw [e3]
  refine go_aloadN C X0 15 rfl d1_14 rfl rfl ?_
  refine go_alen C X0 A2 (z := (5 : Int32)) rfl (pc' := 16) rfl d1_15 ?_
  refine go_aloadN C X0 17 rfl d1_16 rfl rfl ?_
  refine go_alen C X0 A1 (z := (3 : Int32)) rfl (pc' := 18) rfl d1_17 ?_
  refine go_isubL C X0 19 rfl d1_18 (z := (2)) rfl ?_
  refine go_iloadN C X0 20 rfl d1_19 rfl ?_
  refine go_iaddL C X0 21 rfl d1_20 (z := (3)) rfl ?_
  refine go_icmp_ne C X0 d1_21 (pc' := 24) (pc2 := 30) rfl (by decide) (by decide) (fun (c21 : ¬ (3 : Int32) = (3 : Int32)) => False.elim (by first | omega | exact absurd c21 (by decide))) (fun (c21 : (3 : Int32) = (3 : Int32)) => ?_)
  refine go_iinc C X0 27 rfl d1_24 rfl (z := (-1)) rfl #[rv b, rv f, rv g, iv (0 : Int32), un] rfl ?_
  refine go_goto C X0 d1_27 (pc' := 5) (by decide) (by decide) ?_
  refine go_iloadN C X0 6 rfl d1_5 rfl ?_
  refine go_if_lt C X0 d1_6 (pc' := 9) (pc2 := 30) rfl (by decide) (by decide) (fun (c6 : 0 < 0) => False.elim (by first | omega | exact absurd c6 (by decide))) (fun (c6 : 0 ≤ 0) => ?_)
  refine go_aloadN C X0 10 rfl d1_9 rfl rfl ?_
  refine go_aloadN C X0 11 rfl d1_10 rfl rfl ?_
  refine go_iloadN C X0 12 rfl d1_11 rfl ?_
  refine go_iaload C X0 A1 (by decide) (v := (.int o0)) rfl (pc' := 13) rfl d1_12 ?_
  refine go_iaload C X0 A3 b0.1 (v := (.int (at32 ix o0))) (ia_at b0.1 (by rw [hl]; exact b0.2)) (pc' := 14) rfl d1_13 ?_
  rw [e0]
  refine go_aloadN C X0 15 rfl d1_14 rfl rfl ?_
  refine go_alen C X0 A2 (z := (5 : Int32)) rfl (pc' := 16) rfl d1_15 ?_
  refine go_aloadN C X0 17 rfl d1_16 rfl rfl ?_
  refine go_alen C X0 A1 (z := (3 : Int32)) rfl (pc' := 18) rfl d1_17 ?_
  refine go_isubL C X0 19 rfl d1_18 (z := (2)) rfl ?_
  refine go_iloadN C X0 20 rfl d1_19 rfl ?_
  refine go_iaddL C X0 21 rfl d1_20 (z := (2)) rfl ?_
  refine go_icmp_ne C X0 d1_21 (pc' := 24) (pc2 := 30) rfl (by decide) (by decide) (fun (c21 : ¬ (0 : Int32) = (2 : Int32)) => ?_) (fun (c21 : (0 : Int32) = (2 : Int32)) => False.elim (by first | omega | exact absurd c21 (by decide)))
  refine go_iloadN C X0 31 rfl d1_30 rfl ?_
  refine go_if_ge C X0 d1_31 (pc' := 34) (pc2 := 36) rfl (by decide) (by decide) (fun (c31 : 0 ≤ 0) => ?_) (fun (c31 : 0 < 0) => False.elim (by first | omega | exact absurd c31 (by decide)))
  refine go_aloadN C X0 37 rfl d1_36 rfl rfl ?_
  refine go_aloadN C X0 38 rfl d1_37 rfl rfl ?_
  refine go_iloadN C X0 39 rfl d1_38 rfl ?_
  refine go_iaload C X0 A1 (by decide) (v := (.int o0)) rfl (pc' := 40) rfl d1_39 ?_
  refine go_iaload C X0 A3 b0.1 (v := (.int (at32 ix o0))) (ia_at b0.1 (by rw [hl]; exact b0.2)) (pc' := 41) rfl d1_40 ?_
  rw [e0]
  refine go_iconst C X0 42 rfl d1_41 (z := 1) rfl ?_
  refine go_iaddL C X0 43 rfl d1_42 (z := (1)) rfl ?_
  refine go_istore C X0 45 rfl d1_43 #[rv b, rv f, rv g, iv (0 : Int32), iv (1 : Int32)] rfl ?_
  refine go_iloadN C X0 46 rfl d1_45 rfl ?_
  refine go_aloadN C X0 47 rfl d1_46 rfl rfl ?_
  refine go_alen C X0 A1 (z := (3 : Int32)) rfl (pc' := 48) rfl d1_47 ?_
  refine go_icmp_ge C X0 d1_48 (pc' := 51) (pc2 := 67) rfl (by decide) (by decide) (fun (c48 : 3 ≤ 0) => False.elim (by first | omega | exact absurd c48 (by decide))) (fun (c48 : 0 < 3) => ?_)
  refine go_aloadN C X0 52 rfl d1_51 rfl rfl ?_
  refine go_iloadN C X0 53 rfl d1_52 rfl ?_
  refine go_aloadN C X0 54 rfl d1_53 rfl rfl ?_
  refine go_iload C X0 56 rfl d1_54 rfl ?_
  refine go_iaload C X0 A2 (by decide) (v := (.int o1)) rfl (pc' := 57) rfl d1_56 ?_
  refine go_iastore C X0 A1 (by decide) (by show _ < (3 : Int); decide) gb (pc' := 58) rfl d1_57 (fun T1 h3 W4 A5 X2 => ?_)
  have A6 := A2.other W4 (Ne.symm nbf)
  have A7 := A3.other W4 (Ne.symm nbg)
  have K8 := (Keep.refl h [b]).wr W4 (Or.inl (List.mem_of_getElem? (i := 0) rfl))
  replace A5 : La Z h3 b .int ([(.int o1), (.int o3), (.int o4)]) := A5
  refine go_iinc C X2 61 rfl d1_58 rfl (z := 1) rfl #[rv b, rv f, rv g, iv (1 : Int32), iv (1 : Int32)] rfl ?_
  refine go_iinc C X2 64 rfl d1_61 rfl (z := 1) rfl #[rv b, rv f, rv g, iv (1 : Int32), iv (2 : Int32)] rfl ?_
  refine go_goto C X2 d1_64 (pc' := 45) (by decide) (by decide) ?_
  refine go_iloadN C X2 46 rfl d1_45 rfl ?_
  refine go_aloadN C X2 47 rfl d1_46 rfl rfl ?_
  refine go_alen C X2 A5 (z := (3 : Int32)) rfl (pc' := 48) rfl d1_47 ?_
  refine go_icmp_ge C X2 d1_48 (pc' := 51) (pc2 := 67) rfl (by decide) (by decide) (fun (c48 : 3 ≤ 1) => False.elim (by first | omega | exact absurd c48 (by decide))) (fun (c48 : 1 < 3) => ?_)
  refine go_aloadN C X2 52 rfl d1_51 rfl rfl ?_
  refine go_iloadN C X2 53 rfl d1_52 rfl ?_
  refine go_aloadN C X2 54 rfl d1_53 rfl rfl ?_
  refine go_iload C X2 56 rfl d1_54 rfl ?_
  refine go_iaload C X2 A6 (by decide) (v := (.int o2)) rfl (pc' := 57) rfl d1_56 ?_
  refine go_iastore C X2 A5 (by decide) (by show _ < (3 : Int); decide) gb (pc' := 58) rfl d1_57 (fun T9 h11 W12 A13 X10 => ?_)
  have A14 := A6.other W12 (Ne.symm nbf)
  have A15 := A7.other W12 (Ne.symm nbg)
  have K16 := K8.wr W12 (Or.inl (List.mem_of_getElem? (i := 0) rfl))
  replace A13 : La Z h11 b .int ([(.int o1), (.int o2), (.int o4)]) := A13
  refine go_iinc C X10 61 rfl d1_58 rfl (z := 1) rfl #[rv b, rv f, rv g, iv (2 : Int32), iv (2 : Int32)] rfl ?_
  refine go_iinc C X10 64 rfl d1_61 rfl (z := 1) rfl #[rv b, rv f, rv g, iv (2 : Int32), iv (3 : Int32)] rfl ?_
  refine go_goto C X10 d1_64 (pc' := 45) (by decide) (by decide) ?_
  refine go_iloadN C X10 46 rfl d1_45 rfl ?_
  refine go_aloadN C X10 47 rfl d1_46 rfl rfl ?_
  refine go_alen C X10 A13 (z := (3 : Int32)) rfl (pc' := 48) rfl d1_47 ?_
  refine go_icmp_ge C X10 d1_48 (pc' := 51) (pc2 := 67) rfl (by decide) (by decide) (fun (c48 : 3 ≤ 2) => False.elim (by first | omega | exact absurd c48 (by decide))) (fun (c48 : 2 < 3) => ?_)
  refine go_aloadN C X10 52 rfl d1_51 rfl rfl ?_
  refine go_iloadN C X10 53 rfl d1_52 rfl ?_
  refine go_aloadN C X10 54 rfl d1_53 rfl rfl ?_
  refine go_iload C X10 56 rfl d1_54 rfl ?_
  refine go_iaload C X10 A14 (by decide) (v := (.int o3)) rfl (pc' := 57) rfl d1_56 ?_
  refine go_iastore C X10 A13 (by decide) (by show _ < (3 : Int); decide) gb (pc' := 58) rfl d1_57 (fun T17 h19 W20 A21 X18 => ?_)
  have A22 := A14.other W20 (Ne.symm nbf)
  have A23 := A15.other W20 (Ne.symm nbg)
  have K24 := K16.wr W20 (Or.inl (List.mem_of_getElem? (i := 0) rfl))
  replace A21 : La Z h19 b .int ([(.int o1), (.int o2), (.int o3)]) := A21
  refine go_iinc C X18 61 rfl d1_58 rfl (z := 1) rfl #[rv b, rv f, rv g, iv (3 : Int32), iv (3 : Int32)] rfl ?_
  refine go_iinc C X18 64 rfl d1_61 rfl (z := 1) rfl #[rv b, rv f, rv g, iv (3 : Int32), iv (4 : Int32)] rfl ?_
  refine go_goto C X18 d1_64 (pc' := 45) (by decide) (by decide) ?_
  refine go_iloadN C X18 46 rfl d1_45 rfl ?_
  refine go_aloadN C X18 47 rfl d1_46 rfl rfl ?_
  refine go_alen C X18 A21 (z := (3 : Int32)) rfl (pc' := 48) rfl d1_47 ?_
  refine go_icmp_ge C X18 d1_48 (pc' := 51) (pc2 := 67) rfl (by decide) (by decide) (fun (c48 : 3 ≤ 3) => ?_) (fun (c48 : 3 < 3) => False.elim (by first | omega | exact absurd c48 (by decide)))
  refine go_iconst C X18 68 rfl d1_67 (z := 1) rfl ?_
  exact go_retN C X18 (by simp) (z' := 1) rfl d1_68 ⟨rfl, K24, A21⟩ (by decide) (by decide)
theorem ef_own_next_6 (m : MethodId) (b : Addr) (f : Addr) (g : Addr) : entryFrame m #[(.ref b), (.ref f), (.ref g)] 5 = mkF m 0 #[rv b, rv f, rv g, un, un] [] := by first | (simp [entryFrame, mkF, argsToLocals, Value.category]; done) | rfl
set_option maxRecDepth 65536 in
set_option maxHeartbeats 40000000 in
theorem own_next_6 (l : Launch) (Z : State) (a0 : Array Value) (hw : ∀ d ∈ tables_1, d.before a0 Z = true) (b : Addr) (f : Addr) (g : Addr) (ix : List Int32) (o0 o1 o2 o3 o4 : Int32) (h : Heap) (n0 : Nat) (hn0 : Old Z n0 h) (A1 : La Z h b .int [.int o1, .int o2, .int o3]) (A2 : La Z h f .int [.int o0, .int o1, .int o2, .int o3, .int o4]) (A3 : La Z h g .int (ia ix)) (gb : n0 ≤ b) (nbf : b ≠ f) (nbg : b ≠ g) (hl : ix.length = 80) (b0 : 0 ≤ o0.toInt ∧ o0.toInt < (80 : Nat)) (e0 : at32 ix o0 = 0) (b1 : 0 ≤ o1.toInt ∧ o1.toInt < (80 : Nat)) (e1 : at32 ix o1 = 1) (b2 : 0 ≤ o2.toInt ∧ o2.toInt < (80 : Nat)) (e2 : at32 ix o2 = 2) (b3 : 0 ≤ o3.toInt ∧ o3.toInt < (80 : Nat)) (e3 : at32 ix o3 = 3) (b4 : 0 ≤ o4.toInt ∧ o4.toInt < (80 : Nat)) (e4 : at32 ix o4 = 4) :
    Con l Z (⟨"com/example/covertide/covertide/engine/Subsets", "next", "([I[I[I)Z"⟩ : MethodName) prog_11_method_5_code 5 (some .boolean) ({ frames := 0, cells := 0, slots := 0, locals := 0 } : Room) #[(.ref b), (.ref f), (.ref g)] h n0 (fun v h' => v = some (.int 1) ∧ Keep h h' [b] ∧ La Z h' b .int [.int o1, .int o2, .int o4]) := by
  refine con_of hw (plainFor_of_name pn_com_example_covertide_covertide_engine_Subsets) hn0 ?_
  intro p e s m below meth c T0 C X0
  refine Go.cast (congrArg T0.setTop (ef_own_next_6 m b f g)) ?_
  refine go_aloadN C X0 1 rfl d1_0 rfl rfl ?_
  refine go_alen C X0 A1 (z := (3 : Int32)) rfl (pc' := 2) rfl d1_1 ?_
  refine go_iconst C X0 3 rfl d1_2 (z := 1) rfl ?_
  refine go_isubL C X0 4 rfl d1_3 (z := (2)) rfl ?_
  refine go_istoreN C X0 5 rfl d1_4 #[rv b, rv f, rv g, iv (2 : Int32), un] rfl ?_
  refine go_iloadN C X0 6 rfl d1_5 rfl ?_
  refine go_if_lt C X0 d1_6 (pc' := 9) (pc2 := 30) rfl (by decide) (by decide) (fun (c6 : 2 < 0) => False.elim (by first | omega | exact absurd c6 (by decide))) (fun (c6 : 0 ≤ 2) => ?_)
  refine go_aloadN C X0 10 rfl d1_9 rfl rfl ?_
  refine go_aloadN C X0 11 rfl d1_10 rfl rfl ?_
  refine go_iloadN C X0 12 rfl d1_11 rfl ?_
  refine go_iaload C X0 A1 (by decide) (v := (.int o3)) rfl (pc' := 13) rfl d1_12 ?_
  refine go_iaload C X0 A3 b3.1 (v := (.int (at32 ix o3))) (ia_at b3.1 (by rw [hl]; exact b3.2)) (pc' := 14) rfl d1_13 ?_
  rw [e3]
  refine go_aloadN C X0 15 rfl d1_14 rfl rfl ?_
  refine go_alen C X0 A2 (z := (5 : Int32)) rfl (pc' := 16) rfl d1_15 ?_
  refine go_aloadN C X0 17 rfl d1_16 rfl rfl ?_
  refine go_alen C X0 A1 (z := (3 : Int32)) rfl (pc' := 18) rfl d1_17 ?_
  refine go_isubL C X0 19 rfl d1_18 (z := (2)) rfl ?_
  refine go_iloadN C X0 20 rfl d1_19 rfl ?_
  refine go_iaddL C X0 21 rfl d1_20 (z := (4)) rfl ?_
  refine go_icmp_ne C X0 d1_21 (pc' := 24) (pc2 := 30) rfl (by decide) (by decide) (fun (c21 : ¬ (3 : Int32) = (4 : Int32)) => ?_) (fun (c21 : (3 : Int32) = (4 : Int32)) => False.elim (by first | omega | exact absurd c21 (by decide)))
  refine go_iloadN C X0 31 rfl d1_30 rfl ?_
  refine go_if_ge C X0 d1_31 (pc' := 34) (pc2 := 36) rfl (by decide) (by decide) (fun (c31 : 0 ≤ 2) => ?_) (fun (c31 : 2 < 0) => False.elim (by first | omega | exact absurd c31 (by decide)))
  refine go_aloadN C X0 37 rfl d1_36 rfl rfl ?_
  refine go_aloadN C X0 38 rfl d1_37 rfl rfl ?_
  refine go_iloadN C X0 39 rfl d1_38 rfl ?_
  refine go_iaload C X0 A1 (by decide) (v := (.int o3)) rfl (pc' := 40) rfl d1_39 ?_
  refine go_iaload C X0 A3 b3.1 (v := (.int (at32 ix o3))) (ia_at b3.1 (by rw [hl]; exact b3.2)) (pc' := 41) rfl d1_40 ?_
  rw [e3]
  refine go_iconst C X0 42 rfl d1_41 (z := 1) rfl ?_
  refine go_iaddL C X0 43 rfl d1_42 (z := (4)) rfl ?_
  refine go_istore C X0 45 rfl d1_43 #[rv b, rv f, rv g, iv (2 : Int32), iv (4 : Int32)] rfl ?_
  refine go_iloadN C X0 46 rfl d1_45 rfl ?_
  refine go_aloadN C X0 47 rfl d1_46 rfl rfl ?_
  refine go_alen C X0 A1 (z := (3 : Int32)) rfl (pc' := 48) rfl d1_47 ?_
  refine go_icmp_ge C X0 d1_48 (pc' := 51) (pc2 := 67) rfl (by decide) (by decide) (fun (c48 : 3 ≤ 2) => False.elim (by first | omega | exact absurd c48 (by decide))) (fun (c48 : 2 < 3) => ?_)
  refine go_aloadN C X0 52 rfl d1_51 rfl rfl ?_
  refine go_iloadN C X0 53 rfl d1_52 rfl ?_
  refine go_aloadN C X0 54 rfl d1_53 rfl rfl ?_
  refine go_iload C X0 56 rfl d1_54 rfl ?_
  refine go_iaload C X0 A2 (by decide) (v := (.int o4)) rfl (pc' := 57) rfl d1_56 ?_
  refine go_iastore C X0 A1 (by decide) (by show _ < (3 : Int); decide) gb (pc' := 58) rfl d1_57 (fun T1 h3 W4 A5 X2 => ?_)
  have A6 := A2.other W4 (Ne.symm nbf)
  have A7 := A3.other W4 (Ne.symm nbg)
  have K8 := (Keep.refl h [b]).wr W4 (Or.inl (List.mem_of_getElem? (i := 0) rfl))
  replace A5 : La Z h3 b .int ([(.int o1), (.int o2), (.int o4)]) := A5
  refine go_iinc C X2 61 rfl d1_58 rfl (z := 1) rfl #[rv b, rv f, rv g, iv (3 : Int32), iv (4 : Int32)] rfl ?_
  refine go_iinc C X2 64 rfl d1_61 rfl (z := 1) rfl #[rv b, rv f, rv g, iv (3 : Int32), iv (5 : Int32)] rfl ?_
  refine go_goto C X2 d1_64 (pc' := 45) (by decide) (by decide) ?_
  refine go_iloadN C X2 46 rfl d1_45 rfl ?_
  refine go_aloadN C X2 47 rfl d1_46 rfl rfl ?_
  refine go_alen C X2 A5 (z := (3 : Int32)) rfl (pc' := 48) rfl d1_47 ?_
  refine go_icmp_ge C X2 d1_48 (pc' := 51) (pc2 := 67) rfl (by decide) (by decide) (fun (c48 : 3 ≤ 3) => ?_) (fun (c48 : 3 < 3) => False.elim (by first | omega | exact absurd c48 (by decide)))
  refine go_iconst C X2 68 rfl d1_67 (z := 1) rfl ?_
  exact go_retN C X2 (by simp) (z' := 1) rfl d1_68 ⟨rfl, K8, A5⟩ (by decide) (by decide)
theorem ef_own_next_7 (m : MethodId) (b : Addr) (f : Addr) (g : Addr) : entryFrame m #[(.ref b), (.ref f), (.ref g)] 5 = mkF m 0 #[rv b, rv f, rv g, un, un] [] := by first | (simp [entryFrame, mkF, argsToLocals, Value.category]; done) | rfl
set_option maxRecDepth 65536 in
set_option maxHeartbeats 40000000 in
theorem own_next_7 (l : Launch) (Z : State) (a0 : Array Value) (hw : ∀ d ∈ tables_1, d.before a0 Z = true) (b : Addr) (f : Addr) (g : Addr) (ix : List Int32) (o0 o1 o2 o3 o4 : Int32) (h : Heap) (n0 : Nat) (hn0 : Old Z n0 h) (A1 : La Z h b .int [.int o1, .int o2, .int o4]) (A2 : La Z h f .int [.int o0, .int o1, .int o2, .int o3, .int o4]) (A3 : La Z h g .int (ia ix)) (gb : n0 ≤ b) (nbf : b ≠ f) (nbg : b ≠ g) (hl : ix.length = 80) (b0 : 0 ≤ o0.toInt ∧ o0.toInt < (80 : Nat)) (e0 : at32 ix o0 = 0) (b1 : 0 ≤ o1.toInt ∧ o1.toInt < (80 : Nat)) (e1 : at32 ix o1 = 1) (b2 : 0 ≤ o2.toInt ∧ o2.toInt < (80 : Nat)) (e2 : at32 ix o2 = 2) (b3 : 0 ≤ o3.toInt ∧ o3.toInt < (80 : Nat)) (e3 : at32 ix o3 = 3) (b4 : 0 ≤ o4.toInt ∧ o4.toInt < (80 : Nat)) (e4 : at32 ix o4 = 4) :
    Con l Z (⟨"com/example/covertide/covertide/engine/Subsets", "next", "([I[I[I)Z"⟩ : MethodName) prog_11_method_5_code 5 (some .boolean) ({ frames := 0, cells := 0, slots := 0, locals := 0 } : Room) #[(.ref b), (.ref f), (.ref g)] h n0 (fun v h' => v = some (.int 1) ∧ Keep h h' [b] ∧ La Z h' b .int [.int o1, .int o3, .int o4]) := by
  refine con_of hw (plainFor_of_name pn_com_example_covertide_covertide_engine_Subsets) hn0 ?_
  intro p e s m below meth c T0 C X0
  refine Go.cast (congrArg T0.setTop (ef_own_next_7 m b f g)) ?_
  refine go_aloadN C X0 1 rfl d1_0 rfl rfl ?_
  refine go_alen C X0 A1 (z := (3 : Int32)) rfl (pc' := 2) rfl d1_1 ?_
  refine go_iconst C X0 3 rfl d1_2 (z := 1) rfl ?_
  refine go_isubL C X0 4 rfl d1_3 (z := (2)) rfl ?_
  refine go_istoreN C X0 5 rfl d1_4 #[rv b, rv f, rv g, iv (2 : Int32), un] rfl ?_
  refine go_iloadN C X0 6 rfl d1_5 rfl ?_
  refine go_if_lt C X0 d1_6 (pc' := 9) (pc2 := 30) rfl (by decide) (by decide) (fun (c6 : 2 < 0) => False.elim (by first | omega | exact absurd c6 (by decide))) (fun (c6 : 0 ≤ 2) => ?_)
  refine go_aloadN C X0 10 rfl d1_9 rfl rfl ?_
  refine go_aloadN C X0 11 rfl d1_10 rfl rfl ?_
  refine go_iloadN C X0 12 rfl d1_11 rfl ?_
  refine go_iaload C X0 A1 (by decide) (v := (.int o4)) rfl (pc' := 13) rfl d1_12 ?_
  refine go_iaload C X0 A3 b4.1 (v := (.int (at32 ix o4))) (ia_at b4.1 (by rw [hl]; exact b4.2)) (pc' := 14) rfl d1_13 ?_
  rw [e4]
  refine go_aloadN C X0 15 rfl d1_14 rfl rfl ?_
  refine go_alen C X0 A2 (z := (5 : Int32)) rfl (pc' := 16) rfl d1_15 ?_
  refine go_aloadN C X0 17 rfl d1_16 rfl rfl ?_
  refine go_alen C X0 A1 (z := (3 : Int32)) rfl (pc' := 18) rfl d1_17 ?_
  refine go_isubL C X0 19 rfl d1_18 (z := (2)) rfl ?_
  refine go_iloadN C X0 20 rfl d1_19 rfl ?_
  refine go_iaddL C X0 21 rfl d1_20 (z := (4)) rfl ?_
  refine go_icmp_ne C X0 d1_21 (pc' := 24) (pc2 := 30) rfl (by decide) (by decide) (fun (c21 : ¬ (4 : Int32) = (4 : Int32)) => False.elim (by first | omega | exact absurd c21 (by decide))) (fun (c21 : (4 : Int32) = (4 : Int32)) => ?_)
  refine go_iinc C X0 27 rfl d1_24 rfl (z := (-1)) rfl #[rv b, rv f, rv g, iv (1 : Int32), un] rfl ?_
  refine go_goto C X0 d1_27 (pc' := 5) (by decide) (by decide) ?_
  refine go_iloadN C X0 6 rfl d1_5 rfl ?_
  refine go_if_lt C X0 d1_6 (pc' := 9) (pc2 := 30) rfl (by decide) (by decide) (fun (c6 : 1 < 0) => False.elim (by first | omega | exact absurd c6 (by decide))) (fun (c6 : 0 ≤ 1) => ?_)
  refine go_aloadN C X0 10 rfl d1_9 rfl rfl ?_
  refine go_aloadN C X0 11 rfl d1_10 rfl rfl ?_
  refine go_iloadN C X0 12 rfl d1_11 rfl ?_
  refine go_iaload C X0 A1 (by decide) (v := (.int o2)) rfl (pc' := 13) rfl d1_12 ?_
  refine go_iaload C X0 A3 b2.1 (v := (.int (at32 ix o2))) (ia_at b2.1 (by rw [hl]; exact b2.2)) (pc' := 14) rfl d1_13 ?_
  rw [e2]
  refine go_aloadN C X0 15 rfl d1_14 rfl rfl ?_
  refine go_alen C X0 A2 (z := (5 : Int32)) rfl (pc' := 16) rfl d1_15 ?_
  refine go_aloadN C X0 17 rfl d1_16 rfl rfl ?_
  refine go_alen C X0 A1 (z := (3 : Int32)) rfl (pc' := 18) rfl d1_17 ?_
  refine go_isubL C X0 19 rfl d1_18 (z := (2)) rfl ?_
  refine go_iloadN C X0 20 rfl d1_19 rfl ?_
  refine go_iaddL C X0 21 rfl d1_20 (z := (3)) rfl ?_
  refine go_icmp_ne C X0 d1_21 (pc' := 24) (pc2 := 30) rfl (by decide) (by decide) (fun (c21 : ¬ (2 : Int32) = (3 : Int32)) => ?_) (fun (c21 : (2 : Int32) = (3 : Int32)) => False.elim (by first | omega | exact absurd c21 (by decide)))
  refine go_iloadN C X0 31 rfl d1_30 rfl ?_
  refine go_if_ge C X0 d1_31 (pc' := 34) (pc2 := 36) rfl (by decide) (by decide) (fun (c31 : 0 ≤ 1) => ?_) (fun (c31 : 1 < 0) => False.elim (by first | omega | exact absurd c31 (by decide)))
  refine go_aloadN C X0 37 rfl d1_36 rfl rfl ?_
  refine go_aloadN C X0 38 rfl d1_37 rfl rfl ?_
  refine go_iloadN C X0 39 rfl d1_38 rfl ?_
  refine go_iaload C X0 A1 (by decide) (v := (.int o2)) rfl (pc' := 40) rfl d1_39 ?_
  refine go_iaload C X0 A3 b2.1 (v := (.int (at32 ix o2))) (ia_at b2.1 (by rw [hl]; exact b2.2)) (pc' := 41) rfl d1_40 ?_
  rw [e2]
  refine go_iconst C X0 42 rfl d1_41 (z := 1) rfl ?_
  refine go_iaddL C X0 43 rfl d1_42 (z := (3)) rfl ?_
  refine go_istore C X0 45 rfl d1_43 #[rv b, rv f, rv g, iv (1 : Int32), iv (3 : Int32)] rfl ?_
  refine go_iloadN C X0 46 rfl d1_45 rfl ?_
  refine go_aloadN C X0 47 rfl d1_46 rfl rfl ?_
  refine go_alen C X0 A1 (z := (3 : Int32)) rfl (pc' := 48) rfl d1_47 ?_
  refine go_icmp_ge C X0 d1_48 (pc' := 51) (pc2 := 67) rfl (by decide) (by decide) (fun (c48 : 3 ≤ 1) => False.elim (by first | omega | exact absurd c48 (by decide))) (fun (c48 : 1 < 3) => ?_)
  refine go_aloadN C X0 52 rfl d1_51 rfl rfl ?_
  refine go_iloadN C X0 53 rfl d1_52 rfl ?_
  refine go_aloadN C X0 54 rfl d1_53 rfl rfl ?_
  refine go_iload C X0 56 rfl d1_54 rfl ?_
  refine go_iaload C X0 A2 (by decide) (v := (.int o3)) rfl (pc' := 57) rfl d1_56 ?_
  refine go_iastore C X0 A1 (by decide) (by show _ < (3 : Int); decide) gb (pc' := 58) rfl d1_57 (fun T1 h3 W4 A5 X2 => ?_)
  have A6 := A2.other W4 (Ne.symm nbf)
  have A7 := A3.other W4 (Ne.symm nbg)
  have K8 := (Keep.refl h [b]).wr W4 (Or.inl (List.mem_of_getElem? (i := 0) rfl))
  replace A5 : La Z h3 b .int ([(.int o1), (.int o3), (.int o4)]) := A5
  refine go_iinc C X2 61 rfl d1_58 rfl (z := 1) rfl #[rv b, rv f, rv g, iv (2 : Int32), iv (3 : Int32)] rfl ?_
  refine go_iinc C X2 64 rfl d1_61 rfl (z := 1) rfl #[rv b, rv f, rv g, iv (2 : Int32), iv (4 : Int32)] rfl ?_
  refine go_goto C X2 d1_64 (pc' := 45) (by decide) (by decide) ?_
  refine go_iloadN C X2 46 rfl d1_45 rfl ?_
  refine go_aloadN C X2 47 rfl d1_46 rfl rfl ?_
  refine go_alen C X2 A5 (z := (3 : Int32)) rfl (pc' := 48) rfl d1_47 ?_
  refine go_icmp_ge C X2 d1_48 (pc' := 51) (pc2 := 67) rfl (by decide) (by decide) (fun (c48 : 3 ≤ 2) => False.elim (by first | omega | exact absurd c48 (by decide))) (fun (c48 : 2 < 3) => ?_)
  refine go_aloadN C X2 52 rfl d1_51 rfl rfl ?_
  refine go_iloadN C X2 53 rfl d1_52 rfl ?_
  refine go_aloadN C X2 54 rfl d1_53 rfl rfl ?_
  refine go_iload C X2 56 rfl d1_54 rfl ?_
  refine go_iaload C X2 A6 (by decide) (v := (.int o4)) rfl (pc' := 57) rfl d1_56 ?_
  refine go_iastore C X2 A5 (by decide) (by show _ < (3 : Int); decide) gb (pc' := 58) rfl d1_57 (fun T9 h11 W12 A13 X10 => ?_)
  have A14 := A6.other W12 (Ne.symm nbf)
  have A15 := A7.other W12 (Ne.symm nbg)
  have K16 := K8.wr W12 (Or.inl (List.mem_of_getElem? (i := 0) rfl))
  replace A13 : La Z h11 b .int ([(.int o1), (.int o3), (.int o4)]) := A13
  refine go_iinc C X10 61 rfl d1_58 rfl (z := 1) rfl #[rv b, rv f, rv g, iv (3 : Int32), iv (4 : Int32)] rfl ?_
  refine go_iinc C X10 64 rfl d1_61 rfl (z := 1) rfl #[rv b, rv f, rv g, iv (3 : Int32), iv (5 : Int32)] rfl ?_
  refine go_goto C X10 d1_64 (pc' := 45) (by decide) (by decide) ?_
  refine go_iloadN C X10 46 rfl d1_45 rfl ?_
  refine go_aloadN C X10 47 rfl d1_46 rfl rfl ?_
  refine go_alen C X10 A13 (z := (3 : Int32)) rfl (pc' := 48) rfl d1_47 ?_
  refine go_icmp_ge C X10 d1_48 (pc' := 51) (pc2 := 67) rfl (by decide) (by decide) (fun (c48 : 3 ≤ 3) => ?_) (fun (c48 : 3 < 3) => False.elim (by first | omega | exact absurd c48 (by decide)))
  refine go_iconst C X10 68 rfl d1_67 (z := 1) rfl ?_
  exact go_retN C X10 (by simp) (z' := 1) rfl d1_68 ⟨rfl, K16, A13⟩ (by decide) (by decide)
theorem ef_own_next_8 (m : MethodId) (b : Addr) (f : Addr) (g : Addr) : entryFrame m #[(.ref b), (.ref f), (.ref g)] 5 = mkF m 0 #[rv b, rv f, rv g, un, un] [] := by first | (simp [entryFrame, mkF, argsToLocals, Value.category]; done) | rfl
set_option maxRecDepth 65536 in
set_option maxHeartbeats 40000000 in
theorem own_next_8 (l : Launch) (Z : State) (a0 : Array Value) (hw : ∀ d ∈ tables_1, d.before a0 Z = true) (b : Addr) (f : Addr) (g : Addr) (ix : List Int32) (o0 o1 o2 o3 o4 : Int32) (h : Heap) (n0 : Nat) (hn0 : Old Z n0 h) (A1 : La Z h b .int [.int o1, .int o3, .int o4]) (A2 : La Z h f .int [.int o0, .int o1, .int o2, .int o3, .int o4]) (A3 : La Z h g .int (ia ix)) (gb : n0 ≤ b) (nbf : b ≠ f) (nbg : b ≠ g) (hl : ix.length = 80) (b0 : 0 ≤ o0.toInt ∧ o0.toInt < (80 : Nat)) (e0 : at32 ix o0 = 0) (b1 : 0 ≤ o1.toInt ∧ o1.toInt < (80 : Nat)) (e1 : at32 ix o1 = 1) (b2 : 0 ≤ o2.toInt ∧ o2.toInt < (80 : Nat)) (e2 : at32 ix o2 = 2) (b3 : 0 ≤ o3.toInt ∧ o3.toInt < (80 : Nat)) (e3 : at32 ix o3 = 3) (b4 : 0 ≤ o4.toInt ∧ o4.toInt < (80 : Nat)) (e4 : at32 ix o4 = 4) :
    Con l Z (⟨"com/example/covertide/covertide/engine/Subsets", "next", "([I[I[I)Z"⟩ : MethodName) prog_11_method_5_code 5 (some .boolean) ({ frames := 0, cells := 0, slots := 0, locals := 0 } : Room) #[(.ref b), (.ref f), (.ref g)] h n0 (fun v h' => v = some (.int 1) ∧ Keep h h' [b] ∧ La Z h' b .int [.int o2, .int o3, .int o4]) := by
  refine con_of hw (plainFor_of_name pn_com_example_covertide_covertide_engine_Subsets) hn0 ?_
  intro p e s m below meth c T0 C X0
  refine Go.cast (congrArg T0.setTop (ef_own_next_8 m b f g)) ?_
  refine go_aloadN C X0 1 rfl d1_0 rfl rfl ?_
  refine go_alen C X0 A1 (z := (3 : Int32)) rfl (pc' := 2) rfl d1_1 ?_
  refine go_iconst C X0 3 rfl d1_2 (z := 1) rfl ?_
  refine go_isubL C X0 4 rfl d1_3 (z := (2)) rfl ?_
  refine go_istoreN C X0 5 rfl d1_4 #[rv b, rv f, rv g, iv (2 : Int32), un] rfl ?_
  refine go_iloadN C X0 6 rfl d1_5 rfl ?_
  refine go_if_lt C X0 d1_6 (pc' := 9) (pc2 := 30) rfl (by decide) (by decide) (fun (c6 : 2 < 0) => False.elim (by first | omega | exact absurd c6 (by decide))) (fun (c6 : 0 ≤ 2) => ?_)
  refine go_aloadN C X0 10 rfl d1_9 rfl rfl ?_
  refine go_aloadN C X0 11 rfl d1_10 rfl rfl ?_
  refine go_iloadN C X0 12 rfl d1_11 rfl ?_
  refine go_iaload C X0 A1 (by decide) (v := (.int o4)) rfl (pc' := 13) rfl d1_12 ?_
  refine go_iaload C X0 A3 b4.1 (v := (.int (at32 ix o4))) (ia_at b4.1 (by rw [hl]; exact b4.2)) (pc' := 14) rfl d1_13 ?_
  rw [e4]
  refine go_aloadN C X0 15 rfl d1_14 rfl rfl ?_
  refine go_alen C X0 A2 (z := (5 : Int32)) rfl (pc' := 16) rfl d1_15 ?_
  refine go_aloadN C X0 17 rfl d1_16 rfl rfl ?_
  refine go_alen C X0 A1 (z := (3 : Int32)) rfl (pc' := 18) rfl d1_17 ?_
  refine go_isubL C X0 19 rfl d1_18 (z := (2)) rfl ?_
  refine go_iloadN C X0 20 rfl d1_19 rfl ?_
  refine go_iaddL C X0 21 rfl d1_20 (z := (4)) rfl ?_
  refine go_icmp_ne C X0 d1_21 (pc' := 24) (pc2 := 30) rfl (by decide) (by decide) (fun (c21 : ¬ (4 : Int32) = (4 : Int32)) => False.elim (by first | omega | exact absurd c21 (by decide))) (fun (c21 : (4 : Int32) = (4 : Int32)) => ?_)
  refine go_iinc C X0 27 rfl d1_24 rfl (z := (-1)) rfl #[rv b, rv f, rv g, iv (1 : Int32), un] rfl ?_
  refine go_goto C X0 d1_27 (pc' := 5) (by decide) (by decide) ?_
  refine go_iloadN C X0 6 rfl d1_5 rfl ?_
  refine go_if_lt C X0 d1_6 (pc' := 9) (pc2 := 30) rfl (by decide) (by decide) (fun (c6 : 1 < 0) => False.elim (by first | omega | exact absurd c6 (by decide))) (fun (c6 : 0 ≤ 1) => ?_)
  refine go_aloadN C X0 10 rfl d1_9 rfl rfl ?_
  refine go_aloadN C X0 11 rfl d1_10 rfl rfl ?_
  refine go_iloadN C X0 12 rfl d1_11 rfl ?_
  refine go_iaload C X0 A1 (by decide) (v := (.int o3)) rfl (pc' := 13) rfl d1_12 ?_
  refine go_iaload C X0 A3 b3.1 (v := (.int (at32 ix o3))) (ia_at b3.1 (by rw [hl]; exact b3.2)) (pc' := 14) rfl d1_13 ?_
  rw [e3]
  refine go_aloadN C X0 15 rfl d1_14 rfl rfl ?_
  refine go_alen C X0 A2 (z := (5 : Int32)) rfl (pc' := 16) rfl d1_15 ?_
  refine go_aloadN C X0 17 rfl d1_16 rfl rfl ?_
  refine go_alen C X0 A1 (z := (3 : Int32)) rfl (pc' := 18) rfl d1_17 ?_
  refine go_isubL C X0 19 rfl d1_18 (z := (2)) rfl ?_
  refine go_iloadN C X0 20 rfl d1_19 rfl ?_
  refine go_iaddL C X0 21 rfl d1_20 (z := (3)) rfl ?_
  refine go_icmp_ne C X0 d1_21 (pc' := 24) (pc2 := 30) rfl (by decide) (by decide) (fun (c21 : ¬ (3 : Int32) = (3 : Int32)) => False.elim (by first | omega | exact absurd c21 (by decide))) (fun (c21 : (3 : Int32) = (3 : Int32)) => ?_)
  refine go_iinc C X0 27 rfl d1_24 rfl (z := (-1)) rfl #[rv b, rv f, rv g, iv (0 : Int32), un] rfl ?_
  refine go_goto C X0 d1_27 (pc' := 5) (by decide) (by decide) ?_
  refine go_iloadN C X0 6 rfl d1_5 rfl ?_
  refine go_if_lt C X0 d1_6 (pc' := 9) (pc2 := 30) rfl (by decide) (by decide) (fun (c6 : 0 < 0) => False.elim (by first | omega | exact absurd c6 (by decide))) (fun (c6 : 0 ≤ 0) => ?_)
  refine go_aloadN C X0 10 rfl d1_9 rfl rfl ?_
  refine go_aloadN C X0 11 rfl d1_10 rfl rfl ?_
  refine go_iloadN C X0 12 rfl d1_11 rfl ?_
  refine go_iaload C X0 A1 (by decide) (v := (.int o1)) rfl (pc' := 13) rfl d1_12 ?_
  refine go_iaload C X0 A3 b1.1 (v := (.int (at32 ix o1))) (ia_at b1.1 (by rw [hl]; exact b1.2)) (pc' := 14) rfl d1_13 ?_
  rw [e1]
  refine go_aloadN C X0 15 rfl d1_14 rfl rfl ?_
  refine go_alen C X0 A2 (z := (5 : Int32)) rfl (pc' := 16) rfl d1_15 ?_
  refine go_aloadN C X0 17 rfl d1_16 rfl rfl ?_
  refine go_alen C X0 A1 (z := (3 : Int32)) rfl (pc' := 18) rfl d1_17 ?_
  refine go_isubL C X0 19 rfl d1_18 (z := (2)) rfl ?_
  refine go_iloadN C X0 20 rfl d1_19 rfl ?_
  refine go_iaddL C X0 21 rfl d1_20 (z := (2)) rfl ?_
  refine go_icmp_ne C X0 d1_21 (pc' := 24) (pc2 := 30) rfl (by decide) (by decide) (fun (c21 : ¬ (1 : Int32) = (2 : Int32)) => ?_) (fun (c21 : (1 : Int32) = (2 : Int32)) => False.elim (by first | omega | exact absurd c21 (by decide)))
  refine go_iloadN C X0 31 rfl d1_30 rfl ?_
  refine go_if_ge C X0 d1_31 (pc' := 34) (pc2 := 36) rfl (by decide) (by decide) (fun (c31 : 0 ≤ 0) => ?_) (fun (c31 : 0 < 0) => False.elim (by first | omega | exact absurd c31 (by decide)))
  refine go_aloadN C X0 37 rfl d1_36 rfl rfl ?_
  refine go_aloadN C X0 38 rfl d1_37 rfl rfl ?_
  refine go_iloadN C X0 39 rfl d1_38 rfl ?_
  refine go_iaload C X0 A1 (by decide) (v := (.int o1)) rfl (pc' := 40) rfl d1_39 ?_
  refine go_iaload C X0 A3 b1.1 (v := (.int (at32 ix o1))) (ia_at b1.1 (by rw [hl]; exact b1.2)) (pc' := 41) rfl d1_40 ?_
  rw [e1]
  refine go_iconst C X0 42 rfl d1_41 (z := 1) rfl ?_
  refine go_iaddL C X0 43 rfl d1_42 (z := (2)) rfl ?_
  refine go_istore C X0 45 rfl d1_43 #[rv b, rv f, rv g, iv (0 : Int32), iv (2 : Int32)] rfl ?_
  refine go_iloadN C X0 46 rfl d1_45 rfl ?_
  refine go_aloadN C X0 47 rfl d1_46 rfl rfl ?_
  refine go_alen C X0 A1 (z := (3 : Int32)) rfl (pc' := 48) rfl d1_47 ?_
  refine go_icmp_ge C X0 d1_48 (pc' := 51) (pc2 := 67) rfl (by decide) (by decide) (fun (c48 : 3 ≤ 0) => False.elim (by first | omega | exact absurd c48 (by decide))) (fun (c48 : 0 < 3) => ?_)
  refine go_aloadN C X0 52 rfl d1_51 rfl rfl ?_
  refine go_iloadN C X0 53 rfl d1_52 rfl ?_
  refine go_aloadN C X0 54 rfl d1_53 rfl rfl ?_
  refine go_iload C X0 56 rfl d1_54 rfl ?_
  refine go_iaload C X0 A2 (by decide) (v := (.int o2)) rfl (pc' := 57) rfl d1_56 ?_
  refine go_iastore C X0 A1 (by decide) (by show _ < (3 : Int); decide) gb (pc' := 58) rfl d1_57 (fun T1 h3 W4 A5 X2 => ?_)
  have A6 := A2.other W4 (Ne.symm nbf)
  have A7 := A3.other W4 (Ne.symm nbg)
  have K8 := (Keep.refl h [b]).wr W4 (Or.inl (List.mem_of_getElem? (i := 0) rfl))
  replace A5 : La Z h3 b .int ([(.int o2), (.int o3), (.int o4)]) := A5
  refine go_iinc C X2 61 rfl d1_58 rfl (z := 1) rfl #[rv b, rv f, rv g, iv (1 : Int32), iv (2 : Int32)] rfl ?_
  refine go_iinc C X2 64 rfl d1_61 rfl (z := 1) rfl #[rv b, rv f, rv g, iv (1 : Int32), iv (3 : Int32)] rfl ?_
  refine go_goto C X2 d1_64 (pc' := 45) (by decide) (by decide) ?_
  refine go_iloadN C X2 46 rfl d1_45 rfl ?_
  refine go_aloadN C X2 47 rfl d1_46 rfl rfl ?_
  refine go_alen C X2 A5 (z := (3 : Int32)) rfl (pc' := 48) rfl d1_47 ?_
  refine go_icmp_ge C X2 d1_48 (pc' := 51) (pc2 := 67) rfl (by decide) (by decide) (fun (c48 : 3 ≤ 1) => False.elim (by first | omega | exact absurd c48 (by decide))) (fun (c48 : 1 < 3) => ?_)
  refine go_aloadN C X2 52 rfl d1_51 rfl rfl ?_
  refine go_iloadN C X2 53 rfl d1_52 rfl ?_
  refine go_aloadN C X2 54 rfl d1_53 rfl rfl ?_
  refine go_iload C X2 56 rfl d1_54 rfl ?_
  refine go_iaload C X2 A6 (by decide) (v := (.int o3)) rfl (pc' := 57) rfl d1_56 ?_
  refine go_iastore C X2 A5 (by decide) (by show _ < (3 : Int); decide) gb (pc' := 58) rfl d1_57 (fun T9 h11 W12 A13 X10 => ?_)
  have A14 := A6.other W12 (Ne.symm nbf)
  have A15 := A7.other W12 (Ne.symm nbg)
  have K16 := K8.wr W12 (Or.inl (List.mem_of_getElem? (i := 0) rfl))
  replace A13 : La Z h11 b .int ([(.int o2), (.int o3), (.int o4)]) := A13
  refine go_iinc C X10 61 rfl d1_58 rfl (z := 1) rfl #[rv b, rv f, rv g, iv (2 : Int32), iv (3 : Int32)] rfl ?_
  refine go_iinc C X10 64 rfl d1_61 rfl (z := 1) rfl #[rv b, rv f, rv g, iv (2 : Int32), iv (4 : Int32)] rfl ?_
  refine go_goto C X10 d1_64 (pc' := 45) (by decide) (by decide) ?_
  refine go_iloadN C X10 46 rfl d1_45 rfl ?_
  refine go_aloadN C X10 47 rfl d1_46 rfl rfl ?_
  refine go_alen C X10 A13 (z := (3 : Int32)) rfl (pc' := 48) rfl d1_47 ?_
  refine go_icmp_ge C X10 d1_48 (pc' := 51) (pc2 := 67) rfl (by decide) (by decide) (fun (c48 : 3 ≤ 2) => False.elim (by first | omega | exact absurd c48 (by decide))) (fun (c48 : 2 < 3) => ?_)
  refine go_aloadN C X10 52 rfl d1_51 rfl rfl ?_
  refine go_iloadN C X10 53 rfl d1_52 rfl ?_
  refine go_aloadN C X10 54 rfl d1_53 rfl rfl ?_
  refine go_iload C X10 56 rfl d1_54 rfl ?_
  refine go_iaload C X10 A14 (by decide) (v := (.int o4)) rfl (pc' := 57) rfl d1_56 ?_
  refine go_iastore C X10 A13 (by decide) (by show _ < (3 : Int); decide) gb (pc' := 58) rfl d1_57 (fun T17 h19 W20 A21 X18 => ?_)
  have A22 := A14.other W20 (Ne.symm nbf)
  have A23 := A15.other W20 (Ne.symm nbg)
  have K24 := K16.wr W20 (Or.inl (List.mem_of_getElem? (i := 0) rfl))
  replace A21 : La Z h19 b .int ([(.int o2), (.int o3), (.int o4)]) := A21
  refine go_iinc C X18 61 rfl d1_58 rfl (z := 1) rfl #[rv b, rv f, rv g, iv (3 : Int32), iv (4 : Int32)] rfl ?_
  refine go_iinc C X18 64 rfl d1_61 rfl (z := 1) rfl #[rv b, rv f, rv g, iv (3 : Int32), iv (5 : Int32)] rfl ?_
  refine go_goto C X18 d1_64 (pc' := 45) (by decide) (by decide) ?_
  refine go_iloadN C X18 46 rfl d1_45 rfl ?_
  refine go_aloadN C X18 47 rfl d1_46 rfl rfl ?_
  refine go_alen C X18 A21 (z := (3 : Int32)) rfl (pc' := 48) rfl d1_47 ?_
  refine go_icmp_ge C X18 d1_48 (pc' := 51) (pc2 := 67) rfl (by decide) (by decide) (fun (c48 : 3 ≤ 3) => ?_) (fun (c48 : 3 < 3) => False.elim (by first | omega | exact absurd c48 (by decide)))
  refine go_iconst C X18 68 rfl d1_67 (z := 1) rfl ?_
  exact go_retN C X18 (by simp) (z' := 1) rfl d1_68 ⟨rfl, K24, A21⟩ (by decide) (by decide)
theorem d1_34 : decode prog_11_method_5_code 34 = .ok (.iconst 0, 1) := by decide +kernel
theorem d1_35 : decode prog_11_method_5_code 35 = .ok (.ireturn, 1) := by decide +kernel
theorem ef_own_next_9 (m : MethodId) (b : Addr) (f : Addr) (g : Addr) : entryFrame m #[(.ref b), (.ref f), (.ref g)] 5 = mkF m 0 #[rv b, rv f, rv g, un, un] [] := by first | (simp [entryFrame, mkF, argsToLocals, Value.category]; done) | rfl
set_option maxRecDepth 65536 in
set_option maxHeartbeats 40000000 in
theorem own_next_9 (l : Launch) (Z : State) (a0 : Array Value) (hw : ∀ d ∈ tables_1, d.before a0 Z = true) (b : Addr) (f : Addr) (g : Addr) (ix : List Int32) (o0 o1 o2 o3 o4 : Int32) (h : Heap) (n0 : Nat) (hn0 : Old Z n0 h) (A1 : La Z h b .int [.int o2, .int o3, .int o4]) (A2 : La Z h f .int [.int o0, .int o1, .int o2, .int o3, .int o4]) (A3 : La Z h g .int (ia ix)) (gb : n0 ≤ b) (nbf : b ≠ f) (nbg : b ≠ g) (hl : ix.length = 80) (b0 : 0 ≤ o0.toInt ∧ o0.toInt < (80 : Nat)) (e0 : at32 ix o0 = 0) (b1 : 0 ≤ o1.toInt ∧ o1.toInt < (80 : Nat)) (e1 : at32 ix o1 = 1) (b2 : 0 ≤ o2.toInt ∧ o2.toInt < (80 : Nat)) (e2 : at32 ix o2 = 2) (b3 : 0 ≤ o3.toInt ∧ o3.toInt < (80 : Nat)) (e3 : at32 ix o3 = 3) (b4 : 0 ≤ o4.toInt ∧ o4.toInt < (80 : Nat)) (e4 : at32 ix o4 = 4) :
    Con l Z (⟨"com/example/covertide/covertide/engine/Subsets", "next", "([I[I[I)Z"⟩ : MethodName) prog_11_method_5_code 5 (some .boolean) ({ frames := 0, cells := 0, slots := 0, locals := 0 } : Room) #[(.ref b), (.ref f), (.ref g)] h n0 (fun v h' => v = some (.int 0) ∧ Keep h h' [b] ∧ La Z h' b .int [.int o2, .int o3, .int o4]) := by
  refine con_of hw (plainFor_of_name pn_com_example_covertide_covertide_engine_Subsets) hn0 ?_
  intro p e s m below meth c T0 C X0
  refine Go.cast (congrArg T0.setTop (ef_own_next_9 m b f g)) ?_
  refine go_aloadN C X0 1 rfl d1_0 rfl rfl ?_
  refine go_alen C X0 A1 (z := (3 : Int32)) rfl (pc' := 2) rfl d1_1 ?_
  refine go_iconst C X0 3 rfl d1_2 (z := 1) rfl ?_
  refine go_isubL C X0 4 rfl d1_3 (z := (2)) rfl ?_
  refine go_istoreN C X0 5 rfl d1_4 #[rv b, rv f, rv g, iv (2 : Int32), un] rfl ?_
  refine go_iloadN C X0 6 rfl d1_5 rfl ?_
  refine go_if_lt C X0 d1_6 (pc' := 9) (pc2 := 30) rfl (by decide) (by decide) (fun (c6 : 2 < 0) => False.elim (by first | omega | exact absurd c6 (by decide))) (fun (c6 : 0 ≤ 2) => ?_)
  refine go_aloadN C X0 10 rfl d1_9 rfl rfl ?_
  refine go_aloadN C X0 11 rfl d1_10 rfl rfl ?_
  refine go_iloadN C X0 12 rfl d1_11 rfl ?_
  refine go_iaload C X0 A1 (by decide) (v := (.int o4)) rfl (pc' := 13) rfl d1_12 ?_
  refine go_iaload C X0 A3 b4.1 (v := (.int (at32 ix o4))) (ia_at b4.1 (by rw [hl]; exact b4.2)) (pc' := 14) rfl d1_13 ?_
  rw [e4]
  refine go_aloadN C X0 15 rfl d1_14 rfl rfl ?_
  refine go_alen C X0 A2 (z := (5 : Int32)) rfl (pc' := 16) rfl d1_15 ?_
  refine go_aloadN C X0 17 rfl d1_16 rfl rfl ?_
  refine go_alen C X0 A1 (z := (3 : Int32)) rfl (pc' := 18) rfl d1_17 ?_
  refine go_isubL C X0 19 rfl d1_18 (z := (2)) rfl ?_
  refine go_iloadN C X0 20 rfl d1_19 rfl ?_
  refine go_iaddL C X0 21 rfl d1_20 (z := (4)) rfl ?_
  refine go_icmp_ne C X0 d1_21 (pc' := 24) (pc2 := 30) rfl (by decide) (by decide) (fun (c21 : ¬ (4 : Int32) = (4 : Int32)) => False.elim (by first | omega | exact absurd c21 (by decide))) (fun (c21 : (4 : Int32) = (4 : Int32)) => ?_)
  refine go_iinc C X0 27 rfl d1_24 rfl (z := (-1)) rfl #[rv b, rv f, rv g, iv (1 : Int32), un] rfl ?_
  refine go_goto C X0 d1_27 (pc' := 5) (by decide) (by decide) ?_
  refine go_iloadN C X0 6 rfl d1_5 rfl ?_
  refine go_if_lt C X0 d1_6 (pc' := 9) (pc2 := 30) rfl (by decide) (by decide) (fun (c6 : 1 < 0) => False.elim (by first | omega | exact absurd c6 (by decide))) (fun (c6 : 0 ≤ 1) => ?_)
  refine go_aloadN C X0 10 rfl d1_9 rfl rfl ?_
  refine go_aloadN C X0 11 rfl d1_10 rfl rfl ?_
  refine go_iloadN C X0 12 rfl d1_11 rfl ?_
  refine go_iaload C X0 A1 (by decide) (v := (.int o3)) rfl (pc' := 13) rfl d1_12 ?_
  refine go_iaload C X0 A3 b3.1 (v := (.int (at32 ix o3))) (ia_at b3.1 (by rw [hl]; exact b3.2)) (pc' := 14) rfl d1_13 ?_
  rw [e3]
  refine go_aloadN C X0 15 rfl d1_14 rfl rfl ?_
  refine go_alen C X0 A2 (z := (5 : Int32)) rfl (pc' := 16) rfl d1_15 ?_
  refine go_aloadN C X0 17 rfl d1_16 rfl rfl ?_
  refine go_alen C X0 A1 (z := (3 : Int32)) rfl (pc' := 18) rfl d1_17 ?_
  refine go_isubL C X0 19 rfl d1_18 (z := (2)) rfl ?_
  refine go_iloadN C X0 20 rfl d1_19 rfl ?_
  refine go_iaddL C X0 21 rfl d1_20 (z := (3)) rfl ?_
  refine go_icmp_ne C X0 d1_21 (pc' := 24) (pc2 := 30) rfl (by decide) (by decide) (fun (c21 : ¬ (3 : Int32) = (3 : Int32)) => False.elim (by first | omega | exact absurd c21 (by decide))) (fun (c21 : (3 : Int32) = (3 : Int32)) => ?_)
  refine go_iinc C X0 27 rfl d1_24 rfl (z := (-1)) rfl #[rv b, rv f, rv g, iv (0 : Int32), un] rfl ?_
  refine go_goto C X0 d1_27 (pc' := 5) (by decide) (by decide) ?_
  refine go_iloadN C X0 6 rfl d1_5 rfl ?_
  refine go_if_lt C X0 d1_6 (pc' := 9) (pc2 := 30) rfl (by decide) (by decide) (fun (c6 : 0 < 0) => False.elim (by first | omega | exact absurd c6 (by decide))) (fun (c6 : 0 ≤ 0) => ?_)
  refine go_aloadN C X0 10 rfl d1_9 rfl rfl ?_
  refine go_aloadN C X0 11 rfl d1_10 rfl rfl ?_
  refine go_iloadN C X0 12 rfl d1_11 rfl ?_
  refine go_iaload C X0 A1 (by decide) (v := (.int o2)) rfl (pc' := 13) rfl d1_12 ?_
  refine go_iaload C X0 A3 b2.1 (v := (.int (at32 ix o2))) (ia_at b2.1 (by rw [hl]; exact b2.2)) (pc' := 14) rfl d1_13 ?_
  rw [e2]
  refine go_aloadN C X0 15 rfl d1_14 rfl rfl ?_
  refine go_alen C X0 A2 (z := (5 : Int32)) rfl (pc' := 16) rfl d1_15 ?_
  refine go_aloadN C X0 17 rfl d1_16 rfl rfl ?_
  refine go_alen C X0 A1 (z := (3 : Int32)) rfl (pc' := 18) rfl d1_17 ?_
  refine go_isubL C X0 19 rfl d1_18 (z := (2)) rfl ?_
  refine go_iloadN C X0 20 rfl d1_19 rfl ?_
  refine go_iaddL C X0 21 rfl d1_20 (z := (2)) rfl ?_
  refine go_icmp_ne C X0 d1_21 (pc' := 24) (pc2 := 30) rfl (by decide) (by decide) (fun (c21 : ¬ (2 : Int32) = (2 : Int32)) => False.elim (by first | omega | exact absurd c21 (by decide))) (fun (c21 : (2 : Int32) = (2 : Int32)) => ?_)
  refine go_iinc C X0 27 rfl d1_24 rfl (z := (-1)) rfl #[rv b, rv f, rv g, iv (-1 : Int32), un] rfl ?_
  refine go_goto C X0 d1_27 (pc' := 5) (by decide) (by decide) ?_
  refine go_iloadN C X0 6 rfl d1_5 rfl ?_
  refine go_if_lt C X0 d1_6 (pc' := 9) (pc2 := 30) rfl (by decide) (by decide) (fun (c6 : (-1) < 0) => ?_) (fun (c6 : 0 ≤ (-1)) => False.elim (by first | omega | exact absurd c6 (by decide)))
  refine go_iloadN C X0 31 rfl d1_30 rfl ?_
  refine go_if_ge C X0 d1_31 (pc' := 34) (pc2 := 36) rfl (by decide) (by decide) (fun (c31 : 0 ≤ (-1)) => False.elim (by first | omega | exact absurd c31 (by decide))) (fun (c31 : (-1) < 0) => ?_)
  refine go_iconst C X0 35 rfl d1_34 (z := 0) rfl ?_
  exact go_retN C X0 (by simp) (z' := 0) rfl d1_35 ⟨rfl, (Keep.refl h [b]), A1⟩ (by decide) (by decide)
theorem own_put_hit {xs : List Int32} {i y : Int32} (h0 : 0 ≤ i.toInt) (h1 : i.toInt < xs.length) : at32 (put32 xs i y) i = y := by
  have := clamp_lt h0 h1; simp [at32, put32, this]
theorem own_put_miss {xs : List Int32} {i j y : Int32} (h0 : 0 ≤ i.toInt) (h1 : 0 ≤ j.toInt) (h2 : ¬ i.toInt = j.toInt) : at32 (put32 xs i y) j = at32 xs j := by
  have e1 := clamp_eq h0; have e2 := clamp_eq h1
  have : i.toNatClampNeg ≠ j.toNatClampNeg := fun q => h2 (by omega)
  simp [at32, put32, List.getElem?_set, this]
theorem own_m15 (x : Int32) : 0 ≤ (x &&& 15).toInt ∧ (x &&& 15).toInt < 16 := by have := c_mask x 15 4 (by decide) (by decide); omega
theorem pd_0 : parseMethodDescriptor "([I[I[I)Z" = some ⟨[(.array .int), (.array .int), (.array .int)], some .boolean⟩ := by decide +kernel
theorem pn_com_example_covertide_covertide_engine_SubsetsNextPinLaw : plainName "com/example/covertide/covertide/engine/SubsetsNextPinLaw" = true := by first | (simp [plainName, overriddenIn]; done) | decide +kernel
theorem ef_own_law (m : MethodId) (c1 : Int32) (bs : Int32) (gp : Int32) : entryFrame m #[(.int c1), (.int bs), (.int gp)] maxLocals = mkF m 0 #[iv c1, iv bs, iv gp, un, un, un, un, un, un, un, un, un, un, un, un, un, un, un] [] := by first | (simp [entryFrame, mkF, argsToLocals, Value.category, maxLocals]; done) | rfl
set_option maxRecDepth 65536 in
set_option maxHeartbeats 40000000 in
theorem own_law (l : Launch) (Z : State) (a0 : Array Value) (hw : ∀ d ∈ tables_1, d.before a0 Z = true) (c1 : Int32) (bs : Int32) (gp : Int32)  (h : Heap) (n0 : Nat) (hn0 : Old Z n0 h)  :
    Con l Z x code maxLocals ret room_1 #[(.int c1), (.int bs), (.int gp)] h n0 (fun v h' => v = some (.int 1)) := by
  refine con_of hw (plainFor_of_name pn_com_example_covertide_covertide_engine_SubsetsNextPinLaw) hn0 ?_
  intro p e s m below meth c T0 C X0
  refine Go.cast (congrArg T0.setTop (ef_own_law m c1 bs gp)) ?_
  refine go_iloadN C X0 1 rfl at_0 rfl ?_
  refine go_ldcInt C X0 (C.w 0 rfl) (pc' := 3) rfl at_1 ?_
  refine go_iand C X0 4 rfl at_3 ?_
  refine go_bipush C X0 6 rfl at_4 (z := 10) rfl ?_
  refine go_irem C X0 7 rfl at_6 (by decide) ?_
  refine go_istoreN C X0 8 rfl at_7 #[iv c1, iv bs, iv gp, iv ((c1 &&& (2147483647 : Int32)) % (10 : Int32)), un, un, un, un, un, un, un, un, un, un, un, un, un, un] rfl ?_
  refine go_bipush C X0 10 rfl at_8 (z := 10) rfl ?_
  refine go_newarr C X0 (C.w 1 rfl) (cap := 10) (by decide) (by decide) (by decide) (by decide) (by decide) (pc' := 12) rfl at_10 (fun T2 h4 arr1 ha_arr1 ga_arr1 E5 A6  X3 => ?_)
  replace A6 : La Z h4 arr1 .int ([(.int (0 : Int32)), (.int (0 : Int32)), (.int (0 : Int32)), (.int (0 : Int32)), (.int (0 : Int32)), (.int (0 : Int32)), (.int (0 : Int32)), (.int (0 : Int32)), (.int (0 : Int32)), (.int (0 : Int32))]) := A6
  refine go_dup C X3 13 rfl at_12 rfl ?_
  refine go_iconst C X3 14 rfl at_13 (z := 0) rfl ?_
  refine go_iconst C X3 15 rfl at_14 (z := 0) rfl ?_
  refine go_iastore C X3 A6 (by decide) (by show _ < (10 : Int); decide) ga_arr1 (pc' := 16) rfl at_15 (fun T7 h9 W10 A11 X8 => ?_)
  replace A11 : La Z h9 arr1 .int ([(.int (0 : Int32)), (.int (0 : Int32)), (.int (0 : Int32)), (.int (0 : Int32)), (.int (0 : Int32)), (.int (0 : Int32)), (.int (0 : Int32)), (.int (0 : Int32)), (.int (0 : Int32)), (.int (0 : Int32))]) := A11
  refine go_dup C X8 17 rfl at_16 rfl ?_
  refine go_iconst C X8 18 rfl at_17 (z := 1) rfl ?_
  refine go_iconst C X8 19 rfl at_18 (z := 0) rfl ?_
  refine go_iastore C X8 A11 (by decide) (by show _ < (10 : Int); decide) ga_arr1 (pc' := 20) rfl at_19 (fun T12 h14 W15 A16 X13 => ?_)
  replace A16 : La Z h14 arr1 .int ([(.int (0 : Int32)), (.int (0 : Int32)), (.int (0 : Int32)), (.int (0 : Int32)), (.int (0 : Int32)), (.int (0 : Int32)), (.int (0 : Int32)), (.int (0 : Int32)), (.int (0 : Int32)), (.int (0 : Int32))]) := A16
  refine go_dup C X13 21 rfl at_20 rfl ?_
  refine go_iconst C X13 22 rfl at_21 (z := 2) rfl ?_
  refine go_iconst C X13 23 rfl at_22 (z := 0) rfl ?_
  refine go_iastore C X13 A16 (by decide) (by show _ < (10 : Int); decide) ga_arr1 (pc' := 24) rfl at_23 (fun T17 h19 W20 A21 X18 => ?_)
  replace A21 : La Z h19 arr1 .int ([(.int (0 : Int32)), (.int (0 : Int32)), (.int (0 : Int32)), (.int (0 : Int32)), (.int (0 : Int32)), (.int (0 : Int32)), (.int (0 : Int32)), (.int (0 : Int32)), (.int (0 : Int32)), (.int (0 : Int32))]) := A21
  refine go_dup C X18 25 rfl at_24 rfl ?_
  refine go_iconst C X18 26 rfl at_25 (z := 3) rfl ?_
  refine go_iconst C X18 27 rfl at_26 (z := 0) rfl ?_
  refine go_iastore C X18 A21 (by decide) (by show _ < (10 : Int); decide) ga_arr1 (pc' := 28) rfl at_27 (fun T22 h24 W25 A26 X23 => ?_)
  replace A26 : La Z h24 arr1 .int ([(.int (0 : Int32)), (.int (0 : Int32)), (.int (0 : Int32)), (.int (0 : Int32)), (.int (0 : Int32)), (.int (0 : Int32)), (.int (0 : Int32)), (.int (0 : Int32)), (.int (0 : Int32)), (.int (0 : Int32))]) := A26
  refine go_dup C X23 29 rfl at_28 rfl ?_
  refine go_iconst C X23 30 rfl at_29 (z := 4) rfl ?_
  refine go_iconst C X23 31 rfl at_30 (z := 0) rfl ?_
  refine go_iastore C X23 A26 (by decide) (by show _ < (10 : Int); decide) ga_arr1 (pc' := 32) rfl at_31 (fun T27 h29 W30 A31 X28 => ?_)
  replace A31 : La Z h29 arr1 .int ([(.int (0 : Int32)), (.int (0 : Int32)), (.int (0 : Int32)), (.int (0 : Int32)), (.int (0 : Int32)), (.int (0 : Int32)), (.int (0 : Int32)), (.int (0 : Int32)), (.int (0 : Int32)), (.int (0 : Int32))]) := A31
  refine go_dup C X28 33 rfl at_32 rfl ?_
  refine go_iconst C X28 34 rfl at_33 (z := 5) rfl ?_
  refine go_iconst C X28 35 rfl at_34 (z := 0) rfl ?_
  refine go_iastore C X28 A31 (by decide) (by show _ < (10 : Int); decide) ga_arr1 (pc' := 36) rfl at_35 (fun T32 h34 W35 A36 X33 => ?_)
  replace A36 : La Z h34 arr1 .int ([(.int (0 : Int32)), (.int (0 : Int32)), (.int (0 : Int32)), (.int (0 : Int32)), (.int (0 : Int32)), (.int (0 : Int32)), (.int (0 : Int32)), (.int (0 : Int32)), (.int (0 : Int32)), (.int (0 : Int32))]) := A36
  refine go_dup C X33 37 rfl at_36 rfl ?_
  refine go_bipush C X33 39 rfl at_37 (z := 6) rfl ?_
  refine go_iconst C X33 40 rfl at_39 (z := 1) rfl ?_
  refine go_iastore C X33 A36 (by decide) (by show _ < (10 : Int); decide) ga_arr1 (pc' := 41) rfl at_40 (fun T37 h39 W40 A41 X38 => ?_)
  replace A41 : La Z h39 arr1 .int ([(.int (0 : Int32)), (.int (0 : Int32)), (.int (0 : Int32)), (.int (0 : Int32)), (.int (0 : Int32)), (.int (0 : Int32)), (.int (1 : Int32)), (.int (0 : Int32)), (.int (0 : Int32)), (.int (0 : Int32))]) := A41
  refine go_dup C X38 42 rfl at_41 rfl ?_
  refine go_bipush C X38 44 rfl at_42 (z := 7) rfl ?_
  refine go_iconst C X38 45 rfl at_44 (z := 1) rfl ?_
  refine go_iastore C X38 A41 (by decide) (by show _ < (10 : Int); decide) ga_arr1 (pc' := 46) rfl at_45 (fun T42 h44 W45 A46 X43 => ?_)
  replace A46 : La Z h44 arr1 .int ([(.int (0 : Int32)), (.int (0 : Int32)), (.int (0 : Int32)), (.int (0 : Int32)), (.int (0 : Int32)), (.int (0 : Int32)), (.int (1 : Int32)), (.int (1 : Int32)), (.int (0 : Int32)), (.int (0 : Int32))]) := A46
  refine go_dup C X43 47 rfl at_46 rfl ?_
  refine go_bipush C X43 49 rfl at_47 (z := 8) rfl ?_
  refine go_iconst C X43 50 rfl at_49 (z := 1) rfl ?_
  refine go_iastore C X43 A46 (by decide) (by show _ < (10 : Int); decide) ga_arr1 (pc' := 51) rfl at_50 (fun T47 h49 W50 A51 X48 => ?_)
  replace A51 : La Z h49 arr1 .int ([(.int (0 : Int32)), (.int (0 : Int32)), (.int (0 : Int32)), (.int (0 : Int32)), (.int (0 : Int32)), (.int (0 : Int32)), (.int (1 : Int32)), (.int (1 : Int32)), (.int (1 : Int32)), (.int (0 : Int32))]) := A51
  refine go_dup C X48 52 rfl at_51 rfl ?_
  refine go_bipush C X48 54 rfl at_52 (z := 9) rfl ?_
  refine go_iconst C X48 55 rfl at_54 (z := 2) rfl ?_
  refine go_iastore C X48 A51 (by decide) (by show _ < (10 : Int); decide) ga_arr1 (pc' := 56) rfl at_55 (fun T52 h54 W55 A56 X53 => ?_)
  replace A56 : La Z h54 arr1 .int ([(.int (0 : Int32)), (.int (0 : Int32)), (.int (0 : Int32)), (.int (0 : Int32)), (.int (0 : Int32)), (.int (0 : Int32)), (.int (1 : Int32)), (.int (1 : Int32)), (.int (1 : Int32)), (.int (2 : Int32))]) := A56
  refine go_astore C X53 58 rfl at_56 rfl #[iv c1, iv bs, iv gp, iv ((c1 &&& (2147483647 : Int32)) % (10 : Int32)), rv arr1, un, un, un, un, un, un, un, un, un, un, un, un, un] rfl ?_
  refine go_bipush C X53 60 rfl at_58 (z := 10) rfl ?_
  refine go_newarr C X53 (C.w 1 rfl) (cap := 10) (by decide) (by decide) (by decide) (by decide) (by decide) (pc' := 62) rfl at_60 (fun T58 h60 arr57 ha_arr57 ga_arr57 E61 A62  X59 => ?_)
  have ne_arr1_arr57 : arr1 ≠ arr57 := Nat.ne_of_lt (Nat.lt_of_lt_of_le A56.lt (Nat.le_of_eq ha_arr57.symm))
  have A63 := A56.ext E61
  replace A62 : La Z h60 arr57 .int ([(.int (0 : Int32)), (.int (0 : Int32)), (.int (0 : Int32)), (.int (0 : Int32)), (.int (0 : Int32)), (.int (0 : Int32)), (.int (0 : Int32)), (.int (0 : Int32)), (.int (0 : Int32)), (.int (0 : Int32))]) := A62
  refine go_dup C X59 63 rfl at_62 rfl ?_
  refine go_iconst C X59 64 rfl at_63 (z := 0) rfl ?_
  refine go_iconst C X59 65 rfl at_64 (z := 1) rfl ?_
  refine go_iastore C X59 A62 (by decide) (by show _ < (10 : Int); decide) ga_arr57 (pc' := 66) rfl at_65 (fun T64 h66 W67 A68 X65 => ?_)
  have A69 := A63.other W67 ne_arr1_arr57
  replace A68 : La Z h66 arr57 .int ([(.int (1 : Int32)), (.int (0 : Int32)), (.int (0 : Int32)), (.int (0 : Int32)), (.int (0 : Int32)), (.int (0 : Int32)), (.int (0 : Int32)), (.int (0 : Int32)), (.int (0 : Int32)), (.int (0 : Int32))]) := A68
  refine go_dup C X65 67 rfl at_66 rfl ?_
  refine go_iconst C X65 68 rfl at_67 (z := 1) rfl ?_
  refine go_iconst C X65 69 rfl at_68 (z := 1) rfl ?_
  refine go_iastore C X65 A68 (by decide) (by show _ < (10 : Int); decide) ga_arr57 (pc' := 70) rfl at_69 (fun T70 h72 W73 A74 X71 => ?_)
  have A75 := A69.other W73 ne_arr1_arr57
  replace A74 : La Z h72 arr57 .int ([(.int (1 : Int32)), (.int (1 : Int32)), (.int (0 : Int32)), (.int (0 : Int32)), (.int (0 : Int32)), (.int (0 : Int32)), (.int (0 : Int32)), (.int (0 : Int32)), (.int (0 : Int32)), (.int (0 : Int32))]) := A74
  refine go_dup C X71 71 rfl at_70 rfl ?_
  refine go_iconst C X71 72 rfl at_71 (z := 2) rfl ?_
  refine go_iconst C X71 73 rfl at_72 (z := 1) rfl ?_
  refine go_iastore C X71 A74 (by decide) (by show _ < (10 : Int); decide) ga_arr57 (pc' := 74) rfl at_73 (fun T76 h78 W79 A80 X77 => ?_)
  have A81 := A75.other W79 ne_arr1_arr57
  replace A80 : La Z h78 arr57 .int ([(.int (1 : Int32)), (.int (1 : Int32)), (.int (1 : Int32)), (.int (0 : Int32)), (.int (0 : Int32)), (.int (0 : Int32)), (.int (0 : Int32)), (.int (0 : Int32)), (.int (0 : Int32)), (.int (0 : Int32))]) := A80
  refine go_dup C X77 75 rfl at_74 rfl ?_
  refine go_iconst C X77 76 rfl at_75 (z := 3) rfl ?_
  refine go_iconst C X77 77 rfl at_76 (z := 2) rfl ?_
  refine go_iastore C X77 A80 (by decide) (by show _ < (10 : Int); decide) ga_arr57 (pc' := 78) rfl at_77 (fun T82 h84 W85 A86 X83 => ?_)
  have A87 := A81.other W85 ne_arr1_arr57
  replace A86 : La Z h84 arr57 .int ([(.int (1 : Int32)), (.int (1 : Int32)), (.int (1 : Int32)), (.int (2 : Int32)), (.int (0 : Int32)), (.int (0 : Int32)), (.int (0 : Int32)), (.int (0 : Int32)), (.int (0 : Int32)), (.int (0 : Int32))]) := A86
  refine go_dup C X83 79 rfl at_78 rfl ?_
  refine go_iconst C X83 80 rfl at_79 (z := 4) rfl ?_
  refine go_iconst C X83 81 rfl at_80 (z := 2) rfl ?_
  refine go_iastore C X83 A86 (by decide) (by show _ < (10 : Int); decide) ga_arr57 (pc' := 82) rfl at_81 (fun T88 h90 W91 A92 X89 => ?_)
  have A93 := A87.other W91 ne_arr1_arr57
  replace A92 : La Z h90 arr57 .int ([(.int (1 : Int32)), (.int (1 : Int32)), (.int (1 : Int32)), (.int (2 : Int32)), (.int (2 : Int32)), (.int (0 : Int32)), (.int (0 : Int32)), (.int (0 : Int32)), (.int (0 : Int32)), (.int (0 : Int32))]) := A92
  refine go_dup C X89 83 rfl at_82 rfl ?_
  refine go_iconst C X89 84 rfl at_83 (z := 5) rfl ?_
  refine go_iconst C X89 85 rfl at_84 (z := 3) rfl ?_
  refine go_iastore C X89 A92 (by decide) (by show _ < (10 : Int); decide) ga_arr57 (pc' := 86) rfl at_85 (fun T94 h96 W97 A98 X95 => ?_)
  have A99 := A93.other W97 ne_arr1_arr57
  replace A98 : La Z h96 arr57 .int ([(.int (1 : Int32)), (.int (1 : Int32)), (.int (1 : Int32)), (.int (2 : Int32)), (.int (2 : Int32)), (.int (3 : Int32)), (.int (0 : Int32)), (.int (0 : Int32)), (.int (0 : Int32)), (.int (0 : Int32))]) := A98
  refine go_dup C X95 87 rfl at_86 rfl ?_
  refine go_bipush C X95 89 rfl at_87 (z := 6) rfl ?_
  refine go_iconst C X95 90 rfl at_89 (z := 2) rfl ?_
  refine go_iastore C X95 A98 (by decide) (by show _ < (10 : Int); decide) ga_arr57 (pc' := 91) rfl at_90 (fun T100 h102 W103 A104 X101 => ?_)
  have A105 := A99.other W103 ne_arr1_arr57
  replace A104 : La Z h102 arr57 .int ([(.int (1 : Int32)), (.int (1 : Int32)), (.int (1 : Int32)), (.int (2 : Int32)), (.int (2 : Int32)), (.int (3 : Int32)), (.int (2 : Int32)), (.int (0 : Int32)), (.int (0 : Int32)), (.int (0 : Int32))]) := A104
  refine go_dup C X101 92 rfl at_91 rfl ?_
  refine go_bipush C X101 94 rfl at_92 (z := 7) rfl ?_
  refine go_iconst C X101 95 rfl at_94 (z := 2) rfl ?_
  refine go_iastore C X101 A104 (by decide) (by show _ < (10 : Int); decide) ga_arr57 (pc' := 96) rfl at_95 (fun T106 h108 W109 A110 X107 => ?_)
  have A111 := A105.other W109 ne_arr1_arr57
  replace A110 : La Z h108 arr57 .int ([(.int (1 : Int32)), (.int (1 : Int32)), (.int (1 : Int32)), (.int (2 : Int32)), (.int (2 : Int32)), (.int (3 : Int32)), (.int (2 : Int32)), (.int (2 : Int32)), (.int (0 : Int32)), (.int (0 : Int32))]) := A110
  refine go_dup C X107 97 rfl at_96 rfl ?_
  refine go_bipush C X107 99 rfl at_97 (z := 8) rfl ?_
  refine go_iconst C X107 100 rfl at_99 (z := 3) rfl ?_
  refine go_iastore C X107 A110 (by decide) (by show _ < (10 : Int); decide) ga_arr57 (pc' := 101) rfl at_100 (fun T112 h114 W115 A116 X113 => ?_)
  have A117 := A111.other W115 ne_arr1_arr57
  replace A116 : La Z h114 arr57 .int ([(.int (1 : Int32)), (.int (1 : Int32)), (.int (1 : Int32)), (.int (2 : Int32)), (.int (2 : Int32)), (.int (3 : Int32)), (.int (2 : Int32)), (.int (2 : Int32)), (.int (3 : Int32)), (.int (0 : Int32))]) := A116
  refine go_dup C X113 102 rfl at_101 rfl ?_
  refine go_bipush C X113 104 rfl at_102 (z := 9) rfl ?_
  refine go_iconst C X113 105 rfl at_104 (z := 3) rfl ?_
  refine go_iastore C X113 A116 (by decide) (by show _ < (10 : Int); decide) ga_arr57 (pc' := 106) rfl at_105 (fun T118 h120 W121 A122 X119 => ?_)
  have A123 := A117.other W121 ne_arr1_arr57
  replace A122 : La Z h120 arr57 .int ([(.int (1 : Int32)), (.int (1 : Int32)), (.int (1 : Int32)), (.int (2 : Int32)), (.int (2 : Int32)), (.int (3 : Int32)), (.int (2 : Int32)), (.int (2 : Int32)), (.int (3 : Int32)), (.int (3 : Int32))]) := A122
  refine go_astore C X119 108 rfl at_106 rfl #[iv c1, iv bs, iv gp, iv ((c1 &&& (2147483647 : Int32)) % (10 : Int32)), rv arr1, rv arr57, un, un, un, un, un, un, un, un, un, un, un, un] rfl ?_
  refine go_bipush C X119 110 rfl at_108 (z := 10) rfl ?_
  refine go_newarr C X119 (C.w 1 rfl) (cap := 10) (by decide) (by decide) (by decide) (by decide) (by decide) (pc' := 112) rfl at_110 (fun T125 h127 arr124 ha_arr124 ga_arr124 E128 A129  X126 => ?_)
  have ne_arr1_arr124 : arr1 ≠ arr124 := Nat.ne_of_lt (Nat.lt_of_lt_of_le A123.lt (Nat.le_of_eq ha_arr124.symm))
  have ne_arr57_arr124 : arr57 ≠ arr124 := Nat.ne_of_lt (Nat.lt_of_lt_of_le A122.lt (Nat.le_of_eq ha_arr124.symm))
  have A130 := A123.ext E128
  have A131 := A122.ext E128
  replace A129 : La Z h127 arr124 .int ([(.int (0 : Int32)), (.int (0 : Int32)), (.int (0 : Int32)), (.int (0 : Int32)), (.int (0 : Int32)), (.int (0 : Int32)), (.int (0 : Int32)), (.int (0 : Int32)), (.int (0 : Int32)), (.int (0 : Int32))]) := A129
  refine go_dup C X126 113 rfl at_112 rfl ?_
  refine go_iconst C X126 114 rfl at_113 (z := 0) rfl ?_
  refine go_iconst C X126 115 rfl at_114 (z := 2) rfl ?_
  refine go_iastore C X126 A129 (by decide) (by show _ < (10 : Int); decide) ga_arr124 (pc' := 116) rfl at_115 (fun T132 h134 W135 A136 X133 => ?_)
  have A137 := A130.other W135 ne_arr1_arr124
  have A138 := A131.other W135 ne_arr57_arr124
  replace A136 : La Z h134 arr124 .int ([(.int (2 : Int32)), (.int (0 : Int32)), (.int (0 : Int32)), (.int (0 : Int32)), (.int (0 : Int32)), (.int (0 : Int32)), (.int (0 : Int32)), (.int (0 : Int32)), (.int (0 : Int32)), (.int (0 : Int32))]) := A136
  refine go_dup C X133 117 rfl at_116 rfl ?_
  refine go_iconst C X133 118 rfl at_117 (z := 1) rfl ?_
  refine go_iconst C X133 119 rfl at_118 (z := 3) rfl ?_
  refine go_iastore C X133 A136 (by decide) (by show _ < (10 : Int); decide) ga_arr124 (pc' := 120) rfl at_119 (fun T139 h141 W142 A143 X140 => ?_)
  have A144 := A137.other W142 ne_arr1_arr124
  have A145 := A138.other W142 ne_arr57_arr124
  replace A143 : La Z h141 arr124 .int ([(.int (2 : Int32)), (.int (3 : Int32)), (.int (0 : Int32)), (.int (0 : Int32)), (.int (0 : Int32)), (.int (0 : Int32)), (.int (0 : Int32)), (.int (0 : Int32)), (.int (0 : Int32)), (.int (0 : Int32))]) := A143
  refine go_dup C X140 121 rfl at_120 rfl ?_
  refine go_iconst C X140 122 rfl at_121 (z := 2) rfl ?_
  refine go_iconst C X140 123 rfl at_122 (z := 4) rfl ?_
  refine go_iastore C X140 A143 (by decide) (by show _ < (10 : Int); decide) ga_arr124 (pc' := 124) rfl at_123 (fun T146 h148 W149 A150 X147 => ?_)
  have A151 := A144.other W149 ne_arr1_arr124
  have A152 := A145.other W149 ne_arr57_arr124
  replace A150 : La Z h148 arr124 .int ([(.int (2 : Int32)), (.int (3 : Int32)), (.int (4 : Int32)), (.int (0 : Int32)), (.int (0 : Int32)), (.int (0 : Int32)), (.int (0 : Int32)), (.int (0 : Int32)), (.int (0 : Int32)), (.int (0 : Int32))]) := A150
  refine go_dup C X147 125 rfl at_124 rfl ?_
  refine go_iconst C X147 126 rfl at_125 (z := 3) rfl ?_
  refine go_iconst C X147 127 rfl at_126 (z := 3) rfl ?_
  refine go_iastore C X147 A150 (by decide) (by show _ < (10 : Int); decide) ga_arr124 (pc' := 128) rfl at_127 (fun T153 h155 W156 A157 X154 => ?_)
  have A158 := A151.other W156 ne_arr1_arr124
  have A159 := A152.other W156 ne_arr57_arr124
  replace A157 : La Z h155 arr124 .int ([(.int (2 : Int32)), (.int (3 : Int32)), (.int (4 : Int32)), (.int (3 : Int32)), (.int (0 : Int32)), (.int (0 : Int32)), (.int (0 : Int32)), (.int (0 : Int32)), (.int (0 : Int32)), (.int (0 : Int32))]) := A157
  refine go_dup C X154 129 rfl at_128 rfl ?_
  refine go_iconst C X154 130 rfl at_129 (z := 4) rfl ?_
  refine go_iconst C X154 131 rfl at_130 (z := 4) rfl ?_
  refine go_iastore C X154 A157 (by decide) (by show _ < (10 : Int); decide) ga_arr124 (pc' := 132) rfl at_131 (fun T160 h162 W163 A164 X161 => ?_)
  have A165 := A158.other W163 ne_arr1_arr124
  have A166 := A159.other W163 ne_arr57_arr124
  replace A164 : La Z h162 arr124 .int ([(.int (2 : Int32)), (.int (3 : Int32)), (.int (4 : Int32)), (.int (3 : Int32)), (.int (4 : Int32)), (.int (0 : Int32)), (.int (0 : Int32)), (.int (0 : Int32)), (.int (0 : Int32)), (.int (0 : Int32))]) := A164
  refine go_dup C X161 133 rfl at_132 rfl ?_
  refine go_iconst C X161 134 rfl at_133 (z := 5) rfl ?_
  refine go_iconst C X161 135 rfl at_134 (z := 4) rfl ?_
  refine go_iastore C X161 A164 (by decide) (by show _ < (10 : Int); decide) ga_arr124 (pc' := 136) rfl at_135 (fun T167 h169 W170 A171 X168 => ?_)
  have A172 := A165.other W170 ne_arr1_arr124
  have A173 := A166.other W170 ne_arr57_arr124
  replace A171 : La Z h169 arr124 .int ([(.int (2 : Int32)), (.int (3 : Int32)), (.int (4 : Int32)), (.int (3 : Int32)), (.int (4 : Int32)), (.int (4 : Int32)), (.int (0 : Int32)), (.int (0 : Int32)), (.int (0 : Int32)), (.int (0 : Int32))]) := A171
  refine go_dup C X168 137 rfl at_136 rfl ?_
  refine go_bipush C X168 139 rfl at_137 (z := 6) rfl ?_
  refine go_iconst C X168 140 rfl at_139 (z := 3) rfl ?_
  refine go_iastore C X168 A171 (by decide) (by show _ < (10 : Int); decide) ga_arr124 (pc' := 141) rfl at_140 (fun T174 h176 W177 A178 X175 => ?_)
  have A179 := A172.other W177 ne_arr1_arr124
  have A180 := A173.other W177 ne_arr57_arr124
  replace A178 : La Z h176 arr124 .int ([(.int (2 : Int32)), (.int (3 : Int32)), (.int (4 : Int32)), (.int (3 : Int32)), (.int (4 : Int32)), (.int (4 : Int32)), (.int (3 : Int32)), (.int (0 : Int32)), (.int (0 : Int32)), (.int (0 : Int32))]) := A178
  refine go_dup C X175 142 rfl at_141 rfl ?_
  refine go_bipush C X175 144 rfl at_142 (z := 7) rfl ?_
  refine go_iconst C X175 145 rfl at_144 (z := 4) rfl ?_
  refine go_iastore C X175 A178 (by decide) (by show _ < (10 : Int); decide) ga_arr124 (pc' := 146) rfl at_145 (fun T181 h183 W184 A185 X182 => ?_)
  have A186 := A179.other W184 ne_arr1_arr124
  have A187 := A180.other W184 ne_arr57_arr124
  replace A185 : La Z h183 arr124 .int ([(.int (2 : Int32)), (.int (3 : Int32)), (.int (4 : Int32)), (.int (3 : Int32)), (.int (4 : Int32)), (.int (4 : Int32)), (.int (3 : Int32)), (.int (4 : Int32)), (.int (0 : Int32)), (.int (0 : Int32))]) := A185
  refine go_dup C X182 147 rfl at_146 rfl ?_
  refine go_bipush C X182 149 rfl at_147 (z := 8) rfl ?_
  refine go_iconst C X182 150 rfl at_149 (z := 4) rfl ?_
  refine go_iastore C X182 A185 (by decide) (by show _ < (10 : Int); decide) ga_arr124 (pc' := 151) rfl at_150 (fun T188 h190 W191 A192 X189 => ?_)
  have A193 := A186.other W191 ne_arr1_arr124
  have A194 := A187.other W191 ne_arr57_arr124
  replace A192 : La Z h190 arr124 .int ([(.int (2 : Int32)), (.int (3 : Int32)), (.int (4 : Int32)), (.int (3 : Int32)), (.int (4 : Int32)), (.int (4 : Int32)), (.int (3 : Int32)), (.int (4 : Int32)), (.int (4 : Int32)), (.int (0 : Int32))]) := A192
  refine go_dup C X189 152 rfl at_151 rfl ?_
  refine go_bipush C X189 154 rfl at_152 (z := 9) rfl ?_
  refine go_iconst C X189 155 rfl at_154 (z := 4) rfl ?_
  refine go_iastore C X189 A192 (by decide) (by show _ < (10 : Int); decide) ga_arr124 (pc' := 156) rfl at_155 (fun T195 h197 W198 A199 X196 => ?_)
  have A200 := A193.other W198 ne_arr1_arr124
  have A201 := A194.other W198 ne_arr57_arr124
  replace A199 : La Z h197 arr124 .int ([(.int (2 : Int32)), (.int (3 : Int32)), (.int (4 : Int32)), (.int (3 : Int32)), (.int (4 : Int32)), (.int (4 : Int32)), (.int (3 : Int32)), (.int (4 : Int32)), (.int (4 : Int32)), (.int (4 : Int32))]) := A199
  refine go_astore C X196 158 rfl at_156 rfl #[iv c1, iv bs, iv gp, iv ((c1 &&& (2147483647 : Int32)) % (10 : Int32)), rv arr1, rv arr57, rv arr124, un, un, un, un, un, un, un, un, un, un, un] rfl ?_
  refine go_iloadN C X196 159 rfl at_158 rfl ?_
  refine go_bipush C X196 161 rfl at_159 (z := 15) rfl ?_
  refine go_iand C X196 162 rfl at_161 ?_
  refine go_istore C X196 164 rfl at_162 #[iv c1, iv bs, iv gp, iv ((c1 &&& (2147483647 : Int32)) % (10 : Int32)), rv arr1, rv arr57, rv arr124, iv (bs &&& (15 : Int32)), un, un, un, un, un, un, un, un, un, un] rfl ?_
  refine go_iload C X196 166 rfl at_164 rfl ?_
  refine go_iconst C X196 167 rfl at_166 (z := 1) rfl ?_
  refine go_iadd C X196 168 rfl at_167 ?_
  refine go_iloadN C X196 169 rfl at_168 rfl ?_
  refine go_bipush C X196 171 rfl at_169 (z := 15) rfl ?_
  refine go_iand C X196 172 rfl at_171 ?_
  refine go_iadd C X196 173 rfl at_172 ?_
  refine go_istore C X196 175 rfl at_173 #[iv c1, iv bs, iv gp, iv ((c1 &&& (2147483647 : Int32)) % (10 : Int32)), rv arr1, rv arr57, rv arr124, iv (bs &&& (15 : Int32)), iv (((bs &&& (15 : Int32)) + (1 : Int32)) + (gp &&& (15 : Int32))), un, un, un, un, un, un, un, un, un] rfl ?_
  refine go_iload C X196 177 rfl at_175 rfl ?_
  refine go_iconst C X196 178 rfl at_177 (z := 1) rfl ?_
  refine go_iadd C X196 179 rfl at_178 ?_
  refine go_iloadN C X196 180 rfl at_179 rfl ?_
  refine go_iconst C X196 181 rfl at_180 (z := 4) rfl ?_
  refine go_iushr C X196 182 rfl at_181 ?_
  refine go_bipush C X196 184 rfl at_182 (z := 15) rfl ?_
  refine go_iand C X196 185 rfl at_184 ?_
  refine go_iadd C X196 186 rfl at_185 ?_
  refine go_istore C X196 188 rfl at_186 #[iv c1, iv bs, iv gp, iv ((c1 &&& (2147483647 : Int32)) % (10 : Int32)), rv arr1, rv arr57, rv arr124, iv (bs &&& (15 : Int32)), iv (((bs &&& (15 : Int32)) + (1 : Int32)) + (gp &&& (15 : Int32))), iv (((((bs &&& (15 : Int32)) + (1 : Int32)) + (gp &&& (15 : Int32))) + (1 : Int32)) + (((gp.toUInt32 >>> ((4 : Int32) &&& 31).toUInt32).toInt32) &&& (15 : Int32))), un, un, un, un, un, un, un, un] rfl ?_
  refine go_iload C X196 190 rfl at_188 rfl ?_
  refine go_iconst C X196 191 rfl at_190 (z := 1) rfl ?_
  refine go_iadd C X196 192 rfl at_191 ?_
  refine go_iloadN C X196 193 rfl at_192 rfl ?_
  refine go_bipush C X196 195 rfl at_193 (z := 8) rfl ?_
  refine go_iushr C X196 196 rfl at_195 ?_
  refine go_bipush C X196 198 rfl at_196 (z := 15) rfl ?_
  refine go_iand C X196 199 rfl at_198 ?_
  refine go_iadd C X196 200 rfl at_199 ?_
  refine go_istore C X196 202 rfl at_200 #[iv c1, iv bs, iv gp, iv ((c1 &&& (2147483647 : Int32)) % (10 : Int32)), rv arr1, rv arr57, rv arr124, iv (bs &&& (15 : Int32)), iv (((bs &&& (15 : Int32)) + (1 : Int32)) + (gp &&& (15 : Int32))), iv (((((bs &&& (15 : Int32)) + (1 : Int32)) + (gp &&& (15 : Int32))) + (1 : Int32)) + (((gp.toUInt32 >>> ((4 : Int32) &&& 31).toUInt32).toInt32) &&& (15 : Int32))), iv (((((((bs &&& (15 : Int32)) + (1 : Int32)) + (gp &&& (15 : Int32))) + (1 : Int32)) + (((gp.toUInt32 >>> ((4 : Int32) &&& 31).toUInt32).toInt32) &&& (15 : Int32))) + (1 : Int32)) + (((gp.toUInt32 >>> ((8 : Int32) &&& 31).toUInt32).toInt32) &&& (15 : Int32))), un, un, un, un, un, un, un] rfl ?_
  refine go_iload C X196 204 rfl at_202 rfl ?_
  refine go_iconst C X196 205 rfl at_204 (z := 1) rfl ?_
  refine go_iadd C X196 206 rfl at_205 ?_
  refine go_iloadN C X196 207 rfl at_206 rfl ?_
  refine go_bipush C X196 209 rfl at_207 (z := 12) rfl ?_
  refine go_iushr C X196 210 rfl at_209 ?_
  refine go_bipush C X196 212 rfl at_210 (z := 15) rfl ?_
  refine go_iand C X196 213 rfl at_212 ?_
  refine go_iadd C X196 214 rfl at_213 ?_
  refine go_istore C X196 216 rfl at_214 #[iv c1, iv bs, iv gp, iv ((c1 &&& (2147483647 : Int32)) % (10 : Int32)), rv arr1, rv arr57, rv arr124, iv (bs &&& (15 : Int32)), iv (((bs &&& (15 : Int32)) + (1 : Int32)) + (gp &&& (15 : Int32))), iv (((((bs &&& (15 : Int32)) + (1 : Int32)) + (gp &&& (15 : Int32))) + (1 : Int32)) + (((gp.toUInt32 >>> ((4 : Int32) &&& 31).toUInt32).toInt32) &&& (15 : Int32))), iv (((((((bs &&& (15 : Int32)) + (1 : Int32)) + (gp &&& (15 : Int32))) + (1 : Int32)) + (((gp.toUInt32 >>> ((4 : Int32) &&& 31).toUInt32).toInt32) &&& (15 : Int32))) + (1 : Int32)) + (((gp.toUInt32 >>> ((8 : Int32) &&& 31).toUInt32).toInt32) &&& (15 : Int32))), iv (((((((((bs &&& (15 : Int32)) + (1 : Int32)) + (gp &&& (15 : Int32))) + (1 : Int32)) + (((gp.toUInt32 >>> ((4 : Int32) &&& 31).toUInt32).toInt32) &&& (15 : Int32))) + (1 : Int32)) + (((gp.toUInt32 >>> ((8 : Int32) &&& 31).toUInt32).toInt32) &&& (15 : Int32))) + (1 : Int32)) + (((gp.toUInt32 >>> ((12 : Int32) &&& 31).toUInt32).toInt32) &&& (15 : Int32))), un, un, un, un, un, un] rfl ?_
  have m0 := own_m15 bs
  generalize eo0 : (bs &&& (15 : Int32)) = o0
  rw [eo0] at m0
  have m1 := own_m15 gp
  have u1 := i_add (b := (gp &&& (15 : Int32))) (i_add (a := o0) (b := 1) (y := 1) rfl rfl (by omega) (by omega)) rfl (by omega) (by omega)
  generalize eo1 : ((o0 + (1 : Int32)) + (gp &&& (15 : Int32))) = o1
  rw [eo1] at u1
  generalize (gp &&& (15 : Int32)) = mm1 at *
  have m2 := own_m15 ((gp.toUInt32 >>> ((4 : Int32) &&& 31).toUInt32).toInt32)
  have u2 := i_add (b := (((gp.toUInt32 >>> ((4 : Int32) &&& 31).toUInt32).toInt32) &&& (15 : Int32))) (i_add (a := o1) (b := 1) (y := 1) rfl rfl (by omega) (by omega)) rfl (by omega) (by omega)
  generalize eo2 : ((o1 + (1 : Int32)) + (((gp.toUInt32 >>> ((4 : Int32) &&& 31).toUInt32).toInt32) &&& (15 : Int32))) = o2
  rw [eo2] at u2
  generalize (((gp.toUInt32 >>> ((4 : Int32) &&& 31).toUInt32).toInt32) &&& (15 : Int32)) = mm2 at *
  have m3 := own_m15 ((gp.toUInt32 >>> ((8 : Int32) &&& 31).toUInt32).toInt32)
  have u3 := i_add (b := (((gp.toUInt32 >>> ((8 : Int32) &&& 31).toUInt32).toInt32) &&& (15 : Int32))) (i_add (a := o2) (b := 1) (y := 1) rfl rfl (by omega) (by omega)) rfl (by omega) (by omega)
  generalize eo3 : ((o2 + (1 : Int32)) + (((gp.toUInt32 >>> ((8 : Int32) &&& 31).toUInt32).toInt32) &&& (15 : Int32))) = o3
  rw [eo3] at u3
  generalize (((gp.toUInt32 >>> ((8 : Int32) &&& 31).toUInt32).toInt32) &&& (15 : Int32)) = mm3 at *
  have m4 := own_m15 ((gp.toUInt32 >>> ((12 : Int32) &&& 31).toUInt32).toInt32)
  have u4 := i_add (b := (((gp.toUInt32 >>> ((12 : Int32) &&& 31).toUInt32).toInt32) &&& (15 : Int32))) (i_add (a := o3) (b := 1) (y := 1) rfl rfl (by omega) (by omega)) rfl (by omega) (by omega)
  generalize eo4 : ((o3 + (1 : Int32)) + (((gp.toUInt32 >>> ((12 : Int32) &&& 31).toUInt32).toInt32) &&& (15 : Int32))) = o4
  rw [eo4] at u4
  generalize (((gp.toUInt32 >>> ((12 : Int32) &&& 31).toUInt32).toInt32) &&& (15 : Int32)) = mm4 at *
  have b0 : 0 ≤ o0.toInt ∧ o0.toInt < (80 : Nat) := by omega
  have b1 : 0 ≤ o1.toInt ∧ o1.toInt < (80 : Nat) := by omega
  have b2 : 0 ≤ o2.toInt ∧ o2.toInt < (80 : Nat) := by omega
  have b3 : 0 ≤ o3.toInt ∧ o3.toInt < (80 : Nat) := by omega
  have b4 : 0 ≤ o4.toInt ∧ o4.toInt < (80 : Nat) := by omega
  refine go_iconst C X196 217 rfl at_216 (z := 5) rfl ?_
  refine go_newarr C X196 (C.w 1 rfl) (cap := 5) (by decide) (by decide) (by decide) (by decide) (by decide) (pc' := 219) rfl at_217 (fun T202 h204 va ha_va ga_va E205 A206  X203 => ?_)
  have ne_arr1_va : arr1 ≠ va := Nat.ne_of_lt (Nat.lt_of_lt_of_le A200.lt (Nat.le_of_eq ha_va.symm))
  have ne_arr57_va : arr57 ≠ va := Nat.ne_of_lt (Nat.lt_of_lt_of_le A201.lt (Nat.le_of_eq ha_va.symm))
  have ne_arr124_va : arr124 ≠ va := Nat.ne_of_lt (Nat.lt_of_lt_of_le A199.lt (Nat.le_of_eq ha_va.symm))
  have A207 := A200.ext E205
  have A208 := A201.ext E205
  have A209 := A199.ext E205
  replace A206 : La Z h204 va .int ([(.int (0 : Int32)), (.int (0 : Int32)), (.int (0 : Int32)), (.int (0 : Int32)), (.int (0 : Int32))]) := A206
  refine go_dup C X203 220 rfl at_219 rfl ?_
  refine go_iconst C X203 221 rfl at_220 (z := 0) rfl ?_
  refine go_iload C X203 223 rfl at_221 rfl ?_
  refine go_iastore C X203 A206 (by decide) (by show _ < (5 : Int); decide) ga_va (pc' := 224) rfl at_223 (fun T210 h212 W213 A214 X211 => ?_)
  have A215 := A207.other W213 ne_arr1_va
  have A216 := A208.other W213 ne_arr57_va
  have A217 := A209.other W213 ne_arr124_va
  replace A214 : La Z h212 va .int ([(.int o0), (.int (0 : Int32)), (.int (0 : Int32)), (.int (0 : Int32)), (.int (0 : Int32))]) := A214
  refine go_dup C X211 225 rfl at_224 rfl ?_
  refine go_iconst C X211 226 rfl at_225 (z := 1) rfl ?_
  refine go_iload C X211 228 rfl at_226 rfl ?_
  refine go_iastore C X211 A214 (by decide) (by show _ < (5 : Int); decide) ga_va (pc' := 229) rfl at_228 (fun T218 h220 W221 A222 X219 => ?_)
  have A223 := A215.other W221 ne_arr1_va
  have A224 := A216.other W221 ne_arr57_va
  have A225 := A217.other W221 ne_arr124_va
  replace A222 : La Z h220 va .int ([(.int o0), (.int o1), (.int (0 : Int32)), (.int (0 : Int32)), (.int (0 : Int32))]) := A222
  refine go_dup C X219 230 rfl at_229 rfl ?_
  refine go_iconst C X219 231 rfl at_230 (z := 2) rfl ?_
  refine go_iload C X219 233 rfl at_231 rfl ?_
  refine go_iastore C X219 A222 (by decide) (by show _ < (5 : Int); decide) ga_va (pc' := 234) rfl at_233 (fun T226 h228 W229 A230 X227 => ?_)
  have A231 := A223.other W229 ne_arr1_va
  have A232 := A224.other W229 ne_arr57_va
  have A233 := A225.other W229 ne_arr124_va
  replace A230 : La Z h228 va .int ([(.int o0), (.int o1), (.int o2), (.int (0 : Int32)), (.int (0 : Int32))]) := A230
  refine go_dup C X227 235 rfl at_234 rfl ?_
  refine go_iconst C X227 236 rfl at_235 (z := 3) rfl ?_
  refine go_iload C X227 238 rfl at_236 rfl ?_
  refine go_iastore C X227 A230 (by decide) (by show _ < (5 : Int); decide) ga_va (pc' := 239) rfl at_238 (fun T234 h236 W237 A238 X235 => ?_)
  have A239 := A231.other W237 ne_arr1_va
  have A240 := A232.other W237 ne_arr57_va
  have A241 := A233.other W237 ne_arr124_va
  replace A238 : La Z h236 va .int ([(.int o0), (.int o1), (.int o2), (.int o3), (.int (0 : Int32))]) := A238
  refine go_dup C X235 240 rfl at_239 rfl ?_
  refine go_iconst C X235 241 rfl at_240 (z := 4) rfl ?_
  refine go_iload C X235 243 rfl at_241 rfl ?_
  refine go_iastore C X235 A238 (by decide) (by show _ < (5 : Int); decide) ga_va (pc' := 244) rfl at_243 (fun T242 h244 W245 A246 X243 => ?_)
  have A247 := A239.other W245 ne_arr1_va
  have A248 := A240.other W245 ne_arr57_va
  have A249 := A241.other W245 ne_arr124_va
  replace A246 : La Z h244 va .int ([(.int o0), (.int o1), (.int o2), (.int o3), (.int o4)]) := A246
  refine go_astore C X243 246 rfl at_244 rfl #[iv c1, iv bs, iv gp, iv ((c1 &&& (2147483647 : Int32)) % (10 : Int32)), rv arr1, rv arr57, rv arr124, iv o0, iv o1, iv o2, iv o3, iv o4, rv va, un, un, un, un, un] rfl ?_
  refine go_iconst C X243 247 rfl at_246 (z := 5) rfl ?_
  refine go_newarr C X243 (C.w 1 rfl) (cap := 5) (by decide) (by decide) (by decide) (by decide) (by decide) (pc' := 249) rfl at_247 (fun T250 h252 ofa ha_ofa ga_ofa E253 A254  X251 => ?_)
  have ne_arr1_ofa : arr1 ≠ ofa := Nat.ne_of_lt (Nat.lt_of_lt_of_le A247.lt (Nat.le_of_eq ha_ofa.symm))
  have ne_arr57_ofa : arr57 ≠ ofa := Nat.ne_of_lt (Nat.lt_of_lt_of_le A248.lt (Nat.le_of_eq ha_ofa.symm))
  have ne_arr124_ofa : arr124 ≠ ofa := Nat.ne_of_lt (Nat.lt_of_lt_of_le A249.lt (Nat.le_of_eq ha_ofa.symm))
  have ne_va_ofa : va ≠ ofa := Nat.ne_of_lt (Nat.lt_of_lt_of_le A246.lt (Nat.le_of_eq ha_ofa.symm))
  have A255 := A247.ext E253
  have A256 := A248.ext E253
  have A257 := A249.ext E253
  have A258 := A246.ext E253
  replace A254 : La Z h252 ofa .int ([(.int (0 : Int32)), (.int (0 : Int32)), (.int (0 : Int32)), (.int (0 : Int32)), (.int (0 : Int32))]) := A254
  refine go_dup C X251 250 rfl at_249 rfl ?_
  refine go_iconst C X251 251 rfl at_250 (z := 0) rfl ?_
  refine go_iload C X251 253 rfl at_251 rfl ?_
  refine go_iastore C X251 A254 (by decide) (by show _ < (5 : Int); decide) ga_ofa (pc' := 254) rfl at_253 (fun T259 h261 W262 A263 X260 => ?_)
  have A264 := A255.other W262 ne_arr1_ofa
  have A265 := A256.other W262 ne_arr57_ofa
  have A266 := A257.other W262 ne_arr124_ofa
  have A267 := A258.other W262 ne_va_ofa
  replace A263 : La Z h261 ofa .int ([(.int o0), (.int (0 : Int32)), (.int (0 : Int32)), (.int (0 : Int32)), (.int (0 : Int32))]) := A263
  refine go_dup C X260 255 rfl at_254 rfl ?_
  refine go_iconst C X260 256 rfl at_255 (z := 1) rfl ?_
  refine go_iload C X260 258 rfl at_256 rfl ?_
  refine go_iastore C X260 A263 (by decide) (by show _ < (5 : Int); decide) ga_ofa (pc' := 259) rfl at_258 (fun T268 h270 W271 A272 X269 => ?_)
  have A273 := A264.other W271 ne_arr1_ofa
  have A274 := A265.other W271 ne_arr57_ofa
  have A275 := A266.other W271 ne_arr124_ofa
  have A276 := A267.other W271 ne_va_ofa
  replace A272 : La Z h270 ofa .int ([(.int o0), (.int o1), (.int (0 : Int32)), (.int (0 : Int32)), (.int (0 : Int32))]) := A272
  refine go_dup C X269 260 rfl at_259 rfl ?_
  refine go_iconst C X269 261 rfl at_260 (z := 2) rfl ?_
  refine go_iload C X269 263 rfl at_261 rfl ?_
  refine go_iastore C X269 A272 (by decide) (by show _ < (5 : Int); decide) ga_ofa (pc' := 264) rfl at_263 (fun T277 h279 W280 A281 X278 => ?_)
  have A282 := A273.other W280 ne_arr1_ofa
  have A283 := A274.other W280 ne_arr57_ofa
  have A284 := A275.other W280 ne_arr124_ofa
  have A285 := A276.other W280 ne_va_ofa
  replace A281 : La Z h279 ofa .int ([(.int o0), (.int o1), (.int o2), (.int (0 : Int32)), (.int (0 : Int32))]) := A281
  refine go_dup C X278 265 rfl at_264 rfl ?_
  refine go_iconst C X278 266 rfl at_265 (z := 3) rfl ?_
  refine go_iload C X278 268 rfl at_266 rfl ?_
  refine go_iastore C X278 A281 (by decide) (by show _ < (5 : Int); decide) ga_ofa (pc' := 269) rfl at_268 (fun T286 h288 W289 A290 X287 => ?_)
  have A291 := A282.other W289 ne_arr1_ofa
  have A292 := A283.other W289 ne_arr57_ofa
  have A293 := A284.other W289 ne_arr124_ofa
  have A294 := A285.other W289 ne_va_ofa
  replace A290 : La Z h288 ofa .int ([(.int o0), (.int o1), (.int o2), (.int o3), (.int (0 : Int32))]) := A290
  refine go_dup C X287 270 rfl at_269 rfl ?_
  refine go_iconst C X287 271 rfl at_270 (z := 4) rfl ?_
  refine go_iload C X287 273 rfl at_271 rfl ?_
  refine go_iastore C X287 A290 (by decide) (by show _ < (5 : Int); decide) ga_ofa (pc' := 274) rfl at_273 (fun T295 h297 W298 A299 X296 => ?_)
  have A300 := A291.other W298 ne_arr1_ofa
  have A301 := A292.other W298 ne_arr57_ofa
  have A302 := A293.other W298 ne_arr124_ofa
  have A303 := A294.other W298 ne_va_ofa
  replace A299 : La Z h297 ofa .int ([(.int o0), (.int o1), (.int o2), (.int o3), (.int o4)]) := A299
  refine go_astore C X296 276 rfl at_274 rfl #[iv c1, iv bs, iv gp, iv ((c1 &&& (2147483647 : Int32)) % (10 : Int32)), rv arr1, rv arr57, rv arr124, iv o0, iv o1, iv o2, iv o3, iv o4, rv va, rv ofa, un, un, un, un] rfl ?_
  refine go_bipush C X296 278 rfl at_276 (z := 80) rfl ?_
  refine go_newarr C X296 (C.w 1 rfl) (cap := 80) (by decide) (by decide) (by decide) (by decide) (by decide) (pc' := 280) rfl at_278 (fun T304 h306 ixa ha_ixa ga_ixa E307 A308  X305 => ?_)
  have ne_arr1_ixa : arr1 ≠ ixa := Nat.ne_of_lt (Nat.lt_of_lt_of_le A300.lt (Nat.le_of_eq ha_ixa.symm))
  have ne_arr57_ixa : arr57 ≠ ixa := Nat.ne_of_lt (Nat.lt_of_lt_of_le A301.lt (Nat.le_of_eq ha_ixa.symm))
  have ne_arr124_ixa : arr124 ≠ ixa := Nat.ne_of_lt (Nat.lt_of_lt_of_le A302.lt (Nat.le_of_eq ha_ixa.symm))
  have ne_va_ixa : va ≠ ixa := Nat.ne_of_lt (Nat.lt_of_lt_of_le A303.lt (Nat.le_of_eq ha_ixa.symm))
  have ne_ofa_ixa : ofa ≠ ixa := Nat.ne_of_lt (Nat.lt_of_lt_of_le A299.lt (Nat.le_of_eq ha_ixa.symm))
  have A309 := A300.ext E307
  have A310 := A301.ext E307
  have A311 := A302.ext E307
  have A312 := A303.ext E307
  have A313 := A299.ext E307
  replace A308 : La Z h306 ixa .int (ia (List.replicate 80 0)) := A308
  refine go_astore C X305 282 rfl at_280 rfl #[iv c1, iv bs, iv gp, iv ((c1 &&& (2147483647 : Int32)) % (10 : Int32)), rv arr1, rv arr57, rv arr124, iv o0, iv o1, iv o2, iv o3, iv o4, rv va, rv ofa, rv ixa, un, un, un] rfl ?_
  refine go_aload C X305 284 rfl at_282 rfl rfl ?_
  refine go_iload C X305 286 rfl at_284 rfl ?_
  refine go_iconst C X305 287 rfl at_286 (z := 0) rfl ?_
  refine go_iastore C X305 A308 b0.1 (by rw [ia_len]; simpa using b0.2) ga_ixa (pc' := 288) rfl at_287 (fun T314 h316 W317 A318 X315 => ?_)
  have A319 := A309.other W317 ne_arr1_ixa
  have A320 := A310.other W317 ne_arr57_ixa
  have A321 := A311.other W317 ne_arr124_ixa
  have A322 := A312.other W317 ne_va_ixa
  have A323 := A313.other W317 ne_ofa_ixa
  rw [ia_put] at A318
  refine go_aload C X315 290 rfl at_288 rfl rfl ?_
  refine go_iload C X315 292 rfl at_290 rfl ?_
  refine go_iconst C X315 293 rfl at_292 (z := 1) rfl ?_
  refine go_iastore C X315 A318 b1.1 (by rw [ia_len]; rw [put32_len]; simpa using b1.2) ga_ixa (pc' := 294) rfl at_293 (fun T324 h326 W327 A328 X325 => ?_)
  have A329 := A319.other W327 ne_arr1_ixa
  have A330 := A320.other W327 ne_arr57_ixa
  have A331 := A321.other W327 ne_arr124_ixa
  have A332 := A322.other W327 ne_va_ixa
  have A333 := A323.other W327 ne_ofa_ixa
  rw [ia_put] at A328
  refine go_aload C X325 296 rfl at_294 rfl rfl ?_
  refine go_iload C X325 298 rfl at_296 rfl ?_
  refine go_iconst C X325 299 rfl at_298 (z := 2) rfl ?_
  refine go_iastore C X325 A328 b2.1 (by rw [ia_len]; rw [put32_len]; rw [put32_len]; simpa using b2.2) ga_ixa (pc' := 300) rfl at_299 (fun T334 h336 W337 A338 X335 => ?_)
  have A339 := A329.other W337 ne_arr1_ixa
  have A340 := A330.other W337 ne_arr57_ixa
  have A341 := A331.other W337 ne_arr124_ixa
  have A342 := A332.other W337 ne_va_ixa
  have A343 := A333.other W337 ne_ofa_ixa
  rw [ia_put] at A338
  refine go_aload C X335 302 rfl at_300 rfl rfl ?_
  refine go_iload C X335 304 rfl at_302 rfl ?_
  refine go_iconst C X335 305 rfl at_304 (z := 3) rfl ?_
  refine go_iastore C X335 A338 b3.1 (by rw [ia_len]; rw [put32_len]; rw [put32_len]; rw [put32_len]; simpa using b3.2) ga_ixa (pc' := 306) rfl at_305 (fun T344 h346 W347 A348 X345 => ?_)
  have A349 := A339.other W347 ne_arr1_ixa
  have A350 := A340.other W347 ne_arr57_ixa
  have A351 := A341.other W347 ne_arr124_ixa
  have A352 := A342.other W347 ne_va_ixa
  have A353 := A343.other W347 ne_ofa_ixa
  rw [ia_put] at A348
  refine go_aload C X345 308 rfl at_306 rfl rfl ?_
  refine go_iload C X345 310 rfl at_308 rfl ?_
  refine go_iconst C X345 311 rfl at_310 (z := 4) rfl ?_
  refine go_iastore C X345 A348 b4.1 (by rw [ia_len]; rw [put32_len]; rw [put32_len]; rw [put32_len]; rw [put32_len]; simpa using b4.2) ga_ixa (pc' := 312) rfl at_311 (fun T354 h356 W357 A358 X355 => ?_)
  have A359 := A349.other W357 ne_arr1_ixa
  have A360 := A350.other W357 ne_arr57_ixa
  have A361 := A351.other W357 ne_arr124_ixa
  have A362 := A352.other W357 ne_va_ixa
  have A363 := A353.other W357 ne_ofa_ixa
  rw [ia_put] at A358
  have hl : ((put32 (put32 (put32 (put32 (put32 (List.replicate 80 0) o0 (0 : Int32)) o1 (1 : Int32)) o2 (2 : Int32)) o3 (3 : Int32)) o4 (4 : Int32))).length = 80 := by simp [put32_len]
  have e0 : at32 (put32 (put32 (put32 (put32 (put32 (List.replicate 80 0) o0 (0 : Int32)) o1 (1 : Int32)) o2 (2 : Int32)) o3 (3 : Int32)) o4 (4 : Int32)) o0 = 0 := by
    rw [own_put_miss b4.1 b0.1 (by omega)]; rw [own_put_miss b3.1 b0.1 (by omega)]; rw [own_put_miss b2.1 b0.1 (by omega)]; rw [own_put_miss b1.1 b0.1 (by omega)]; exact own_put_hit b0.1 (by simpa [put32_len] using b0.2)
  have e1 : at32 (put32 (put32 (put32 (put32 (put32 (List.replicate 80 0) o0 (0 : Int32)) o1 (1 : Int32)) o2 (2 : Int32)) o3 (3 : Int32)) o4 (4 : Int32)) o1 = 1 := by
    rw [own_put_miss b4.1 b1.1 (by omega)]; rw [own_put_miss b3.1 b1.1 (by omega)]; rw [own_put_miss b2.1 b1.1 (by omega)]; exact own_put_hit b1.1 (by simpa [put32_len] using b1.2)
  have e2 : at32 (put32 (put32 (put32 (put32 (put32 (List.replicate 80 0) o0 (0 : Int32)) o1 (1 : Int32)) o2 (2 : Int32)) o3 (3 : Int32)) o4 (4 : Int32)) o2 = 2 := by
    rw [own_put_miss b4.1 b2.1 (by omega)]; rw [own_put_miss b3.1 b2.1 (by omega)]; exact own_put_hit b2.1 (by simpa [put32_len] using b2.2)
  have e3 : at32 (put32 (put32 (put32 (put32 (put32 (List.replicate 80 0) o0 (0 : Int32)) o1 (1 : Int32)) o2 (2 : Int32)) o3 (3 : Int32)) o4 (4 : Int32)) o3 = 3 := by
    rw [own_put_miss b4.1 b3.1 (by omega)]; exact own_put_hit b3.1 (by simpa [put32_len] using b3.2)
  have e4 : at32 (put32 (put32 (put32 (put32 (put32 (List.replicate 80 0) o0 (0 : Int32)) o1 (1 : Int32)) o2 (2 : Int32)) o3 (3 : Int32)) o4 (4 : Int32)) o4 = 4 := by
    exact own_put_hit b4.1 (by simpa [put32_len] using b4.2)
  generalize eix : (put32 (put32 (put32 (put32 (put32 (List.replicate 80 0) o0 (0 : Int32)) o1 (1 : Int32)) o2 (2 : Int32)) o3 (3 : Int32)) o4 (4 : Int32)) = ix at *
  have kc : 0 ≤ ((c1 &&& 2147483647) % 10).toInt ∧ ((c1 &&& 2147483647) % 10).toInt < 10 := by have := i_rem (b := 10) (y := 10) (c_mask c1 2147483647 31 (by decide) (by decide)) rfl (by omega); omega
  generalize ekk : ((c1 &&& (2147483647 : Int32)) % (10 : Int32)) = kk
  rw [ekk] at kc
  clear ekk
  have kd : kk = 0 ∨ kk = 1 ∨ kk = 2 ∨ kk = 3 ∨ kk = 4 ∨ kk = 5 ∨ kk = 6 ∨ kk = 7 ∨ kk = 8 ∨ kk = 9 := by
    rcases (by omega : kk.toInt = 0 ∨ kk.toInt = 1 ∨ kk.toInt = 2 ∨ kk.toInt = 3 ∨ kk.toInt = 4 ∨ kk.toInt = 5 ∨ kk.toInt = 6 ∨ kk.toInt = 7 ∨ kk.toInt = 8 ∨ kk.toInt = 9) with q | q | q | q | q | q | q | q | q | q <;> (have := i_eq (b := Int32.ofInt kk.toInt) (by rw [Int32.ofInt_toInt]); rw [q] at this; subst this; decide)
  clear kc
  rcases kd with rfl | rfl | rfl | rfl | rfl | rfl | rfl | rfl | rfl | rfl
  · refine go_iconst C X355 313 rfl at_312 (z := 3) rfl ?_
    refine go_newarr C X355 (C.w 1 rfl) (cap := 3) (by decide) (by decide) (by decide) (by decide) (by decide) (pc' := 315) rfl at_313 (fun T364 h366 sba ha_sba ga_sba E367 A368  X365 => ?_)
    have ne_arr1_sba : arr1 ≠ sba := Nat.ne_of_lt (Nat.lt_of_lt_of_le A359.lt (Nat.le_of_eq ha_sba.symm))
    have ne_arr57_sba : arr57 ≠ sba := Nat.ne_of_lt (Nat.lt_of_lt_of_le A360.lt (Nat.le_of_eq ha_sba.symm))
    have ne_arr124_sba : arr124 ≠ sba := Nat.ne_of_lt (Nat.lt_of_lt_of_le A361.lt (Nat.le_of_eq ha_sba.symm))
    have ne_va_sba : va ≠ sba := Nat.ne_of_lt (Nat.lt_of_lt_of_le A362.lt (Nat.le_of_eq ha_sba.symm))
    have ne_ofa_sba : ofa ≠ sba := Nat.ne_of_lt (Nat.lt_of_lt_of_le A363.lt (Nat.le_of_eq ha_sba.symm))
    have ne_ixa_sba : ixa ≠ sba := Nat.ne_of_lt (Nat.lt_of_lt_of_le A358.lt (Nat.le_of_eq ha_sba.symm))
    have A369 := A359.ext E367
    have A370 := A360.ext E367
    have A371 := A361.ext E367
    have A372 := A362.ext E367
    have A373 := A363.ext E367
    have A374 := A358.ext E367
    replace A368 : La Z h366 sba .int ([(.int (0 : Int32)), (.int (0 : Int32)), (.int (0 : Int32))]) := A368
    refine go_dup C X365 316 rfl at_315 rfl ?_
    refine go_iconst C X365 317 rfl at_316 (z := 0) rfl ?_
    refine go_aload C X365 319 rfl at_317 rfl rfl ?_
    refine go_aload C X365 321 rfl at_319 rfl rfl ?_
    refine go_iloadN C X365 322 rfl at_321 rfl ?_
    refine go_iaload C X365 A369 (by decide) (v := (.int (0 : Int32))) rfl (pc' := 323) rfl at_322 ?_
    refine go_iaload C X365 A372 (by decide) (v := (.int o0)) rfl (pc' := 324) rfl at_323 ?_
    refine go_iastore C X365 A368 (by decide) (by show _ < (3 : Int); decide) ga_sba (pc' := 325) rfl at_324 (fun T375 h377 W378 A379 X376 => ?_)
    have A380 := A369.other W378 ne_arr1_sba
    have A381 := A370.other W378 ne_arr57_sba
    have A382 := A371.other W378 ne_arr124_sba
    have A383 := A372.other W378 ne_va_sba
    have A384 := A373.other W378 ne_ofa_sba
    have A385 := A374.other W378 ne_ixa_sba
    replace A379 : La Z h377 sba .int ([(.int o0), (.int (0 : Int32)), (.int (0 : Int32))]) := A379
    refine go_dup C X376 326 rfl at_325 rfl ?_
    refine go_iconst C X376 327 rfl at_326 (z := 1) rfl ?_
    refine go_aload C X376 329 rfl at_327 rfl rfl ?_
    refine go_aload C X376 331 rfl at_329 rfl rfl ?_
    refine go_iloadN C X376 332 rfl at_331 rfl ?_
    refine go_iaload C X376 A381 (by decide) (v := (.int (1 : Int32))) rfl (pc' := 333) rfl at_332 ?_
    refine go_iaload C X376 A383 (by decide) (v := (.int o1)) rfl (pc' := 334) rfl at_333 ?_
    refine go_iastore C X376 A379 (by decide) (by show _ < (3 : Int); decide) ga_sba (pc' := 335) rfl at_334 (fun T386 h388 W389 A390 X387 => ?_)
    have A391 := A380.other W389 ne_arr1_sba
    have A392 := A381.other W389 ne_arr57_sba
    have A393 := A382.other W389 ne_arr124_sba
    have A394 := A383.other W389 ne_va_sba
    have A395 := A384.other W389 ne_ofa_sba
    have A396 := A385.other W389 ne_ixa_sba
    replace A390 : La Z h388 sba .int ([(.int o0), (.int o1), (.int (0 : Int32))]) := A390
    refine go_dup C X387 336 rfl at_335 rfl ?_
    refine go_iconst C X387 337 rfl at_336 (z := 2) rfl ?_
    refine go_aload C X387 339 rfl at_337 rfl rfl ?_
    refine go_aload C X387 341 rfl at_339 rfl rfl ?_
    refine go_iloadN C X387 342 rfl at_341 rfl ?_
    refine go_iaload C X387 A393 (by decide) (v := (.int (2 : Int32))) rfl (pc' := 343) rfl at_342 ?_
    refine go_iaload C X387 A394 (by decide) (v := (.int o2)) rfl (pc' := 344) rfl at_343 ?_
    refine go_iastore C X387 A390 (by decide) (by show _ < (3 : Int); decide) ga_sba (pc' := 345) rfl at_344 (fun T397 h399 W400 A401 X398 => ?_)
    have A402 := A391.other W400 ne_arr1_sba
    have A403 := A392.other W400 ne_arr57_sba
    have A404 := A393.other W400 ne_arr124_sba
    have A405 := A394.other W400 ne_va_sba
    have A406 := A395.other W400 ne_ofa_sba
    have A407 := A396.other W400 ne_ixa_sba
    replace A401 : La Z h399 sba .int ([(.int o0), (.int o1), (.int o2)]) := A401
    refine go_astore C X398 347 rfl at_345 rfl #[iv c1, iv bs, iv gp, iv (0 : Int32), rv arr1, rv arr57, rv arr124, iv o0, iv o1, iv o2, iv o3, iv o4, rv va, rv ofa, rv ixa, rv sba, un, un] rfl ?_
    refine go_aload C X398 349 rfl at_347 rfl rfl ?_
    refine go_aload C X398 351 rfl at_349 rfl rfl ?_
    refine go_aload C X398 353 rfl at_351 rfl rfl ?_
    refine go_callS C X398 (C.w 2 rfl) (C.w 3 rfl) (C.w 4 rfl) (C.w 5 rfl) (own_next_0 l Z a0 C.ws sba ofa ixa ix o0 o1 o2 o3 o4 h399 n0 X398.old A401 A406 A407 ga_sba (Ne.symm ne_ofa_sba) (Ne.symm ne_ixa_sba) hl b0 e0 b1 e1 b2 e2 b3 e3 b4 e4) (argsL := [(.ref sba), (.ref ofa), (.ref ixa)]) (rest := []) (lenOf pd_0 rfl) rfl (by decide) (by decide) (Nat.le_of_ble_eq_true rfl) (by decide) (by decide) rfl rfl (pc' := 356) rfl at_353 ?_
    rintro T408 h410 _ ⟨rfl, K9, A9⟩ X409
    show Go p e below _ (T408.setTop (mkF m 356 #[iv c1, iv bs, iv gp, iv (0 : Int32), rv arr1, rv arr57, rv arr124, iv o0, iv o1, iv o2, iv o3, iv o4, rv va, rv ofa, rv ixa, rv sba, un, un] [(.int (1 : Int32))]))
    have A411 := A402.keep K9 (ninS ne_arr1_sba nin0)
    have A412 := A403.keep K9 (ninS ne_arr57_sba nin0)
    have A413 := A404.keep K9 (ninS ne_arr124_sba nin0)
    have A414 := A405.keep K9 (ninS ne_va_sba nin0)
    have A415 := A406.keep K9 (ninS ne_ofa_sba nin0)
    have A416 := A407.keep K9 (ninS ne_ixa_sba nin0)
    refine go_istore C X409 358 rfl at_356 #[iv c1, iv bs, iv gp, iv (0 : Int32), rv arr1, rv arr57, rv arr124, iv o0, iv o1, iv o2, iv o3, iv o4, rv va, rv ofa, rv ixa, rv sba, iv (1 : Int32), un] rfl ?_
    refine go_iloadN C X409 359 rfl at_358 rfl ?_
    refine go_bipush C X409 361 rfl at_359 (z := 9) rfl ?_
    refine go_icmp_ne C X409 at_361 (pc' := 364) (pc2 := 402) rfl (by decide) (by decide) (fun (c361 : ¬ (0 : Int32) = (9 : Int32)) => ?_) (fun (c361 : (0 : Int32) = (9 : Int32)) => False.elim (by first | omega | exact absurd c361 (by decide)))
    refine go_iloadN C X409 403 rfl at_402 rfl ?_
    refine go_iconst C X409 404 rfl at_403 (z := 1) rfl ?_
    refine go_iaddL C X409 405 rfl at_404 (z := (1)) rfl ?_
    refine go_istore C X409 407 rfl at_405 #[iv c1, iv bs, iv gp, iv (0 : Int32), rv arr1, rv arr57, rv arr124, iv o0, iv o1, iv o2, iv o3, iv o4, rv va, rv ofa, rv ixa, rv sba, iv (1 : Int32), iv (1 : Int32)] rfl ?_
    refine go_iload C X409 409 rfl at_407 rfl ?_
    refine go_if_eq C X409 at_409 (pc' := 412) (pc2 := 461) rfl (by decide) (by decide) (fun (c409 : (1 : Int32) = (0 : Int32)) => False.elim (by first | omega | exact absurd c409 (by decide))) (fun (c409 : ¬ (1 : Int32) = (0 : Int32)) => ?_)
    refine go_aload C X409 414 rfl at_412 rfl rfl ?_
    refine go_iconst C X409 415 rfl at_414 (z := 0) rfl ?_
    refine go_iaload C X409 A9 (by decide) (v := (.int o0)) rfl (pc' := 416) rfl at_415 ?_
    refine go_aload C X409 418 rfl at_416 rfl rfl ?_
    refine go_aload C X409 420 rfl at_418 rfl rfl ?_
    refine go_iload C X409 422 rfl at_420 rfl ?_
    refine go_iaload C X409 A411 (by decide) (v := (.int (0 : Int32))) rfl (pc' := 423) rfl at_422 ?_
    refine go_iaload C X409 A414 (by decide) (v := (.int o0)) rfl (pc' := 424) rfl at_423 ?_
    refine go_icmp_ne C X409 at_424 (pc' := 427) (pc2 := 461) rfl (by decide) (by decide) (fun (c424 : ¬ o0 = o0) => False.elim (by first | exact c424 rfl | omega)) (fun (c424 : o0 = o0) => ?_)
    refine go_aload C X409 429 rfl at_427 rfl rfl ?_
    refine go_iconst C X409 430 rfl at_429 (z := 1) rfl ?_
    refine go_iaload C X409 A9 (by decide) (v := (.int o1)) rfl (pc' := 431) rfl at_430 ?_
    refine go_aload C X409 433 rfl at_431 rfl rfl ?_
    refine go_aload C X409 435 rfl at_433 rfl rfl ?_
    refine go_iload C X409 437 rfl at_435 rfl ?_
    refine go_iaload C X409 A412 (by decide) (v := (.int (1 : Int32))) rfl (pc' := 438) rfl at_437 ?_
    refine go_iaload C X409 A414 (by decide) (v := (.int o1)) rfl (pc' := 439) rfl at_438 ?_
    refine go_icmp_ne C X409 at_439 (pc' := 442) (pc2 := 461) rfl (by decide) (by decide) (fun (c439 : ¬ o1 = o1) => False.elim (by first | exact c439 rfl | omega)) (fun (c439 : o1 = o1) => ?_)
    refine go_aload C X409 444 rfl at_442 rfl rfl ?_
    refine go_iconst C X409 445 rfl at_444 (z := 2) rfl ?_
    refine go_iaload C X409 A9 (by decide) (v := (.int o3)) rfl (pc' := 446) rfl at_445 ?_
    refine go_aload C X409 448 rfl at_446 rfl rfl ?_
    refine go_aload C X409 450 rfl at_448 rfl rfl ?_
    refine go_iload C X409 452 rfl at_450 rfl ?_
    refine go_iaload C X409 A413 (by decide) (v := (.int (3 : Int32))) rfl (pc' := 453) rfl at_452 ?_
    refine go_iaload C X409 A414 (by decide) (v := (.int o3)) rfl (pc' := 454) rfl at_453 ?_
    refine go_icmp_ne C X409 at_454 (pc' := 457) (pc2 := 461) rfl (by decide) (by decide) (fun (c454 : ¬ o3 = o3) => False.elim (by first | exact c454 rfl | omega)) (fun (c454 : o3 = o3) => ?_)
    refine go_iconst C X409 458 rfl at_457 (z := 1) rfl ?_
    refine go_goto C X409 at_458 (pc' := 462) (by decide) (by decide) ?_
    exact go_retN C X409 (by simp) (z' := 1) rfl at_462 rfl (by decide) (by decide)
  · refine go_iconst C X355 313 rfl at_312 (z := 3) rfl ?_
    refine go_newarr C X355 (C.w 1 rfl) (cap := 3) (by decide) (by decide) (by decide) (by decide) (by decide) (pc' := 315) rfl at_313 (fun T417 h419 sba ha_sba ga_sba E420 A421  X418 => ?_)
    have ne_arr1_sba : arr1 ≠ sba := Nat.ne_of_lt (Nat.lt_of_lt_of_le A359.lt (Nat.le_of_eq ha_sba.symm))
    have ne_arr57_sba : arr57 ≠ sba := Nat.ne_of_lt (Nat.lt_of_lt_of_le A360.lt (Nat.le_of_eq ha_sba.symm))
    have ne_arr124_sba : arr124 ≠ sba := Nat.ne_of_lt (Nat.lt_of_lt_of_le A361.lt (Nat.le_of_eq ha_sba.symm))
    have ne_va_sba : va ≠ sba := Nat.ne_of_lt (Nat.lt_of_lt_of_le A362.lt (Nat.le_of_eq ha_sba.symm))
    have ne_ofa_sba : ofa ≠ sba := Nat.ne_of_lt (Nat.lt_of_lt_of_le A363.lt (Nat.le_of_eq ha_sba.symm))
    have ne_ixa_sba : ixa ≠ sba := Nat.ne_of_lt (Nat.lt_of_lt_of_le A358.lt (Nat.le_of_eq ha_sba.symm))
    have A422 := A359.ext E420
    have A423 := A360.ext E420
    have A424 := A361.ext E420
    have A425 := A362.ext E420
    have A426 := A363.ext E420
    have A427 := A358.ext E420
    replace A421 : La Z h419 sba .int ([(.int (0 : Int32)), (.int (0 : Int32)), (.int (0 : Int32))]) := A421
    refine go_dup C X418 316 rfl at_315 rfl ?_
    refine go_iconst C X418 317 rfl at_316 (z := 0) rfl ?_
    refine go_aload C X418 319 rfl at_317 rfl rfl ?_
    refine go_aload C X418 321 rfl at_319 rfl rfl ?_
    refine go_iloadN C X418 322 rfl at_321 rfl ?_
    refine go_iaload C X418 A422 (by decide) (v := (.int (0 : Int32))) rfl (pc' := 323) rfl at_322 ?_
    refine go_iaload C X418 A425 (by decide) (v := (.int o0)) rfl (pc' := 324) rfl at_323 ?_
    refine go_iastore C X418 A421 (by decide) (by show _ < (3 : Int); decide) ga_sba (pc' := 325) rfl at_324 (fun T428 h430 W431 A432 X429 => ?_)
    have A433 := A422.other W431 ne_arr1_sba
    have A434 := A423.other W431 ne_arr57_sba
    have A435 := A424.other W431 ne_arr124_sba
    have A436 := A425.other W431 ne_va_sba
    have A437 := A426.other W431 ne_ofa_sba
    have A438 := A427.other W431 ne_ixa_sba
    replace A432 : La Z h430 sba .int ([(.int o0), (.int (0 : Int32)), (.int (0 : Int32))]) := A432
    refine go_dup C X429 326 rfl at_325 rfl ?_
    refine go_iconst C X429 327 rfl at_326 (z := 1) rfl ?_
    refine go_aload C X429 329 rfl at_327 rfl rfl ?_
    refine go_aload C X429 331 rfl at_329 rfl rfl ?_
    refine go_iloadN C X429 332 rfl at_331 rfl ?_
    refine go_iaload C X429 A434 (by decide) (v := (.int (1 : Int32))) rfl (pc' := 333) rfl at_332 ?_
    refine go_iaload C X429 A436 (by decide) (v := (.int o1)) rfl (pc' := 334) rfl at_333 ?_
    refine go_iastore C X429 A432 (by decide) (by show _ < (3 : Int); decide) ga_sba (pc' := 335) rfl at_334 (fun T439 h441 W442 A443 X440 => ?_)
    have A444 := A433.other W442 ne_arr1_sba
    have A445 := A434.other W442 ne_arr57_sba
    have A446 := A435.other W442 ne_arr124_sba
    have A447 := A436.other W442 ne_va_sba
    have A448 := A437.other W442 ne_ofa_sba
    have A449 := A438.other W442 ne_ixa_sba
    replace A443 : La Z h441 sba .int ([(.int o0), (.int o1), (.int (0 : Int32))]) := A443
    refine go_dup C X440 336 rfl at_335 rfl ?_
    refine go_iconst C X440 337 rfl at_336 (z := 2) rfl ?_
    refine go_aload C X440 339 rfl at_337 rfl rfl ?_
    refine go_aload C X440 341 rfl at_339 rfl rfl ?_
    refine go_iloadN C X440 342 rfl at_341 rfl ?_
    refine go_iaload C X440 A446 (by decide) (v := (.int (3 : Int32))) rfl (pc' := 343) rfl at_342 ?_
    refine go_iaload C X440 A447 (by decide) (v := (.int o3)) rfl (pc' := 344) rfl at_343 ?_
    refine go_iastore C X440 A443 (by decide) (by show _ < (3 : Int); decide) ga_sba (pc' := 345) rfl at_344 (fun T450 h452 W453 A454 X451 => ?_)
    have A455 := A444.other W453 ne_arr1_sba
    have A456 := A445.other W453 ne_arr57_sba
    have A457 := A446.other W453 ne_arr124_sba
    have A458 := A447.other W453 ne_va_sba
    have A459 := A448.other W453 ne_ofa_sba
    have A460 := A449.other W453 ne_ixa_sba
    replace A454 : La Z h452 sba .int ([(.int o0), (.int o1), (.int o3)]) := A454
    refine go_astore C X451 347 rfl at_345 rfl #[iv c1, iv bs, iv gp, iv (1 : Int32), rv arr1, rv arr57, rv arr124, iv o0, iv o1, iv o2, iv o3, iv o4, rv va, rv ofa, rv ixa, rv sba, un, un] rfl ?_
    refine go_aload C X451 349 rfl at_347 rfl rfl ?_
    refine go_aload C X451 351 rfl at_349 rfl rfl ?_
    refine go_aload C X451 353 rfl at_351 rfl rfl ?_
    refine go_callS C X451 (C.w 2 rfl) (C.w 3 rfl) (C.w 4 rfl) (C.w 5 rfl) (own_next_1 l Z a0 C.ws sba ofa ixa ix o0 o1 o2 o3 o4 h452 n0 X451.old A454 A459 A460 ga_sba (Ne.symm ne_ofa_sba) (Ne.symm ne_ixa_sba) hl b0 e0 b1 e1 b2 e2 b3 e3 b4 e4) (argsL := [(.ref sba), (.ref ofa), (.ref ixa)]) (rest := []) (lenOf pd_0 rfl) rfl (by decide) (by decide) (Nat.le_of_ble_eq_true rfl) (by decide) (by decide) rfl rfl (pc' := 356) rfl at_353 ?_
    rintro T461 h463 _ ⟨rfl, K9, A9⟩ X462
    show Go p e below _ (T461.setTop (mkF m 356 #[iv c1, iv bs, iv gp, iv (1 : Int32), rv arr1, rv arr57, rv arr124, iv o0, iv o1, iv o2, iv o3, iv o4, rv va, rv ofa, rv ixa, rv sba, un, un] [(.int (1 : Int32))]))
    have A464 := A455.keep K9 (ninS ne_arr1_sba nin0)
    have A465 := A456.keep K9 (ninS ne_arr57_sba nin0)
    have A466 := A457.keep K9 (ninS ne_arr124_sba nin0)
    have A467 := A458.keep K9 (ninS ne_va_sba nin0)
    have A468 := A459.keep K9 (ninS ne_ofa_sba nin0)
    have A469 := A460.keep K9 (ninS ne_ixa_sba nin0)
    refine go_istore C X462 358 rfl at_356 #[iv c1, iv bs, iv gp, iv (1 : Int32), rv arr1, rv arr57, rv arr124, iv o0, iv o1, iv o2, iv o3, iv o4, rv va, rv ofa, rv ixa, rv sba, iv (1 : Int32), un] rfl ?_
    refine go_iloadN C X462 359 rfl at_358 rfl ?_
    refine go_bipush C X462 361 rfl at_359 (z := 9) rfl ?_
    refine go_icmp_ne C X462 at_361 (pc' := 364) (pc2 := 402) rfl (by decide) (by decide) (fun (c361 : ¬ (1 : Int32) = (9 : Int32)) => ?_) (fun (c361 : (1 : Int32) = (9 : Int32)) => False.elim (by first | omega | exact absurd c361 (by decide)))
    refine go_iloadN C X462 403 rfl at_402 rfl ?_
    refine go_iconst C X462 404 rfl at_403 (z := 1) rfl ?_
    refine go_iaddL C X462 405 rfl at_404 (z := (2)) rfl ?_
    refine go_istore C X462 407 rfl at_405 #[iv c1, iv bs, iv gp, iv (1 : Int32), rv arr1, rv arr57, rv arr124, iv o0, iv o1, iv o2, iv o3, iv o4, rv va, rv ofa, rv ixa, rv sba, iv (1 : Int32), iv (2 : Int32)] rfl ?_
    refine go_iload C X462 409 rfl at_407 rfl ?_
    refine go_if_eq C X462 at_409 (pc' := 412) (pc2 := 461) rfl (by decide) (by decide) (fun (c409 : (1 : Int32) = (0 : Int32)) => False.elim (by first | omega | exact absurd c409 (by decide))) (fun (c409 : ¬ (1 : Int32) = (0 : Int32)) => ?_)
    refine go_aload C X462 414 rfl at_412 rfl rfl ?_
    refine go_iconst C X462 415 rfl at_414 (z := 0) rfl ?_
    refine go_iaload C X462 A9 (by decide) (v := (.int o0)) rfl (pc' := 416) rfl at_415 ?_
    refine go_aload C X462 418 rfl at_416 rfl rfl ?_
    refine go_aload C X462 420 rfl at_418 rfl rfl ?_
    refine go_iload C X462 422 rfl at_420 rfl ?_
    refine go_iaload C X462 A464 (by decide) (v := (.int (0 : Int32))) rfl (pc' := 423) rfl at_422 ?_
    refine go_iaload C X462 A467 (by decide) (v := (.int o0)) rfl (pc' := 424) rfl at_423 ?_
    refine go_icmp_ne C X462 at_424 (pc' := 427) (pc2 := 461) rfl (by decide) (by decide) (fun (c424 : ¬ o0 = o0) => False.elim (by first | exact c424 rfl | omega)) (fun (c424 : o0 = o0) => ?_)
    refine go_aload C X462 429 rfl at_427 rfl rfl ?_
    refine go_iconst C X462 430 rfl at_429 (z := 1) rfl ?_
    refine go_iaload C X462 A9 (by decide) (v := (.int o1)) rfl (pc' := 431) rfl at_430 ?_
    refine go_aload C X462 433 rfl at_431 rfl rfl ?_
    refine go_aload C X462 435 rfl at_433 rfl rfl ?_
    refine go_iload C X462 437 rfl at_435 rfl ?_
    refine go_iaload C X462 A465 (by decide) (v := (.int (1 : Int32))) rfl (pc' := 438) rfl at_437 ?_
    refine go_iaload C X462 A467 (by decide) (v := (.int o1)) rfl (pc' := 439) rfl at_438 ?_
    refine go_icmp_ne C X462 at_439 (pc' := 442) (pc2 := 461) rfl (by decide) (by decide) (fun (c439 : ¬ o1 = o1) => False.elim (by first | exact c439 rfl | omega)) (fun (c439 : o1 = o1) => ?_)
    refine go_aload C X462 444 rfl at_442 rfl rfl ?_
    refine go_iconst C X462 445 rfl at_444 (z := 2) rfl ?_
    refine go_iaload C X462 A9 (by decide) (v := (.int o4)) rfl (pc' := 446) rfl at_445 ?_
    refine go_aload C X462 448 rfl at_446 rfl rfl ?_
    refine go_aload C X462 450 rfl at_448 rfl rfl ?_
    refine go_iload C X462 452 rfl at_450 rfl ?_
    refine go_iaload C X462 A466 (by decide) (v := (.int (4 : Int32))) rfl (pc' := 453) rfl at_452 ?_
    refine go_iaload C X462 A467 (by decide) (v := (.int o4)) rfl (pc' := 454) rfl at_453 ?_
    refine go_icmp_ne C X462 at_454 (pc' := 457) (pc2 := 461) rfl (by decide) (by decide) (fun (c454 : ¬ o4 = o4) => False.elim (by first | exact c454 rfl | omega)) (fun (c454 : o4 = o4) => ?_)
    refine go_iconst C X462 458 rfl at_457 (z := 1) rfl ?_
    refine go_goto C X462 at_458 (pc' := 462) (by decide) (by decide) ?_
    exact go_retN C X462 (by simp) (z' := 1) rfl at_462 rfl (by decide) (by decide)
  · refine go_iconst C X355 313 rfl at_312 (z := 3) rfl ?_
    refine go_newarr C X355 (C.w 1 rfl) (cap := 3) (by decide) (by decide) (by decide) (by decide) (by decide) (pc' := 315) rfl at_313 (fun T470 h472 sba ha_sba ga_sba E473 A474  X471 => ?_)
    have ne_arr1_sba : arr1 ≠ sba := Nat.ne_of_lt (Nat.lt_of_lt_of_le A359.lt (Nat.le_of_eq ha_sba.symm))
    have ne_arr57_sba : arr57 ≠ sba := Nat.ne_of_lt (Nat.lt_of_lt_of_le A360.lt (Nat.le_of_eq ha_sba.symm))
    have ne_arr124_sba : arr124 ≠ sba := Nat.ne_of_lt (Nat.lt_of_lt_of_le A361.lt (Nat.le_of_eq ha_sba.symm))
    have ne_va_sba : va ≠ sba := Nat.ne_of_lt (Nat.lt_of_lt_of_le A362.lt (Nat.le_of_eq ha_sba.symm))
    have ne_ofa_sba : ofa ≠ sba := Nat.ne_of_lt (Nat.lt_of_lt_of_le A363.lt (Nat.le_of_eq ha_sba.symm))
    have ne_ixa_sba : ixa ≠ sba := Nat.ne_of_lt (Nat.lt_of_lt_of_le A358.lt (Nat.le_of_eq ha_sba.symm))
    have A475 := A359.ext E473
    have A476 := A360.ext E473
    have A477 := A361.ext E473
    have A478 := A362.ext E473
    have A479 := A363.ext E473
    have A480 := A358.ext E473
    replace A474 : La Z h472 sba .int ([(.int (0 : Int32)), (.int (0 : Int32)), (.int (0 : Int32))]) := A474
    refine go_dup C X471 316 rfl at_315 rfl ?_
    refine go_iconst C X471 317 rfl at_316 (z := 0) rfl ?_
    refine go_aload C X471 319 rfl at_317 rfl rfl ?_
    refine go_aload C X471 321 rfl at_319 rfl rfl ?_
    refine go_iloadN C X471 322 rfl at_321 rfl ?_
    refine go_iaload C X471 A475 (by decide) (v := (.int (0 : Int32))) rfl (pc' := 323) rfl at_322 ?_
    refine go_iaload C X471 A478 (by decide) (v := (.int o0)) rfl (pc' := 324) rfl at_323 ?_
    refine go_iastore C X471 A474 (by decide) (by show _ < (3 : Int); decide) ga_sba (pc' := 325) rfl at_324 (fun T481 h483 W484 A485 X482 => ?_)
    have A486 := A475.other W484 ne_arr1_sba
    have A487 := A476.other W484 ne_arr57_sba
    have A488 := A477.other W484 ne_arr124_sba
    have A489 := A478.other W484 ne_va_sba
    have A490 := A479.other W484 ne_ofa_sba
    have A491 := A480.other W484 ne_ixa_sba
    replace A485 : La Z h483 sba .int ([(.int o0), (.int (0 : Int32)), (.int (0 : Int32))]) := A485
    refine go_dup C X482 326 rfl at_325 rfl ?_
    refine go_iconst C X482 327 rfl at_326 (z := 1) rfl ?_
    refine go_aload C X482 329 rfl at_327 rfl rfl ?_
    refine go_aload C X482 331 rfl at_329 rfl rfl ?_
    refine go_iloadN C X482 332 rfl at_331 rfl ?_
    refine go_iaload C X482 A487 (by decide) (v := (.int (1 : Int32))) rfl (pc' := 333) rfl at_332 ?_
    refine go_iaload C X482 A489 (by decide) (v := (.int o1)) rfl (pc' := 334) rfl at_333 ?_
    refine go_iastore C X482 A485 (by decide) (by show _ < (3 : Int); decide) ga_sba (pc' := 335) rfl at_334 (fun T492 h494 W495 A496 X493 => ?_)
    have A497 := A486.other W495 ne_arr1_sba
    have A498 := A487.other W495 ne_arr57_sba
    have A499 := A488.other W495 ne_arr124_sba
    have A500 := A489.other W495 ne_va_sba
    have A501 := A490.other W495 ne_ofa_sba
    have A502 := A491.other W495 ne_ixa_sba
    replace A496 : La Z h494 sba .int ([(.int o0), (.int o1), (.int (0 : Int32))]) := A496
    refine go_dup C X493 336 rfl at_335 rfl ?_
    refine go_iconst C X493 337 rfl at_336 (z := 2) rfl ?_
    refine go_aload C X493 339 rfl at_337 rfl rfl ?_
    refine go_aload C X493 341 rfl at_339 rfl rfl ?_
    refine go_iloadN C X493 342 rfl at_341 rfl ?_
    refine go_iaload C X493 A499 (by decide) (v := (.int (4 : Int32))) rfl (pc' := 343) rfl at_342 ?_
    refine go_iaload C X493 A500 (by decide) (v := (.int o4)) rfl (pc' := 344) rfl at_343 ?_
    refine go_iastore C X493 A496 (by decide) (by show _ < (3 : Int); decide) ga_sba (pc' := 345) rfl at_344 (fun T503 h505 W506 A507 X504 => ?_)
    have A508 := A497.other W506 ne_arr1_sba
    have A509 := A498.other W506 ne_arr57_sba
    have A510 := A499.other W506 ne_arr124_sba
    have A511 := A500.other W506 ne_va_sba
    have A512 := A501.other W506 ne_ofa_sba
    have A513 := A502.other W506 ne_ixa_sba
    replace A507 : La Z h505 sba .int ([(.int o0), (.int o1), (.int o4)]) := A507
    refine go_astore C X504 347 rfl at_345 rfl #[iv c1, iv bs, iv gp, iv (2 : Int32), rv arr1, rv arr57, rv arr124, iv o0, iv o1, iv o2, iv o3, iv o4, rv va, rv ofa, rv ixa, rv sba, un, un] rfl ?_
    refine go_aload C X504 349 rfl at_347 rfl rfl ?_
    refine go_aload C X504 351 rfl at_349 rfl rfl ?_
    refine go_aload C X504 353 rfl at_351 rfl rfl ?_
    refine go_callS C X504 (C.w 2 rfl) (C.w 3 rfl) (C.w 4 rfl) (C.w 5 rfl) (own_next_2 l Z a0 C.ws sba ofa ixa ix o0 o1 o2 o3 o4 h505 n0 X504.old A507 A512 A513 ga_sba (Ne.symm ne_ofa_sba) (Ne.symm ne_ixa_sba) hl b0 e0 b1 e1 b2 e2 b3 e3 b4 e4) (argsL := [(.ref sba), (.ref ofa), (.ref ixa)]) (rest := []) (lenOf pd_0 rfl) rfl (by decide) (by decide) (Nat.le_of_ble_eq_true rfl) (by decide) (by decide) rfl rfl (pc' := 356) rfl at_353 ?_
    rintro T514 h516 _ ⟨rfl, K9, A9⟩ X515
    show Go p e below _ (T514.setTop (mkF m 356 #[iv c1, iv bs, iv gp, iv (2 : Int32), rv arr1, rv arr57, rv arr124, iv o0, iv o1, iv o2, iv o3, iv o4, rv va, rv ofa, rv ixa, rv sba, un, un] [(.int (1 : Int32))]))
    have A517 := A508.keep K9 (ninS ne_arr1_sba nin0)
    have A518 := A509.keep K9 (ninS ne_arr57_sba nin0)
    have A519 := A510.keep K9 (ninS ne_arr124_sba nin0)
    have A520 := A511.keep K9 (ninS ne_va_sba nin0)
    have A521 := A512.keep K9 (ninS ne_ofa_sba nin0)
    have A522 := A513.keep K9 (ninS ne_ixa_sba nin0)
    refine go_istore C X515 358 rfl at_356 #[iv c1, iv bs, iv gp, iv (2 : Int32), rv arr1, rv arr57, rv arr124, iv o0, iv o1, iv o2, iv o3, iv o4, rv va, rv ofa, rv ixa, rv sba, iv (1 : Int32), un] rfl ?_
    refine go_iloadN C X515 359 rfl at_358 rfl ?_
    refine go_bipush C X515 361 rfl at_359 (z := 9) rfl ?_
    refine go_icmp_ne C X515 at_361 (pc' := 364) (pc2 := 402) rfl (by decide) (by decide) (fun (c361 : ¬ (2 : Int32) = (9 : Int32)) => ?_) (fun (c361 : (2 : Int32) = (9 : Int32)) => False.elim (by first | omega | exact absurd c361 (by decide)))
    refine go_iloadN C X515 403 rfl at_402 rfl ?_
    refine go_iconst C X515 404 rfl at_403 (z := 1) rfl ?_
    refine go_iaddL C X515 405 rfl at_404 (z := (3)) rfl ?_
    refine go_istore C X515 407 rfl at_405 #[iv c1, iv bs, iv gp, iv (2 : Int32), rv arr1, rv arr57, rv arr124, iv o0, iv o1, iv o2, iv o3, iv o4, rv va, rv ofa, rv ixa, rv sba, iv (1 : Int32), iv (3 : Int32)] rfl ?_
    refine go_iload C X515 409 rfl at_407 rfl ?_
    refine go_if_eq C X515 at_409 (pc' := 412) (pc2 := 461) rfl (by decide) (by decide) (fun (c409 : (1 : Int32) = (0 : Int32)) => False.elim (by first | omega | exact absurd c409 (by decide))) (fun (c409 : ¬ (1 : Int32) = (0 : Int32)) => ?_)
    refine go_aload C X515 414 rfl at_412 rfl rfl ?_
    refine go_iconst C X515 415 rfl at_414 (z := 0) rfl ?_
    refine go_iaload C X515 A9 (by decide) (v := (.int o0)) rfl (pc' := 416) rfl at_415 ?_
    refine go_aload C X515 418 rfl at_416 rfl rfl ?_
    refine go_aload C X515 420 rfl at_418 rfl rfl ?_
    refine go_iload C X515 422 rfl at_420 rfl ?_
    refine go_iaload C X515 A517 (by decide) (v := (.int (0 : Int32))) rfl (pc' := 423) rfl at_422 ?_
    refine go_iaload C X515 A520 (by decide) (v := (.int o0)) rfl (pc' := 424) rfl at_423 ?_
    refine go_icmp_ne C X515 at_424 (pc' := 427) (pc2 := 461) rfl (by decide) (by decide) (fun (c424 : ¬ o0 = o0) => False.elim (by first | exact c424 rfl | omega)) (fun (c424 : o0 = o0) => ?_)
    refine go_aload C X515 429 rfl at_427 rfl rfl ?_
    refine go_iconst C X515 430 rfl at_429 (z := 1) rfl ?_
    refine go_iaload C X515 A9 (by decide) (v := (.int o2)) rfl (pc' := 431) rfl at_430 ?_
    refine go_aload C X515 433 rfl at_431 rfl rfl ?_
    refine go_aload C X515 435 rfl at_433 rfl rfl ?_
    refine go_iload C X515 437 rfl at_435 rfl ?_
    refine go_iaload C X515 A518 (by decide) (v := (.int (2 : Int32))) rfl (pc' := 438) rfl at_437 ?_
    refine go_iaload C X515 A520 (by decide) (v := (.int o2)) rfl (pc' := 439) rfl at_438 ?_
    refine go_icmp_ne C X515 at_439 (pc' := 442) (pc2 := 461) rfl (by decide) (by decide) (fun (c439 : ¬ o2 = o2) => False.elim (by first | exact c439 rfl | omega)) (fun (c439 : o2 = o2) => ?_)
    refine go_aload C X515 444 rfl at_442 rfl rfl ?_
    refine go_iconst C X515 445 rfl at_444 (z := 2) rfl ?_
    refine go_iaload C X515 A9 (by decide) (v := (.int o3)) rfl (pc' := 446) rfl at_445 ?_
    refine go_aload C X515 448 rfl at_446 rfl rfl ?_
    refine go_aload C X515 450 rfl at_448 rfl rfl ?_
    refine go_iload C X515 452 rfl at_450 rfl ?_
    refine go_iaload C X515 A519 (by decide) (v := (.int (3 : Int32))) rfl (pc' := 453) rfl at_452 ?_
    refine go_iaload C X515 A520 (by decide) (v := (.int o3)) rfl (pc' := 454) rfl at_453 ?_
    refine go_icmp_ne C X515 at_454 (pc' := 457) (pc2 := 461) rfl (by decide) (by decide) (fun (c454 : ¬ o3 = o3) => False.elim (by first | exact c454 rfl | omega)) (fun (c454 : o3 = o3) => ?_)
    refine go_iconst C X515 458 rfl at_457 (z := 1) rfl ?_
    refine go_goto C X515 at_458 (pc' := 462) (by decide) (by decide) ?_
    exact go_retN C X515 (by simp) (z' := 1) rfl at_462 rfl (by decide) (by decide)
  · refine go_iconst C X355 313 rfl at_312 (z := 3) rfl ?_
    refine go_newarr C X355 (C.w 1 rfl) (cap := 3) (by decide) (by decide) (by decide) (by decide) (by decide) (pc' := 315) rfl at_313 (fun T523 h525 sba ha_sba ga_sba E526 A527  X524 => ?_)
    have ne_arr1_sba : arr1 ≠ sba := Nat.ne_of_lt (Nat.lt_of_lt_of_le A359.lt (Nat.le_of_eq ha_sba.symm))
    have ne_arr57_sba : arr57 ≠ sba := Nat.ne_of_lt (Nat.lt_of_lt_of_le A360.lt (Nat.le_of_eq ha_sba.symm))
    have ne_arr124_sba : arr124 ≠ sba := Nat.ne_of_lt (Nat.lt_of_lt_of_le A361.lt (Nat.le_of_eq ha_sba.symm))
    have ne_va_sba : va ≠ sba := Nat.ne_of_lt (Nat.lt_of_lt_of_le A362.lt (Nat.le_of_eq ha_sba.symm))
    have ne_ofa_sba : ofa ≠ sba := Nat.ne_of_lt (Nat.lt_of_lt_of_le A363.lt (Nat.le_of_eq ha_sba.symm))
    have ne_ixa_sba : ixa ≠ sba := Nat.ne_of_lt (Nat.lt_of_lt_of_le A358.lt (Nat.le_of_eq ha_sba.symm))
    have A528 := A359.ext E526
    have A529 := A360.ext E526
    have A530 := A361.ext E526
    have A531 := A362.ext E526
    have A532 := A363.ext E526
    have A533 := A358.ext E526
    replace A527 : La Z h525 sba .int ([(.int (0 : Int32)), (.int (0 : Int32)), (.int (0 : Int32))]) := A527
    refine go_dup C X524 316 rfl at_315 rfl ?_
    refine go_iconst C X524 317 rfl at_316 (z := 0) rfl ?_
    refine go_aload C X524 319 rfl at_317 rfl rfl ?_
    refine go_aload C X524 321 rfl at_319 rfl rfl ?_
    refine go_iloadN C X524 322 rfl at_321 rfl ?_
    refine go_iaload C X524 A528 (by decide) (v := (.int (0 : Int32))) rfl (pc' := 323) rfl at_322 ?_
    refine go_iaload C X524 A531 (by decide) (v := (.int o0)) rfl (pc' := 324) rfl at_323 ?_
    refine go_iastore C X524 A527 (by decide) (by show _ < (3 : Int); decide) ga_sba (pc' := 325) rfl at_324 (fun T534 h536 W537 A538 X535 => ?_)
    have A539 := A528.other W537 ne_arr1_sba
    have A540 := A529.other W537 ne_arr57_sba
    have A541 := A530.other W537 ne_arr124_sba
    have A542 := A531.other W537 ne_va_sba
    have A543 := A532.other W537 ne_ofa_sba
    have A544 := A533.other W537 ne_ixa_sba
    replace A538 : La Z h536 sba .int ([(.int o0), (.int (0 : Int32)), (.int (0 : Int32))]) := A538
    refine go_dup C X535 326 rfl at_325 rfl ?_
    refine go_iconst C X535 327 rfl at_326 (z := 1) rfl ?_
    refine go_aload C X535 329 rfl at_327 rfl rfl ?_
    refine go_aload C X535 331 rfl at_329 rfl rfl ?_
    refine go_iloadN C X535 332 rfl at_331 rfl ?_
    refine go_iaload C X535 A540 (by decide) (v := (.int (2 : Int32))) rfl (pc' := 333) rfl at_332 ?_
    refine go_iaload C X535 A542 (by decide) (v := (.int o2)) rfl (pc' := 334) rfl at_333 ?_
    refine go_iastore C X535 A538 (by decide) (by show _ < (3 : Int); decide) ga_sba (pc' := 335) rfl at_334 (fun T545 h547 W548 A549 X546 => ?_)
    have A550 := A539.other W548 ne_arr1_sba
    have A551 := A540.other W548 ne_arr57_sba
    have A552 := A541.other W548 ne_arr124_sba
    have A553 := A542.other W548 ne_va_sba
    have A554 := A543.other W548 ne_ofa_sba
    have A555 := A544.other W548 ne_ixa_sba
    replace A549 : La Z h547 sba .int ([(.int o0), (.int o2), (.int (0 : Int32))]) := A549
    refine go_dup C X546 336 rfl at_335 rfl ?_
    refine go_iconst C X546 337 rfl at_336 (z := 2) rfl ?_
    refine go_aload C X546 339 rfl at_337 rfl rfl ?_
    refine go_aload C X546 341 rfl at_339 rfl rfl ?_
    refine go_iloadN C X546 342 rfl at_341 rfl ?_
    refine go_iaload C X546 A552 (by decide) (v := (.int (3 : Int32))) rfl (pc' := 343) rfl at_342 ?_
    refine go_iaload C X546 A553 (by decide) (v := (.int o3)) rfl (pc' := 344) rfl at_343 ?_
    refine go_iastore C X546 A549 (by decide) (by show _ < (3 : Int); decide) ga_sba (pc' := 345) rfl at_344 (fun T556 h558 W559 A560 X557 => ?_)
    have A561 := A550.other W559 ne_arr1_sba
    have A562 := A551.other W559 ne_arr57_sba
    have A563 := A552.other W559 ne_arr124_sba
    have A564 := A553.other W559 ne_va_sba
    have A565 := A554.other W559 ne_ofa_sba
    have A566 := A555.other W559 ne_ixa_sba
    replace A560 : La Z h558 sba .int ([(.int o0), (.int o2), (.int o3)]) := A560
    refine go_astore C X557 347 rfl at_345 rfl #[iv c1, iv bs, iv gp, iv (3 : Int32), rv arr1, rv arr57, rv arr124, iv o0, iv o1, iv o2, iv o3, iv o4, rv va, rv ofa, rv ixa, rv sba, un, un] rfl ?_
    refine go_aload C X557 349 rfl at_347 rfl rfl ?_
    refine go_aload C X557 351 rfl at_349 rfl rfl ?_
    refine go_aload C X557 353 rfl at_351 rfl rfl ?_
    refine go_callS C X557 (C.w 2 rfl) (C.w 3 rfl) (C.w 4 rfl) (C.w 5 rfl) (own_next_3 l Z a0 C.ws sba ofa ixa ix o0 o1 o2 o3 o4 h558 n0 X557.old A560 A565 A566 ga_sba (Ne.symm ne_ofa_sba) (Ne.symm ne_ixa_sba) hl b0 e0 b1 e1 b2 e2 b3 e3 b4 e4) (argsL := [(.ref sba), (.ref ofa), (.ref ixa)]) (rest := []) (lenOf pd_0 rfl) rfl (by decide) (by decide) (Nat.le_of_ble_eq_true rfl) (by decide) (by decide) rfl rfl (pc' := 356) rfl at_353 ?_
    rintro T567 h569 _ ⟨rfl, K9, A9⟩ X568
    show Go p e below _ (T567.setTop (mkF m 356 #[iv c1, iv bs, iv gp, iv (3 : Int32), rv arr1, rv arr57, rv arr124, iv o0, iv o1, iv o2, iv o3, iv o4, rv va, rv ofa, rv ixa, rv sba, un, un] [(.int (1 : Int32))]))
    have A570 := A561.keep K9 (ninS ne_arr1_sba nin0)
    have A571 := A562.keep K9 (ninS ne_arr57_sba nin0)
    have A572 := A563.keep K9 (ninS ne_arr124_sba nin0)
    have A573 := A564.keep K9 (ninS ne_va_sba nin0)
    have A574 := A565.keep K9 (ninS ne_ofa_sba nin0)
    have A575 := A566.keep K9 (ninS ne_ixa_sba nin0)
    refine go_istore C X568 358 rfl at_356 #[iv c1, iv bs, iv gp, iv (3 : Int32), rv arr1, rv arr57, rv arr124, iv o0, iv o1, iv o2, iv o3, iv o4, rv va, rv ofa, rv ixa, rv sba, iv (1 : Int32), un] rfl ?_
    refine go_iloadN C X568 359 rfl at_358 rfl ?_
    refine go_bipush C X568 361 rfl at_359 (z := 9) rfl ?_
    refine go_icmp_ne C X568 at_361 (pc' := 364) (pc2 := 402) rfl (by decide) (by decide) (fun (c361 : ¬ (3 : Int32) = (9 : Int32)) => ?_) (fun (c361 : (3 : Int32) = (9 : Int32)) => False.elim (by first | omega | exact absurd c361 (by decide)))
    refine go_iloadN C X568 403 rfl at_402 rfl ?_
    refine go_iconst C X568 404 rfl at_403 (z := 1) rfl ?_
    refine go_iaddL C X568 405 rfl at_404 (z := (4)) rfl ?_
    refine go_istore C X568 407 rfl at_405 #[iv c1, iv bs, iv gp, iv (3 : Int32), rv arr1, rv arr57, rv arr124, iv o0, iv o1, iv o2, iv o3, iv o4, rv va, rv ofa, rv ixa, rv sba, iv (1 : Int32), iv (4 : Int32)] rfl ?_
    refine go_iload C X568 409 rfl at_407 rfl ?_
    refine go_if_eq C X568 at_409 (pc' := 412) (pc2 := 461) rfl (by decide) (by decide) (fun (c409 : (1 : Int32) = (0 : Int32)) => False.elim (by first | omega | exact absurd c409 (by decide))) (fun (c409 : ¬ (1 : Int32) = (0 : Int32)) => ?_)
    refine go_aload C X568 414 rfl at_412 rfl rfl ?_
    refine go_iconst C X568 415 rfl at_414 (z := 0) rfl ?_
    refine go_iaload C X568 A9 (by decide) (v := (.int o0)) rfl (pc' := 416) rfl at_415 ?_
    refine go_aload C X568 418 rfl at_416 rfl rfl ?_
    refine go_aload C X568 420 rfl at_418 rfl rfl ?_
    refine go_iload C X568 422 rfl at_420 rfl ?_
    refine go_iaload C X568 A570 (by decide) (v := (.int (0 : Int32))) rfl (pc' := 423) rfl at_422 ?_
    refine go_iaload C X568 A573 (by decide) (v := (.int o0)) rfl (pc' := 424) rfl at_423 ?_
    refine go_icmp_ne C X568 at_424 (pc' := 427) (pc2 := 461) rfl (by decide) (by decide) (fun (c424 : ¬ o0 = o0) => False.elim (by first | exact c424 rfl | omega)) (fun (c424 : o0 = o0) => ?_)
    refine go_aload C X568 429 rfl at_427 rfl rfl ?_
    refine go_iconst C X568 430 rfl at_429 (z := 1) rfl ?_
    refine go_iaload C X568 A9 (by decide) (v := (.int o2)) rfl (pc' := 431) rfl at_430 ?_
    refine go_aload C X568 433 rfl at_431 rfl rfl ?_
    refine go_aload C X568 435 rfl at_433 rfl rfl ?_
    refine go_iload C X568 437 rfl at_435 rfl ?_
    refine go_iaload C X568 A571 (by decide) (v := (.int (2 : Int32))) rfl (pc' := 438) rfl at_437 ?_
    refine go_iaload C X568 A573 (by decide) (v := (.int o2)) rfl (pc' := 439) rfl at_438 ?_
    refine go_icmp_ne C X568 at_439 (pc' := 442) (pc2 := 461) rfl (by decide) (by decide) (fun (c439 : ¬ o2 = o2) => False.elim (by first | exact c439 rfl | omega)) (fun (c439 : o2 = o2) => ?_)
    refine go_aload C X568 444 rfl at_442 rfl rfl ?_
    refine go_iconst C X568 445 rfl at_444 (z := 2) rfl ?_
    refine go_iaload C X568 A9 (by decide) (v := (.int o4)) rfl (pc' := 446) rfl at_445 ?_
    refine go_aload C X568 448 rfl at_446 rfl rfl ?_
    refine go_aload C X568 450 rfl at_448 rfl rfl ?_
    refine go_iload C X568 452 rfl at_450 rfl ?_
    refine go_iaload C X568 A572 (by decide) (v := (.int (4 : Int32))) rfl (pc' := 453) rfl at_452 ?_
    refine go_iaload C X568 A573 (by decide) (v := (.int o4)) rfl (pc' := 454) rfl at_453 ?_
    refine go_icmp_ne C X568 at_454 (pc' := 457) (pc2 := 461) rfl (by decide) (by decide) (fun (c454 : ¬ o4 = o4) => False.elim (by first | exact c454 rfl | omega)) (fun (c454 : o4 = o4) => ?_)
    refine go_iconst C X568 458 rfl at_457 (z := 1) rfl ?_
    refine go_goto C X568 at_458 (pc' := 462) (by decide) (by decide) ?_
    exact go_retN C X568 (by simp) (z' := 1) rfl at_462 rfl (by decide) (by decide)
  · refine go_iconst C X355 313 rfl at_312 (z := 3) rfl ?_
    refine go_newarr C X355 (C.w 1 rfl) (cap := 3) (by decide) (by decide) (by decide) (by decide) (by decide) (pc' := 315) rfl at_313 (fun T576 h578 sba ha_sba ga_sba E579 A580  X577 => ?_)
    have ne_arr1_sba : arr1 ≠ sba := Nat.ne_of_lt (Nat.lt_of_lt_of_le A359.lt (Nat.le_of_eq ha_sba.symm))
    have ne_arr57_sba : arr57 ≠ sba := Nat.ne_of_lt (Nat.lt_of_lt_of_le A360.lt (Nat.le_of_eq ha_sba.symm))
    have ne_arr124_sba : arr124 ≠ sba := Nat.ne_of_lt (Nat.lt_of_lt_of_le A361.lt (Nat.le_of_eq ha_sba.symm))
    have ne_va_sba : va ≠ sba := Nat.ne_of_lt (Nat.lt_of_lt_of_le A362.lt (Nat.le_of_eq ha_sba.symm))
    have ne_ofa_sba : ofa ≠ sba := Nat.ne_of_lt (Nat.lt_of_lt_of_le A363.lt (Nat.le_of_eq ha_sba.symm))
    have ne_ixa_sba : ixa ≠ sba := Nat.ne_of_lt (Nat.lt_of_lt_of_le A358.lt (Nat.le_of_eq ha_sba.symm))
    have A581 := A359.ext E579
    have A582 := A360.ext E579
    have A583 := A361.ext E579
    have A584 := A362.ext E579
    have A585 := A363.ext E579
    have A586 := A358.ext E579
    replace A580 : La Z h578 sba .int ([(.int (0 : Int32)), (.int (0 : Int32)), (.int (0 : Int32))]) := A580
    refine go_dup C X577 316 rfl at_315 rfl ?_
    refine go_iconst C X577 317 rfl at_316 (z := 0) rfl ?_
    refine go_aload C X577 319 rfl at_317 rfl rfl ?_
    refine go_aload C X577 321 rfl at_319 rfl rfl ?_
    refine go_iloadN C X577 322 rfl at_321 rfl ?_
    refine go_iaload C X577 A581 (by decide) (v := (.int (0 : Int32))) rfl (pc' := 323) rfl at_322 ?_
    refine go_iaload C X577 A584 (by decide) (v := (.int o0)) rfl (pc' := 324) rfl at_323 ?_
    refine go_iastore C X577 A580 (by decide) (by show _ < (3 : Int); decide) ga_sba (pc' := 325) rfl at_324 (fun T587 h589 W590 A591 X588 => ?_)
    have A592 := A581.other W590 ne_arr1_sba
    have A593 := A582.other W590 ne_arr57_sba
    have A594 := A583.other W590 ne_arr124_sba
    have A595 := A584.other W590 ne_va_sba
    have A596 := A585.other W590 ne_ofa_sba
    have A597 := A586.other W590 ne_ixa_sba
    replace A591 : La Z h589 sba .int ([(.int o0), (.int (0 : Int32)), (.int (0 : Int32))]) := A591
    refine go_dup C X588 326 rfl at_325 rfl ?_
    refine go_iconst C X588 327 rfl at_326 (z := 1) rfl ?_
    refine go_aload C X588 329 rfl at_327 rfl rfl ?_
    refine go_aload C X588 331 rfl at_329 rfl rfl ?_
    refine go_iloadN C X588 332 rfl at_331 rfl ?_
    refine go_iaload C X588 A593 (by decide) (v := (.int (2 : Int32))) rfl (pc' := 333) rfl at_332 ?_
    refine go_iaload C X588 A595 (by decide) (v := (.int o2)) rfl (pc' := 334) rfl at_333 ?_
    refine go_iastore C X588 A591 (by decide) (by show _ < (3 : Int); decide) ga_sba (pc' := 335) rfl at_334 (fun T598 h600 W601 A602 X599 => ?_)
    have A603 := A592.other W601 ne_arr1_sba
    have A604 := A593.other W601 ne_arr57_sba
    have A605 := A594.other W601 ne_arr124_sba
    have A606 := A595.other W601 ne_va_sba
    have A607 := A596.other W601 ne_ofa_sba
    have A608 := A597.other W601 ne_ixa_sba
    replace A602 : La Z h600 sba .int ([(.int o0), (.int o2), (.int (0 : Int32))]) := A602
    refine go_dup C X599 336 rfl at_335 rfl ?_
    refine go_iconst C X599 337 rfl at_336 (z := 2) rfl ?_
    refine go_aload C X599 339 rfl at_337 rfl rfl ?_
    refine go_aload C X599 341 rfl at_339 rfl rfl ?_
    refine go_iloadN C X599 342 rfl at_341 rfl ?_
    refine go_iaload C X599 A605 (by decide) (v := (.int (4 : Int32))) rfl (pc' := 343) rfl at_342 ?_
    refine go_iaload C X599 A606 (by decide) (v := (.int o4)) rfl (pc' := 344) rfl at_343 ?_
    refine go_iastore C X599 A602 (by decide) (by show _ < (3 : Int); decide) ga_sba (pc' := 345) rfl at_344 (fun T609 h611 W612 A613 X610 => ?_)
    have A614 := A603.other W612 ne_arr1_sba
    have A615 := A604.other W612 ne_arr57_sba
    have A616 := A605.other W612 ne_arr124_sba
    have A617 := A606.other W612 ne_va_sba
    have A618 := A607.other W612 ne_ofa_sba
    have A619 := A608.other W612 ne_ixa_sba
    replace A613 : La Z h611 sba .int ([(.int o0), (.int o2), (.int o4)]) := A613
    refine go_astore C X610 347 rfl at_345 rfl #[iv c1, iv bs, iv gp, iv (4 : Int32), rv arr1, rv arr57, rv arr124, iv o0, iv o1, iv o2, iv o3, iv o4, rv va, rv ofa, rv ixa, rv sba, un, un] rfl ?_
    refine go_aload C X610 349 rfl at_347 rfl rfl ?_
    refine go_aload C X610 351 rfl at_349 rfl rfl ?_
    refine go_aload C X610 353 rfl at_351 rfl rfl ?_
    refine go_callS C X610 (C.w 2 rfl) (C.w 3 rfl) (C.w 4 rfl) (C.w 5 rfl) (own_next_4 l Z a0 C.ws sba ofa ixa ix o0 o1 o2 o3 o4 h611 n0 X610.old A613 A618 A619 ga_sba (Ne.symm ne_ofa_sba) (Ne.symm ne_ixa_sba) hl b0 e0 b1 e1 b2 e2 b3 e3 b4 e4) (argsL := [(.ref sba), (.ref ofa), (.ref ixa)]) (rest := []) (lenOf pd_0 rfl) rfl (by decide) (by decide) (Nat.le_of_ble_eq_true rfl) (by decide) (by decide) rfl rfl (pc' := 356) rfl at_353 ?_
    rintro T620 h622 _ ⟨rfl, K9, A9⟩ X621
    show Go p e below _ (T620.setTop (mkF m 356 #[iv c1, iv bs, iv gp, iv (4 : Int32), rv arr1, rv arr57, rv arr124, iv o0, iv o1, iv o2, iv o3, iv o4, rv va, rv ofa, rv ixa, rv sba, un, un] [(.int (1 : Int32))]))
    have A623 := A614.keep K9 (ninS ne_arr1_sba nin0)
    have A624 := A615.keep K9 (ninS ne_arr57_sba nin0)
    have A625 := A616.keep K9 (ninS ne_arr124_sba nin0)
    have A626 := A617.keep K9 (ninS ne_va_sba nin0)
    have A627 := A618.keep K9 (ninS ne_ofa_sba nin0)
    have A628 := A619.keep K9 (ninS ne_ixa_sba nin0)
    refine go_istore C X621 358 rfl at_356 #[iv c1, iv bs, iv gp, iv (4 : Int32), rv arr1, rv arr57, rv arr124, iv o0, iv o1, iv o2, iv o3, iv o4, rv va, rv ofa, rv ixa, rv sba, iv (1 : Int32), un] rfl ?_
    refine go_iloadN C X621 359 rfl at_358 rfl ?_
    refine go_bipush C X621 361 rfl at_359 (z := 9) rfl ?_
    refine go_icmp_ne C X621 at_361 (pc' := 364) (pc2 := 402) rfl (by decide) (by decide) (fun (c361 : ¬ (4 : Int32) = (9 : Int32)) => ?_) (fun (c361 : (4 : Int32) = (9 : Int32)) => False.elim (by first | omega | exact absurd c361 (by decide)))
    refine go_iloadN C X621 403 rfl at_402 rfl ?_
    refine go_iconst C X621 404 rfl at_403 (z := 1) rfl ?_
    refine go_iaddL C X621 405 rfl at_404 (z := (5)) rfl ?_
    refine go_istore C X621 407 rfl at_405 #[iv c1, iv bs, iv gp, iv (4 : Int32), rv arr1, rv arr57, rv arr124, iv o0, iv o1, iv o2, iv o3, iv o4, rv va, rv ofa, rv ixa, rv sba, iv (1 : Int32), iv (5 : Int32)] rfl ?_
    refine go_iload C X621 409 rfl at_407 rfl ?_
    refine go_if_eq C X621 at_409 (pc' := 412) (pc2 := 461) rfl (by decide) (by decide) (fun (c409 : (1 : Int32) = (0 : Int32)) => False.elim (by first | omega | exact absurd c409 (by decide))) (fun (c409 : ¬ (1 : Int32) = (0 : Int32)) => ?_)
    refine go_aload C X621 414 rfl at_412 rfl rfl ?_
    refine go_iconst C X621 415 rfl at_414 (z := 0) rfl ?_
    refine go_iaload C X621 A9 (by decide) (v := (.int o0)) rfl (pc' := 416) rfl at_415 ?_
    refine go_aload C X621 418 rfl at_416 rfl rfl ?_
    refine go_aload C X621 420 rfl at_418 rfl rfl ?_
    refine go_iload C X621 422 rfl at_420 rfl ?_
    refine go_iaload C X621 A623 (by decide) (v := (.int (0 : Int32))) rfl (pc' := 423) rfl at_422 ?_
    refine go_iaload C X621 A626 (by decide) (v := (.int o0)) rfl (pc' := 424) rfl at_423 ?_
    refine go_icmp_ne C X621 at_424 (pc' := 427) (pc2 := 461) rfl (by decide) (by decide) (fun (c424 : ¬ o0 = o0) => False.elim (by first | exact c424 rfl | omega)) (fun (c424 : o0 = o0) => ?_)
    refine go_aload C X621 429 rfl at_427 rfl rfl ?_
    refine go_iconst C X621 430 rfl at_429 (z := 1) rfl ?_
    refine go_iaload C X621 A9 (by decide) (v := (.int o3)) rfl (pc' := 431) rfl at_430 ?_
    refine go_aload C X621 433 rfl at_431 rfl rfl ?_
    refine go_aload C X621 435 rfl at_433 rfl rfl ?_
    refine go_iload C X621 437 rfl at_435 rfl ?_
    refine go_iaload C X621 A624 (by decide) (v := (.int (3 : Int32))) rfl (pc' := 438) rfl at_437 ?_
    refine go_iaload C X621 A626 (by decide) (v := (.int o3)) rfl (pc' := 439) rfl at_438 ?_
    refine go_icmp_ne C X621 at_439 (pc' := 442) (pc2 := 461) rfl (by decide) (by decide) (fun (c439 : ¬ o3 = o3) => False.elim (by first | exact c439 rfl | omega)) (fun (c439 : o3 = o3) => ?_)
    refine go_aload C X621 444 rfl at_442 rfl rfl ?_
    refine go_iconst C X621 445 rfl at_444 (z := 2) rfl ?_
    refine go_iaload C X621 A9 (by decide) (v := (.int o4)) rfl (pc' := 446) rfl at_445 ?_
    refine go_aload C X621 448 rfl at_446 rfl rfl ?_
    refine go_aload C X621 450 rfl at_448 rfl rfl ?_
    refine go_iload C X621 452 rfl at_450 rfl ?_
    refine go_iaload C X621 A625 (by decide) (v := (.int (4 : Int32))) rfl (pc' := 453) rfl at_452 ?_
    refine go_iaload C X621 A626 (by decide) (v := (.int o4)) rfl (pc' := 454) rfl at_453 ?_
    refine go_icmp_ne C X621 at_454 (pc' := 457) (pc2 := 461) rfl (by decide) (by decide) (fun (c454 : ¬ o4 = o4) => False.elim (by first | exact c454 rfl | omega)) (fun (c454 : o4 = o4) => ?_)
    refine go_iconst C X621 458 rfl at_457 (z := 1) rfl ?_
    refine go_goto C X621 at_458 (pc' := 462) (by decide) (by decide) ?_
    exact go_retN C X621 (by simp) (z' := 1) rfl at_462 rfl (by decide) (by decide)
  · refine go_iconst C X355 313 rfl at_312 (z := 3) rfl ?_
    refine go_newarr C X355 (C.w 1 rfl) (cap := 3) (by decide) (by decide) (by decide) (by decide) (by decide) (pc' := 315) rfl at_313 (fun T629 h631 sba ha_sba ga_sba E632 A633  X630 => ?_)
    have ne_arr1_sba : arr1 ≠ sba := Nat.ne_of_lt (Nat.lt_of_lt_of_le A359.lt (Nat.le_of_eq ha_sba.symm))
    have ne_arr57_sba : arr57 ≠ sba := Nat.ne_of_lt (Nat.lt_of_lt_of_le A360.lt (Nat.le_of_eq ha_sba.symm))
    have ne_arr124_sba : arr124 ≠ sba := Nat.ne_of_lt (Nat.lt_of_lt_of_le A361.lt (Nat.le_of_eq ha_sba.symm))
    have ne_va_sba : va ≠ sba := Nat.ne_of_lt (Nat.lt_of_lt_of_le A362.lt (Nat.le_of_eq ha_sba.symm))
    have ne_ofa_sba : ofa ≠ sba := Nat.ne_of_lt (Nat.lt_of_lt_of_le A363.lt (Nat.le_of_eq ha_sba.symm))
    have ne_ixa_sba : ixa ≠ sba := Nat.ne_of_lt (Nat.lt_of_lt_of_le A358.lt (Nat.le_of_eq ha_sba.symm))
    have A634 := A359.ext E632
    have A635 := A360.ext E632
    have A636 := A361.ext E632
    have A637 := A362.ext E632
    have A638 := A363.ext E632
    have A639 := A358.ext E632
    replace A633 : La Z h631 sba .int ([(.int (0 : Int32)), (.int (0 : Int32)), (.int (0 : Int32))]) := A633
    refine go_dup C X630 316 rfl at_315 rfl ?_
    refine go_iconst C X630 317 rfl at_316 (z := 0) rfl ?_
    refine go_aload C X630 319 rfl at_317 rfl rfl ?_
    refine go_aload C X630 321 rfl at_319 rfl rfl ?_
    refine go_iloadN C X630 322 rfl at_321 rfl ?_
    refine go_iaload C X630 A634 (by decide) (v := (.int (0 : Int32))) rfl (pc' := 323) rfl at_322 ?_
    refine go_iaload C X630 A637 (by decide) (v := (.int o0)) rfl (pc' := 324) rfl at_323 ?_
    refine go_iastore C X630 A633 (by decide) (by show _ < (3 : Int); decide) ga_sba (pc' := 325) rfl at_324 (fun T640 h642 W643 A644 X641 => ?_)
    have A645 := A634.other W643 ne_arr1_sba
    have A646 := A635.other W643 ne_arr57_sba
    have A647 := A636.other W643 ne_arr124_sba
    have A648 := A637.other W643 ne_va_sba
    have A649 := A638.other W643 ne_ofa_sba
    have A650 := A639.other W643 ne_ixa_sba
    replace A644 : La Z h642 sba .int ([(.int o0), (.int (0 : Int32)), (.int (0 : Int32))]) := A644
    refine go_dup C X641 326 rfl at_325 rfl ?_
    refine go_iconst C X641 327 rfl at_326 (z := 1) rfl ?_
    refine go_aload C X641 329 rfl at_327 rfl rfl ?_
    refine go_aload C X641 331 rfl at_329 rfl rfl ?_
    refine go_iloadN C X641 332 rfl at_331 rfl ?_
    refine go_iaload C X641 A646 (by decide) (v := (.int (3 : Int32))) rfl (pc' := 333) rfl at_332 ?_
    refine go_iaload C X641 A648 (by decide) (v := (.int o3)) rfl (pc' := 334) rfl at_333 ?_
    refine go_iastore C X641 A644 (by decide) (by show _ < (3 : Int); decide) ga_sba (pc' := 335) rfl at_334 (fun T651 h653 W654 A655 X652 => ?_)
    have A656 := A645.other W654 ne_arr1_sba
    have A657 := A646.other W654 ne_arr57_sba
    have A658 := A647.other W654 ne_arr124_sba
    have A659 := A648.other W654 ne_va_sba
    have A660 := A649.other W654 ne_ofa_sba
    have A661 := A650.other W654 ne_ixa_sba
    replace A655 : La Z h653 sba .int ([(.int o0), (.int o3), (.int (0 : Int32))]) := A655
    refine go_dup C X652 336 rfl at_335 rfl ?_
    refine go_iconst C X652 337 rfl at_336 (z := 2) rfl ?_
    refine go_aload C X652 339 rfl at_337 rfl rfl ?_
    refine go_aload C X652 341 rfl at_339 rfl rfl ?_
    refine go_iloadN C X652 342 rfl at_341 rfl ?_
    refine go_iaload C X652 A658 (by decide) (v := (.int (4 : Int32))) rfl (pc' := 343) rfl at_342 ?_
    refine go_iaload C X652 A659 (by decide) (v := (.int o4)) rfl (pc' := 344) rfl at_343 ?_
    refine go_iastore C X652 A655 (by decide) (by show _ < (3 : Int); decide) ga_sba (pc' := 345) rfl at_344 (fun T662 h664 W665 A666 X663 => ?_)
    have A667 := A656.other W665 ne_arr1_sba
    have A668 := A657.other W665 ne_arr57_sba
    have A669 := A658.other W665 ne_arr124_sba
    have A670 := A659.other W665 ne_va_sba
    have A671 := A660.other W665 ne_ofa_sba
    have A672 := A661.other W665 ne_ixa_sba
    replace A666 : La Z h664 sba .int ([(.int o0), (.int o3), (.int o4)]) := A666
    refine go_astore C X663 347 rfl at_345 rfl #[iv c1, iv bs, iv gp, iv (5 : Int32), rv arr1, rv arr57, rv arr124, iv o0, iv o1, iv o2, iv o3, iv o4, rv va, rv ofa, rv ixa, rv sba, un, un] rfl ?_
    refine go_aload C X663 349 rfl at_347 rfl rfl ?_
    refine go_aload C X663 351 rfl at_349 rfl rfl ?_
    refine go_aload C X663 353 rfl at_351 rfl rfl ?_
    refine go_callS C X663 (C.w 2 rfl) (C.w 3 rfl) (C.w 4 rfl) (C.w 5 rfl) (own_next_5 l Z a0 C.ws sba ofa ixa ix o0 o1 o2 o3 o4 h664 n0 X663.old A666 A671 A672 ga_sba (Ne.symm ne_ofa_sba) (Ne.symm ne_ixa_sba) hl b0 e0 b1 e1 b2 e2 b3 e3 b4 e4) (argsL := [(.ref sba), (.ref ofa), (.ref ixa)]) (rest := []) (lenOf pd_0 rfl) rfl (by decide) (by decide) (Nat.le_of_ble_eq_true rfl) (by decide) (by decide) rfl rfl (pc' := 356) rfl at_353 ?_
    rintro T673 h675 _ ⟨rfl, K9, A9⟩ X674
    show Go p e below _ (T673.setTop (mkF m 356 #[iv c1, iv bs, iv gp, iv (5 : Int32), rv arr1, rv arr57, rv arr124, iv o0, iv o1, iv o2, iv o3, iv o4, rv va, rv ofa, rv ixa, rv sba, un, un] [(.int (1 : Int32))]))
    have A676 := A667.keep K9 (ninS ne_arr1_sba nin0)
    have A677 := A668.keep K9 (ninS ne_arr57_sba nin0)
    have A678 := A669.keep K9 (ninS ne_arr124_sba nin0)
    have A679 := A670.keep K9 (ninS ne_va_sba nin0)
    have A680 := A671.keep K9 (ninS ne_ofa_sba nin0)
    have A681 := A672.keep K9 (ninS ne_ixa_sba nin0)
    refine go_istore C X674 358 rfl at_356 #[iv c1, iv bs, iv gp, iv (5 : Int32), rv arr1, rv arr57, rv arr124, iv o0, iv o1, iv o2, iv o3, iv o4, rv va, rv ofa, rv ixa, rv sba, iv (1 : Int32), un] rfl ?_
    refine go_iloadN C X674 359 rfl at_358 rfl ?_
    refine go_bipush C X674 361 rfl at_359 (z := 9) rfl ?_
    refine go_icmp_ne C X674 at_361 (pc' := 364) (pc2 := 402) rfl (by decide) (by decide) (fun (c361 : ¬ (5 : Int32) = (9 : Int32)) => ?_) (fun (c361 : (5 : Int32) = (9 : Int32)) => False.elim (by first | omega | exact absurd c361 (by decide)))
    refine go_iloadN C X674 403 rfl at_402 rfl ?_
    refine go_iconst C X674 404 rfl at_403 (z := 1) rfl ?_
    refine go_iaddL C X674 405 rfl at_404 (z := (6)) rfl ?_
    refine go_istore C X674 407 rfl at_405 #[iv c1, iv bs, iv gp, iv (5 : Int32), rv arr1, rv arr57, rv arr124, iv o0, iv o1, iv o2, iv o3, iv o4, rv va, rv ofa, rv ixa, rv sba, iv (1 : Int32), iv (6 : Int32)] rfl ?_
    refine go_iload C X674 409 rfl at_407 rfl ?_
    refine go_if_eq C X674 at_409 (pc' := 412) (pc2 := 461) rfl (by decide) (by decide) (fun (c409 : (1 : Int32) = (0 : Int32)) => False.elim (by first | omega | exact absurd c409 (by decide))) (fun (c409 : ¬ (1 : Int32) = (0 : Int32)) => ?_)
    refine go_aload C X674 414 rfl at_412 rfl rfl ?_
    refine go_iconst C X674 415 rfl at_414 (z := 0) rfl ?_
    refine go_iaload C X674 A9 (by decide) (v := (.int o1)) rfl (pc' := 416) rfl at_415 ?_
    refine go_aload C X674 418 rfl at_416 rfl rfl ?_
    refine go_aload C X674 420 rfl at_418 rfl rfl ?_
    refine go_iload C X674 422 rfl at_420 rfl ?_
    refine go_iaload C X674 A676 (by decide) (v := (.int (1 : Int32))) rfl (pc' := 423) rfl at_422 ?_
    refine go_iaload C X674 A679 (by decide) (v := (.int o1)) rfl (pc' := 424) rfl at_423 ?_
    refine go_icmp_ne C X674 at_424 (pc' := 427) (pc2 := 461) rfl (by decide) (by decide) (fun (c424 : ¬ o1 = o1) => False.elim (by first | exact c424 rfl | omega)) (fun (c424 : o1 = o1) => ?_)
    refine go_aload C X674 429 rfl at_427 rfl rfl ?_
    refine go_iconst C X674 430 rfl at_429 (z := 1) rfl ?_
    refine go_iaload C X674 A9 (by decide) (v := (.int o2)) rfl (pc' := 431) rfl at_430 ?_
    refine go_aload C X674 433 rfl at_431 rfl rfl ?_
    refine go_aload C X674 435 rfl at_433 rfl rfl ?_
    refine go_iload C X674 437 rfl at_435 rfl ?_
    refine go_iaload C X674 A677 (by decide) (v := (.int (2 : Int32))) rfl (pc' := 438) rfl at_437 ?_
    refine go_iaload C X674 A679 (by decide) (v := (.int o2)) rfl (pc' := 439) rfl at_438 ?_
    refine go_icmp_ne C X674 at_439 (pc' := 442) (pc2 := 461) rfl (by decide) (by decide) (fun (c439 : ¬ o2 = o2) => False.elim (by first | exact c439 rfl | omega)) (fun (c439 : o2 = o2) => ?_)
    refine go_aload C X674 444 rfl at_442 rfl rfl ?_
    refine go_iconst C X674 445 rfl at_444 (z := 2) rfl ?_
    refine go_iaload C X674 A9 (by decide) (v := (.int o3)) rfl (pc' := 446) rfl at_445 ?_
    refine go_aload C X674 448 rfl at_446 rfl rfl ?_
    refine go_aload C X674 450 rfl at_448 rfl rfl ?_
    refine go_iload C X674 452 rfl at_450 rfl ?_
    refine go_iaload C X674 A678 (by decide) (v := (.int (3 : Int32))) rfl (pc' := 453) rfl at_452 ?_
    refine go_iaload C X674 A679 (by decide) (v := (.int o3)) rfl (pc' := 454) rfl at_453 ?_
    refine go_icmp_ne C X674 at_454 (pc' := 457) (pc2 := 461) rfl (by decide) (by decide) (fun (c454 : ¬ o3 = o3) => False.elim (by first | exact c454 rfl | omega)) (fun (c454 : o3 = o3) => ?_)
    refine go_iconst C X674 458 rfl at_457 (z := 1) rfl ?_
    refine go_goto C X674 at_458 (pc' := 462) (by decide) (by decide) ?_
    exact go_retN C X674 (by simp) (z' := 1) rfl at_462 rfl (by decide) (by decide)
  · refine go_iconst C X355 313 rfl at_312 (z := 3) rfl ?_
    refine go_newarr C X355 (C.w 1 rfl) (cap := 3) (by decide) (by decide) (by decide) (by decide) (by decide) (pc' := 315) rfl at_313 (fun T682 h684 sba ha_sba ga_sba E685 A686  X683 => ?_)
    have ne_arr1_sba : arr1 ≠ sba := Nat.ne_of_lt (Nat.lt_of_lt_of_le A359.lt (Nat.le_of_eq ha_sba.symm))
    have ne_arr57_sba : arr57 ≠ sba := Nat.ne_of_lt (Nat.lt_of_lt_of_le A360.lt (Nat.le_of_eq ha_sba.symm))
    have ne_arr124_sba : arr124 ≠ sba := Nat.ne_of_lt (Nat.lt_of_lt_of_le A361.lt (Nat.le_of_eq ha_sba.symm))
    have ne_va_sba : va ≠ sba := Nat.ne_of_lt (Nat.lt_of_lt_of_le A362.lt (Nat.le_of_eq ha_sba.symm))
    have ne_ofa_sba : ofa ≠ sba := Nat.ne_of_lt (Nat.lt_of_lt_of_le A363.lt (Nat.le_of_eq ha_sba.symm))
    have ne_ixa_sba : ixa ≠ sba := Nat.ne_of_lt (Nat.lt_of_lt_of_le A358.lt (Nat.le_of_eq ha_sba.symm))
    have A687 := A359.ext E685
    have A688 := A360.ext E685
    have A689 := A361.ext E685
    have A690 := A362.ext E685
    have A691 := A363.ext E685
    have A692 := A358.ext E685
    replace A686 : La Z h684 sba .int ([(.int (0 : Int32)), (.int (0 : Int32)), (.int (0 : Int32))]) := A686
    refine go_dup C X683 316 rfl at_315 rfl ?_
    refine go_iconst C X683 317 rfl at_316 (z := 0) rfl ?_
    refine go_aload C X683 319 rfl at_317 rfl rfl ?_
    refine go_aload C X683 321 rfl at_319 rfl rfl ?_
    refine go_iloadN C X683 322 rfl at_321 rfl ?_
    refine go_iaload C X683 A687 (by decide) (v := (.int (1 : Int32))) rfl (pc' := 323) rfl at_322 ?_
    refine go_iaload C X683 A690 (by decide) (v := (.int o1)) rfl (pc' := 324) rfl at_323 ?_
    refine go_iastore C X683 A686 (by decide) (by show _ < (3 : Int); decide) ga_sba (pc' := 325) rfl at_324 (fun T693 h695 W696 A697 X694 => ?_)
    have A698 := A687.other W696 ne_arr1_sba
    have A699 := A688.other W696 ne_arr57_sba
    have A700 := A689.other W696 ne_arr124_sba
    have A701 := A690.other W696 ne_va_sba
    have A702 := A691.other W696 ne_ofa_sba
    have A703 := A692.other W696 ne_ixa_sba
    replace A697 : La Z h695 sba .int ([(.int o1), (.int (0 : Int32)), (.int (0 : Int32))]) := A697
    refine go_dup C X694 326 rfl at_325 rfl ?_
    refine go_iconst C X694 327 rfl at_326 (z := 1) rfl ?_
    refine go_aload C X694 329 rfl at_327 rfl rfl ?_
    refine go_aload C X694 331 rfl at_329 rfl rfl ?_
    refine go_iloadN C X694 332 rfl at_331 rfl ?_
    refine go_iaload C X694 A699 (by decide) (v := (.int (2 : Int32))) rfl (pc' := 333) rfl at_332 ?_
    refine go_iaload C X694 A701 (by decide) (v := (.int o2)) rfl (pc' := 334) rfl at_333 ?_
    refine go_iastore C X694 A697 (by decide) (by show _ < (3 : Int); decide) ga_sba (pc' := 335) rfl at_334 (fun T704 h706 W707 A708 X705 => ?_)
    have A709 := A698.other W707 ne_arr1_sba
    have A710 := A699.other W707 ne_arr57_sba
    have A711 := A700.other W707 ne_arr124_sba
    have A712 := A701.other W707 ne_va_sba
    have A713 := A702.other W707 ne_ofa_sba
    have A714 := A703.other W707 ne_ixa_sba
    replace A708 : La Z h706 sba .int ([(.int o1), (.int o2), (.int (0 : Int32))]) := A708
    refine go_dup C X705 336 rfl at_335 rfl ?_
    refine go_iconst C X705 337 rfl at_336 (z := 2) rfl ?_
    refine go_aload C X705 339 rfl at_337 rfl rfl ?_
    refine go_aload C X705 341 rfl at_339 rfl rfl ?_
    refine go_iloadN C X705 342 rfl at_341 rfl ?_
    refine go_iaload C X705 A711 (by decide) (v := (.int (3 : Int32))) rfl (pc' := 343) rfl at_342 ?_
    refine go_iaload C X705 A712 (by decide) (v := (.int o3)) rfl (pc' := 344) rfl at_343 ?_
    refine go_iastore C X705 A708 (by decide) (by show _ < (3 : Int); decide) ga_sba (pc' := 345) rfl at_344 (fun T715 h717 W718 A719 X716 => ?_)
    have A720 := A709.other W718 ne_arr1_sba
    have A721 := A710.other W718 ne_arr57_sba
    have A722 := A711.other W718 ne_arr124_sba
    have A723 := A712.other W718 ne_va_sba
    have A724 := A713.other W718 ne_ofa_sba
    have A725 := A714.other W718 ne_ixa_sba
    replace A719 : La Z h717 sba .int ([(.int o1), (.int o2), (.int o3)]) := A719
    refine go_astore C X716 347 rfl at_345 rfl #[iv c1, iv bs, iv gp, iv (6 : Int32), rv arr1, rv arr57, rv arr124, iv o0, iv o1, iv o2, iv o3, iv o4, rv va, rv ofa, rv ixa, rv sba, un, un] rfl ?_
    refine go_aload C X716 349 rfl at_347 rfl rfl ?_
    refine go_aload C X716 351 rfl at_349 rfl rfl ?_
    refine go_aload C X716 353 rfl at_351 rfl rfl ?_
    refine go_callS C X716 (C.w 2 rfl) (C.w 3 rfl) (C.w 4 rfl) (C.w 5 rfl) (own_next_6 l Z a0 C.ws sba ofa ixa ix o0 o1 o2 o3 o4 h717 n0 X716.old A719 A724 A725 ga_sba (Ne.symm ne_ofa_sba) (Ne.symm ne_ixa_sba) hl b0 e0 b1 e1 b2 e2 b3 e3 b4 e4) (argsL := [(.ref sba), (.ref ofa), (.ref ixa)]) (rest := []) (lenOf pd_0 rfl) rfl (by decide) (by decide) (Nat.le_of_ble_eq_true rfl) (by decide) (by decide) rfl rfl (pc' := 356) rfl at_353 ?_
    rintro T726 h728 _ ⟨rfl, K9, A9⟩ X727
    show Go p e below _ (T726.setTop (mkF m 356 #[iv c1, iv bs, iv gp, iv (6 : Int32), rv arr1, rv arr57, rv arr124, iv o0, iv o1, iv o2, iv o3, iv o4, rv va, rv ofa, rv ixa, rv sba, un, un] [(.int (1 : Int32))]))
    have A729 := A720.keep K9 (ninS ne_arr1_sba nin0)
    have A730 := A721.keep K9 (ninS ne_arr57_sba nin0)
    have A731 := A722.keep K9 (ninS ne_arr124_sba nin0)
    have A732 := A723.keep K9 (ninS ne_va_sba nin0)
    have A733 := A724.keep K9 (ninS ne_ofa_sba nin0)
    have A734 := A725.keep K9 (ninS ne_ixa_sba nin0)
    refine go_istore C X727 358 rfl at_356 #[iv c1, iv bs, iv gp, iv (6 : Int32), rv arr1, rv arr57, rv arr124, iv o0, iv o1, iv o2, iv o3, iv o4, rv va, rv ofa, rv ixa, rv sba, iv (1 : Int32), un] rfl ?_
    refine go_iloadN C X727 359 rfl at_358 rfl ?_
    refine go_bipush C X727 361 rfl at_359 (z := 9) rfl ?_
    refine go_icmp_ne C X727 at_361 (pc' := 364) (pc2 := 402) rfl (by decide) (by decide) (fun (c361 : ¬ (6 : Int32) = (9 : Int32)) => ?_) (fun (c361 : (6 : Int32) = (9 : Int32)) => False.elim (by first | omega | exact absurd c361 (by decide)))
    refine go_iloadN C X727 403 rfl at_402 rfl ?_
    refine go_iconst C X727 404 rfl at_403 (z := 1) rfl ?_
    refine go_iaddL C X727 405 rfl at_404 (z := (7)) rfl ?_
    refine go_istore C X727 407 rfl at_405 #[iv c1, iv bs, iv gp, iv (6 : Int32), rv arr1, rv arr57, rv arr124, iv o0, iv o1, iv o2, iv o3, iv o4, rv va, rv ofa, rv ixa, rv sba, iv (1 : Int32), iv (7 : Int32)] rfl ?_
    refine go_iload C X727 409 rfl at_407 rfl ?_
    refine go_if_eq C X727 at_409 (pc' := 412) (pc2 := 461) rfl (by decide) (by decide) (fun (c409 : (1 : Int32) = (0 : Int32)) => False.elim (by first | omega | exact absurd c409 (by decide))) (fun (c409 : ¬ (1 : Int32) = (0 : Int32)) => ?_)
    refine go_aload C X727 414 rfl at_412 rfl rfl ?_
    refine go_iconst C X727 415 rfl at_414 (z := 0) rfl ?_
    refine go_iaload C X727 A9 (by decide) (v := (.int o1)) rfl (pc' := 416) rfl at_415 ?_
    refine go_aload C X727 418 rfl at_416 rfl rfl ?_
    refine go_aload C X727 420 rfl at_418 rfl rfl ?_
    refine go_iload C X727 422 rfl at_420 rfl ?_
    refine go_iaload C X727 A729 (by decide) (v := (.int (1 : Int32))) rfl (pc' := 423) rfl at_422 ?_
    refine go_iaload C X727 A732 (by decide) (v := (.int o1)) rfl (pc' := 424) rfl at_423 ?_
    refine go_icmp_ne C X727 at_424 (pc' := 427) (pc2 := 461) rfl (by decide) (by decide) (fun (c424 : ¬ o1 = o1) => False.elim (by first | exact c424 rfl | omega)) (fun (c424 : o1 = o1) => ?_)
    refine go_aload C X727 429 rfl at_427 rfl rfl ?_
    refine go_iconst C X727 430 rfl at_429 (z := 1) rfl ?_
    refine go_iaload C X727 A9 (by decide) (v := (.int o2)) rfl (pc' := 431) rfl at_430 ?_
    refine go_aload C X727 433 rfl at_431 rfl rfl ?_
    refine go_aload C X727 435 rfl at_433 rfl rfl ?_
    refine go_iload C X727 437 rfl at_435 rfl ?_
    refine go_iaload C X727 A730 (by decide) (v := (.int (2 : Int32))) rfl (pc' := 438) rfl at_437 ?_
    refine go_iaload C X727 A732 (by decide) (v := (.int o2)) rfl (pc' := 439) rfl at_438 ?_
    refine go_icmp_ne C X727 at_439 (pc' := 442) (pc2 := 461) rfl (by decide) (by decide) (fun (c439 : ¬ o2 = o2) => False.elim (by first | exact c439 rfl | omega)) (fun (c439 : o2 = o2) => ?_)
    refine go_aload C X727 444 rfl at_442 rfl rfl ?_
    refine go_iconst C X727 445 rfl at_444 (z := 2) rfl ?_
    refine go_iaload C X727 A9 (by decide) (v := (.int o4)) rfl (pc' := 446) rfl at_445 ?_
    refine go_aload C X727 448 rfl at_446 rfl rfl ?_
    refine go_aload C X727 450 rfl at_448 rfl rfl ?_
    refine go_iload C X727 452 rfl at_450 rfl ?_
    refine go_iaload C X727 A731 (by decide) (v := (.int (4 : Int32))) rfl (pc' := 453) rfl at_452 ?_
    refine go_iaload C X727 A732 (by decide) (v := (.int o4)) rfl (pc' := 454) rfl at_453 ?_
    refine go_icmp_ne C X727 at_454 (pc' := 457) (pc2 := 461) rfl (by decide) (by decide) (fun (c454 : ¬ o4 = o4) => False.elim (by first | exact c454 rfl | omega)) (fun (c454 : o4 = o4) => ?_)
    refine go_iconst C X727 458 rfl at_457 (z := 1) rfl ?_
    refine go_goto C X727 at_458 (pc' := 462) (by decide) (by decide) ?_
    exact go_retN C X727 (by simp) (z' := 1) rfl at_462 rfl (by decide) (by decide)
  · refine go_iconst C X355 313 rfl at_312 (z := 3) rfl ?_
    refine go_newarr C X355 (C.w 1 rfl) (cap := 3) (by decide) (by decide) (by decide) (by decide) (by decide) (pc' := 315) rfl at_313 (fun T735 h737 sba ha_sba ga_sba E738 A739  X736 => ?_)
    have ne_arr1_sba : arr1 ≠ sba := Nat.ne_of_lt (Nat.lt_of_lt_of_le A359.lt (Nat.le_of_eq ha_sba.symm))
    have ne_arr57_sba : arr57 ≠ sba := Nat.ne_of_lt (Nat.lt_of_lt_of_le A360.lt (Nat.le_of_eq ha_sba.symm))
    have ne_arr124_sba : arr124 ≠ sba := Nat.ne_of_lt (Nat.lt_of_lt_of_le A361.lt (Nat.le_of_eq ha_sba.symm))
    have ne_va_sba : va ≠ sba := Nat.ne_of_lt (Nat.lt_of_lt_of_le A362.lt (Nat.le_of_eq ha_sba.symm))
    have ne_ofa_sba : ofa ≠ sba := Nat.ne_of_lt (Nat.lt_of_lt_of_le A363.lt (Nat.le_of_eq ha_sba.symm))
    have ne_ixa_sba : ixa ≠ sba := Nat.ne_of_lt (Nat.lt_of_lt_of_le A358.lt (Nat.le_of_eq ha_sba.symm))
    have A740 := A359.ext E738
    have A741 := A360.ext E738
    have A742 := A361.ext E738
    have A743 := A362.ext E738
    have A744 := A363.ext E738
    have A745 := A358.ext E738
    replace A739 : La Z h737 sba .int ([(.int (0 : Int32)), (.int (0 : Int32)), (.int (0 : Int32))]) := A739
    refine go_dup C X736 316 rfl at_315 rfl ?_
    refine go_iconst C X736 317 rfl at_316 (z := 0) rfl ?_
    refine go_aload C X736 319 rfl at_317 rfl rfl ?_
    refine go_aload C X736 321 rfl at_319 rfl rfl ?_
    refine go_iloadN C X736 322 rfl at_321 rfl ?_
    refine go_iaload C X736 A740 (by decide) (v := (.int (1 : Int32))) rfl (pc' := 323) rfl at_322 ?_
    refine go_iaload C X736 A743 (by decide) (v := (.int o1)) rfl (pc' := 324) rfl at_323 ?_
    refine go_iastore C X736 A739 (by decide) (by show _ < (3 : Int); decide) ga_sba (pc' := 325) rfl at_324 (fun T746 h748 W749 A750 X747 => ?_)
    have A751 := A740.other W749 ne_arr1_sba
    have A752 := A741.other W749 ne_arr57_sba
    have A753 := A742.other W749 ne_arr124_sba
    have A754 := A743.other W749 ne_va_sba
    have A755 := A744.other W749 ne_ofa_sba
    have A756 := A745.other W749 ne_ixa_sba
    replace A750 : La Z h748 sba .int ([(.int o1), (.int (0 : Int32)), (.int (0 : Int32))]) := A750
    refine go_dup C X747 326 rfl at_325 rfl ?_
    refine go_iconst C X747 327 rfl at_326 (z := 1) rfl ?_
    refine go_aload C X747 329 rfl at_327 rfl rfl ?_
    refine go_aload C X747 331 rfl at_329 rfl rfl ?_
    refine go_iloadN C X747 332 rfl at_331 rfl ?_
    refine go_iaload C X747 A752 (by decide) (v := (.int (2 : Int32))) rfl (pc' := 333) rfl at_332 ?_
    refine go_iaload C X747 A754 (by decide) (v := (.int o2)) rfl (pc' := 334) rfl at_333 ?_
    refine go_iastore C X747 A750 (by decide) (by show _ < (3 : Int); decide) ga_sba (pc' := 335) rfl at_334 (fun T757 h759 W760 A761 X758 => ?_)
    have A762 := A751.other W760 ne_arr1_sba
    have A763 := A752.other W760 ne_arr57_sba
    have A764 := A753.other W760 ne_arr124_sba
    have A765 := A754.other W760 ne_va_sba
    have A766 := A755.other W760 ne_ofa_sba
    have A767 := A756.other W760 ne_ixa_sba
    replace A761 : La Z h759 sba .int ([(.int o1), (.int o2), (.int (0 : Int32))]) := A761
    refine go_dup C X758 336 rfl at_335 rfl ?_
    refine go_iconst C X758 337 rfl at_336 (z := 2) rfl ?_
    refine go_aload C X758 339 rfl at_337 rfl rfl ?_
    refine go_aload C X758 341 rfl at_339 rfl rfl ?_
    refine go_iloadN C X758 342 rfl at_341 rfl ?_
    refine go_iaload C X758 A764 (by decide) (v := (.int (4 : Int32))) rfl (pc' := 343) rfl at_342 ?_
    refine go_iaload C X758 A765 (by decide) (v := (.int o4)) rfl (pc' := 344) rfl at_343 ?_
    refine go_iastore C X758 A761 (by decide) (by show _ < (3 : Int); decide) ga_sba (pc' := 345) rfl at_344 (fun T768 h770 W771 A772 X769 => ?_)
    have A773 := A762.other W771 ne_arr1_sba
    have A774 := A763.other W771 ne_arr57_sba
    have A775 := A764.other W771 ne_arr124_sba
    have A776 := A765.other W771 ne_va_sba
    have A777 := A766.other W771 ne_ofa_sba
    have A778 := A767.other W771 ne_ixa_sba
    replace A772 : La Z h770 sba .int ([(.int o1), (.int o2), (.int o4)]) := A772
    refine go_astore C X769 347 rfl at_345 rfl #[iv c1, iv bs, iv gp, iv (7 : Int32), rv arr1, rv arr57, rv arr124, iv o0, iv o1, iv o2, iv o3, iv o4, rv va, rv ofa, rv ixa, rv sba, un, un] rfl ?_
    refine go_aload C X769 349 rfl at_347 rfl rfl ?_
    refine go_aload C X769 351 rfl at_349 rfl rfl ?_
    refine go_aload C X769 353 rfl at_351 rfl rfl ?_
    refine go_callS C X769 (C.w 2 rfl) (C.w 3 rfl) (C.w 4 rfl) (C.w 5 rfl) (own_next_7 l Z a0 C.ws sba ofa ixa ix o0 o1 o2 o3 o4 h770 n0 X769.old A772 A777 A778 ga_sba (Ne.symm ne_ofa_sba) (Ne.symm ne_ixa_sba) hl b0 e0 b1 e1 b2 e2 b3 e3 b4 e4) (argsL := [(.ref sba), (.ref ofa), (.ref ixa)]) (rest := []) (lenOf pd_0 rfl) rfl (by decide) (by decide) (Nat.le_of_ble_eq_true rfl) (by decide) (by decide) rfl rfl (pc' := 356) rfl at_353 ?_
    rintro T779 h781 _ ⟨rfl, K9, A9⟩ X780
    show Go p e below _ (T779.setTop (mkF m 356 #[iv c1, iv bs, iv gp, iv (7 : Int32), rv arr1, rv arr57, rv arr124, iv o0, iv o1, iv o2, iv o3, iv o4, rv va, rv ofa, rv ixa, rv sba, un, un] [(.int (1 : Int32))]))
    have A782 := A773.keep K9 (ninS ne_arr1_sba nin0)
    have A783 := A774.keep K9 (ninS ne_arr57_sba nin0)
    have A784 := A775.keep K9 (ninS ne_arr124_sba nin0)
    have A785 := A776.keep K9 (ninS ne_va_sba nin0)
    have A786 := A777.keep K9 (ninS ne_ofa_sba nin0)
    have A787 := A778.keep K9 (ninS ne_ixa_sba nin0)
    refine go_istore C X780 358 rfl at_356 #[iv c1, iv bs, iv gp, iv (7 : Int32), rv arr1, rv arr57, rv arr124, iv o0, iv o1, iv o2, iv o3, iv o4, rv va, rv ofa, rv ixa, rv sba, iv (1 : Int32), un] rfl ?_
    refine go_iloadN C X780 359 rfl at_358 rfl ?_
    refine go_bipush C X780 361 rfl at_359 (z := 9) rfl ?_
    refine go_icmp_ne C X780 at_361 (pc' := 364) (pc2 := 402) rfl (by decide) (by decide) (fun (c361 : ¬ (7 : Int32) = (9 : Int32)) => ?_) (fun (c361 : (7 : Int32) = (9 : Int32)) => False.elim (by first | omega | exact absurd c361 (by decide)))
    refine go_iloadN C X780 403 rfl at_402 rfl ?_
    refine go_iconst C X780 404 rfl at_403 (z := 1) rfl ?_
    refine go_iaddL C X780 405 rfl at_404 (z := (8)) rfl ?_
    refine go_istore C X780 407 rfl at_405 #[iv c1, iv bs, iv gp, iv (7 : Int32), rv arr1, rv arr57, rv arr124, iv o0, iv o1, iv o2, iv o3, iv o4, rv va, rv ofa, rv ixa, rv sba, iv (1 : Int32), iv (8 : Int32)] rfl ?_
    refine go_iload C X780 409 rfl at_407 rfl ?_
    refine go_if_eq C X780 at_409 (pc' := 412) (pc2 := 461) rfl (by decide) (by decide) (fun (c409 : (1 : Int32) = (0 : Int32)) => False.elim (by first | omega | exact absurd c409 (by decide))) (fun (c409 : ¬ (1 : Int32) = (0 : Int32)) => ?_)
    refine go_aload C X780 414 rfl at_412 rfl rfl ?_
    refine go_iconst C X780 415 rfl at_414 (z := 0) rfl ?_
    refine go_iaload C X780 A9 (by decide) (v := (.int o1)) rfl (pc' := 416) rfl at_415 ?_
    refine go_aload C X780 418 rfl at_416 rfl rfl ?_
    refine go_aload C X780 420 rfl at_418 rfl rfl ?_
    refine go_iload C X780 422 rfl at_420 rfl ?_
    refine go_iaload C X780 A782 (by decide) (v := (.int (1 : Int32))) rfl (pc' := 423) rfl at_422 ?_
    refine go_iaload C X780 A785 (by decide) (v := (.int o1)) rfl (pc' := 424) rfl at_423 ?_
    refine go_icmp_ne C X780 at_424 (pc' := 427) (pc2 := 461) rfl (by decide) (by decide) (fun (c424 : ¬ o1 = o1) => False.elim (by first | exact c424 rfl | omega)) (fun (c424 : o1 = o1) => ?_)
    refine go_aload C X780 429 rfl at_427 rfl rfl ?_
    refine go_iconst C X780 430 rfl at_429 (z := 1) rfl ?_
    refine go_iaload C X780 A9 (by decide) (v := (.int o3)) rfl (pc' := 431) rfl at_430 ?_
    refine go_aload C X780 433 rfl at_431 rfl rfl ?_
    refine go_aload C X780 435 rfl at_433 rfl rfl ?_
    refine go_iload C X780 437 rfl at_435 rfl ?_
    refine go_iaload C X780 A783 (by decide) (v := (.int (3 : Int32))) rfl (pc' := 438) rfl at_437 ?_
    refine go_iaload C X780 A785 (by decide) (v := (.int o3)) rfl (pc' := 439) rfl at_438 ?_
    refine go_icmp_ne C X780 at_439 (pc' := 442) (pc2 := 461) rfl (by decide) (by decide) (fun (c439 : ¬ o3 = o3) => False.elim (by first | exact c439 rfl | omega)) (fun (c439 : o3 = o3) => ?_)
    refine go_aload C X780 444 rfl at_442 rfl rfl ?_
    refine go_iconst C X780 445 rfl at_444 (z := 2) rfl ?_
    refine go_iaload C X780 A9 (by decide) (v := (.int o4)) rfl (pc' := 446) rfl at_445 ?_
    refine go_aload C X780 448 rfl at_446 rfl rfl ?_
    refine go_aload C X780 450 rfl at_448 rfl rfl ?_
    refine go_iload C X780 452 rfl at_450 rfl ?_
    refine go_iaload C X780 A784 (by decide) (v := (.int (4 : Int32))) rfl (pc' := 453) rfl at_452 ?_
    refine go_iaload C X780 A785 (by decide) (v := (.int o4)) rfl (pc' := 454) rfl at_453 ?_
    refine go_icmp_ne C X780 at_454 (pc' := 457) (pc2 := 461) rfl (by decide) (by decide) (fun (c454 : ¬ o4 = o4) => False.elim (by first | exact c454 rfl | omega)) (fun (c454 : o4 = o4) => ?_)
    refine go_iconst C X780 458 rfl at_457 (z := 1) rfl ?_
    refine go_goto C X780 at_458 (pc' := 462) (by decide) (by decide) ?_
    exact go_retN C X780 (by simp) (z' := 1) rfl at_462 rfl (by decide) (by decide)
  · refine go_iconst C X355 313 rfl at_312 (z := 3) rfl ?_
    refine go_newarr C X355 (C.w 1 rfl) (cap := 3) (by decide) (by decide) (by decide) (by decide) (by decide) (pc' := 315) rfl at_313 (fun T788 h790 sba ha_sba ga_sba E791 A792  X789 => ?_)
    have ne_arr1_sba : arr1 ≠ sba := Nat.ne_of_lt (Nat.lt_of_lt_of_le A359.lt (Nat.le_of_eq ha_sba.symm))
    have ne_arr57_sba : arr57 ≠ sba := Nat.ne_of_lt (Nat.lt_of_lt_of_le A360.lt (Nat.le_of_eq ha_sba.symm))
    have ne_arr124_sba : arr124 ≠ sba := Nat.ne_of_lt (Nat.lt_of_lt_of_le A361.lt (Nat.le_of_eq ha_sba.symm))
    have ne_va_sba : va ≠ sba := Nat.ne_of_lt (Nat.lt_of_lt_of_le A362.lt (Nat.le_of_eq ha_sba.symm))
    have ne_ofa_sba : ofa ≠ sba := Nat.ne_of_lt (Nat.lt_of_lt_of_le A363.lt (Nat.le_of_eq ha_sba.symm))
    have ne_ixa_sba : ixa ≠ sba := Nat.ne_of_lt (Nat.lt_of_lt_of_le A358.lt (Nat.le_of_eq ha_sba.symm))
    have A793 := A359.ext E791
    have A794 := A360.ext E791
    have A795 := A361.ext E791
    have A796 := A362.ext E791
    have A797 := A363.ext E791
    have A798 := A358.ext E791
    replace A792 : La Z h790 sba .int ([(.int (0 : Int32)), (.int (0 : Int32)), (.int (0 : Int32))]) := A792
    refine go_dup C X789 316 rfl at_315 rfl ?_
    refine go_iconst C X789 317 rfl at_316 (z := 0) rfl ?_
    refine go_aload C X789 319 rfl at_317 rfl rfl ?_
    refine go_aload C X789 321 rfl at_319 rfl rfl ?_
    refine go_iloadN C X789 322 rfl at_321 rfl ?_
    refine go_iaload C X789 A793 (by decide) (v := (.int (1 : Int32))) rfl (pc' := 323) rfl at_322 ?_
    refine go_iaload C X789 A796 (by decide) (v := (.int o1)) rfl (pc' := 324) rfl at_323 ?_
    refine go_iastore C X789 A792 (by decide) (by show _ < (3 : Int); decide) ga_sba (pc' := 325) rfl at_324 (fun T799 h801 W802 A803 X800 => ?_)
    have A804 := A793.other W802 ne_arr1_sba
    have A805 := A794.other W802 ne_arr57_sba
    have A806 := A795.other W802 ne_arr124_sba
    have A807 := A796.other W802 ne_va_sba
    have A808 := A797.other W802 ne_ofa_sba
    have A809 := A798.other W802 ne_ixa_sba
    replace A803 : La Z h801 sba .int ([(.int o1), (.int (0 : Int32)), (.int (0 : Int32))]) := A803
    refine go_dup C X800 326 rfl at_325 rfl ?_
    refine go_iconst C X800 327 rfl at_326 (z := 1) rfl ?_
    refine go_aload C X800 329 rfl at_327 rfl rfl ?_
    refine go_aload C X800 331 rfl at_329 rfl rfl ?_
    refine go_iloadN C X800 332 rfl at_331 rfl ?_
    refine go_iaload C X800 A805 (by decide) (v := (.int (3 : Int32))) rfl (pc' := 333) rfl at_332 ?_
    refine go_iaload C X800 A807 (by decide) (v := (.int o3)) rfl (pc' := 334) rfl at_333 ?_
    refine go_iastore C X800 A803 (by decide) (by show _ < (3 : Int); decide) ga_sba (pc' := 335) rfl at_334 (fun T810 h812 W813 A814 X811 => ?_)
    have A815 := A804.other W813 ne_arr1_sba
    have A816 := A805.other W813 ne_arr57_sba
    have A817 := A806.other W813 ne_arr124_sba
    have A818 := A807.other W813 ne_va_sba
    have A819 := A808.other W813 ne_ofa_sba
    have A820 := A809.other W813 ne_ixa_sba
    replace A814 : La Z h812 sba .int ([(.int o1), (.int o3), (.int (0 : Int32))]) := A814
    refine go_dup C X811 336 rfl at_335 rfl ?_
    refine go_iconst C X811 337 rfl at_336 (z := 2) rfl ?_
    refine go_aload C X811 339 rfl at_337 rfl rfl ?_
    refine go_aload C X811 341 rfl at_339 rfl rfl ?_
    refine go_iloadN C X811 342 rfl at_341 rfl ?_
    refine go_iaload C X811 A817 (by decide) (v := (.int (4 : Int32))) rfl (pc' := 343) rfl at_342 ?_
    refine go_iaload C X811 A818 (by decide) (v := (.int o4)) rfl (pc' := 344) rfl at_343 ?_
    refine go_iastore C X811 A814 (by decide) (by show _ < (3 : Int); decide) ga_sba (pc' := 345) rfl at_344 (fun T821 h823 W824 A825 X822 => ?_)
    have A826 := A815.other W824 ne_arr1_sba
    have A827 := A816.other W824 ne_arr57_sba
    have A828 := A817.other W824 ne_arr124_sba
    have A829 := A818.other W824 ne_va_sba
    have A830 := A819.other W824 ne_ofa_sba
    have A831 := A820.other W824 ne_ixa_sba
    replace A825 : La Z h823 sba .int ([(.int o1), (.int o3), (.int o4)]) := A825
    refine go_astore C X822 347 rfl at_345 rfl #[iv c1, iv bs, iv gp, iv (8 : Int32), rv arr1, rv arr57, rv arr124, iv o0, iv o1, iv o2, iv o3, iv o4, rv va, rv ofa, rv ixa, rv sba, un, un] rfl ?_
    refine go_aload C X822 349 rfl at_347 rfl rfl ?_
    refine go_aload C X822 351 rfl at_349 rfl rfl ?_
    refine go_aload C X822 353 rfl at_351 rfl rfl ?_
    refine go_callS C X822 (C.w 2 rfl) (C.w 3 rfl) (C.w 4 rfl) (C.w 5 rfl) (own_next_8 l Z a0 C.ws sba ofa ixa ix o0 o1 o2 o3 o4 h823 n0 X822.old A825 A830 A831 ga_sba (Ne.symm ne_ofa_sba) (Ne.symm ne_ixa_sba) hl b0 e0 b1 e1 b2 e2 b3 e3 b4 e4) (argsL := [(.ref sba), (.ref ofa), (.ref ixa)]) (rest := []) (lenOf pd_0 rfl) rfl (by decide) (by decide) (Nat.le_of_ble_eq_true rfl) (by decide) (by decide) rfl rfl (pc' := 356) rfl at_353 ?_
    rintro T832 h834 _ ⟨rfl, K9, A9⟩ X833
    show Go p e below _ (T832.setTop (mkF m 356 #[iv c1, iv bs, iv gp, iv (8 : Int32), rv arr1, rv arr57, rv arr124, iv o0, iv o1, iv o2, iv o3, iv o4, rv va, rv ofa, rv ixa, rv sba, un, un] [(.int (1 : Int32))]))
    have A835 := A826.keep K9 (ninS ne_arr1_sba nin0)
    have A836 := A827.keep K9 (ninS ne_arr57_sba nin0)
    have A837 := A828.keep K9 (ninS ne_arr124_sba nin0)
    have A838 := A829.keep K9 (ninS ne_va_sba nin0)
    have A839 := A830.keep K9 (ninS ne_ofa_sba nin0)
    have A840 := A831.keep K9 (ninS ne_ixa_sba nin0)
    refine go_istore C X833 358 rfl at_356 #[iv c1, iv bs, iv gp, iv (8 : Int32), rv arr1, rv arr57, rv arr124, iv o0, iv o1, iv o2, iv o3, iv o4, rv va, rv ofa, rv ixa, rv sba, iv (1 : Int32), un] rfl ?_
    refine go_iloadN C X833 359 rfl at_358 rfl ?_
    refine go_bipush C X833 361 rfl at_359 (z := 9) rfl ?_
    refine go_icmp_ne C X833 at_361 (pc' := 364) (pc2 := 402) rfl (by decide) (by decide) (fun (c361 : ¬ (8 : Int32) = (9 : Int32)) => ?_) (fun (c361 : (8 : Int32) = (9 : Int32)) => False.elim (by first | omega | exact absurd c361 (by decide)))
    refine go_iloadN C X833 403 rfl at_402 rfl ?_
    refine go_iconst C X833 404 rfl at_403 (z := 1) rfl ?_
    refine go_iaddL C X833 405 rfl at_404 (z := (9)) rfl ?_
    refine go_istore C X833 407 rfl at_405 #[iv c1, iv bs, iv gp, iv (8 : Int32), rv arr1, rv arr57, rv arr124, iv o0, iv o1, iv o2, iv o3, iv o4, rv va, rv ofa, rv ixa, rv sba, iv (1 : Int32), iv (9 : Int32)] rfl ?_
    refine go_iload C X833 409 rfl at_407 rfl ?_
    refine go_if_eq C X833 at_409 (pc' := 412) (pc2 := 461) rfl (by decide) (by decide) (fun (c409 : (1 : Int32) = (0 : Int32)) => False.elim (by first | omega | exact absurd c409 (by decide))) (fun (c409 : ¬ (1 : Int32) = (0 : Int32)) => ?_)
    refine go_aload C X833 414 rfl at_412 rfl rfl ?_
    refine go_iconst C X833 415 rfl at_414 (z := 0) rfl ?_
    refine go_iaload C X833 A9 (by decide) (v := (.int o2)) rfl (pc' := 416) rfl at_415 ?_
    refine go_aload C X833 418 rfl at_416 rfl rfl ?_
    refine go_aload C X833 420 rfl at_418 rfl rfl ?_
    refine go_iload C X833 422 rfl at_420 rfl ?_
    refine go_iaload C X833 A835 (by decide) (v := (.int (2 : Int32))) rfl (pc' := 423) rfl at_422 ?_
    refine go_iaload C X833 A838 (by decide) (v := (.int o2)) rfl (pc' := 424) rfl at_423 ?_
    refine go_icmp_ne C X833 at_424 (pc' := 427) (pc2 := 461) rfl (by decide) (by decide) (fun (c424 : ¬ o2 = o2) => False.elim (by first | exact c424 rfl | omega)) (fun (c424 : o2 = o2) => ?_)
    refine go_aload C X833 429 rfl at_427 rfl rfl ?_
    refine go_iconst C X833 430 rfl at_429 (z := 1) rfl ?_
    refine go_iaload C X833 A9 (by decide) (v := (.int o3)) rfl (pc' := 431) rfl at_430 ?_
    refine go_aload C X833 433 rfl at_431 rfl rfl ?_
    refine go_aload C X833 435 rfl at_433 rfl rfl ?_
    refine go_iload C X833 437 rfl at_435 rfl ?_
    refine go_iaload C X833 A836 (by decide) (v := (.int (3 : Int32))) rfl (pc' := 438) rfl at_437 ?_
    refine go_iaload C X833 A838 (by decide) (v := (.int o3)) rfl (pc' := 439) rfl at_438 ?_
    refine go_icmp_ne C X833 at_439 (pc' := 442) (pc2 := 461) rfl (by decide) (by decide) (fun (c439 : ¬ o3 = o3) => False.elim (by first | exact c439 rfl | omega)) (fun (c439 : o3 = o3) => ?_)
    refine go_aload C X833 444 rfl at_442 rfl rfl ?_
    refine go_iconst C X833 445 rfl at_444 (z := 2) rfl ?_
    refine go_iaload C X833 A9 (by decide) (v := (.int o4)) rfl (pc' := 446) rfl at_445 ?_
    refine go_aload C X833 448 rfl at_446 rfl rfl ?_
    refine go_aload C X833 450 rfl at_448 rfl rfl ?_
    refine go_iload C X833 452 rfl at_450 rfl ?_
    refine go_iaload C X833 A837 (by decide) (v := (.int (4 : Int32))) rfl (pc' := 453) rfl at_452 ?_
    refine go_iaload C X833 A838 (by decide) (v := (.int o4)) rfl (pc' := 454) rfl at_453 ?_
    refine go_icmp_ne C X833 at_454 (pc' := 457) (pc2 := 461) rfl (by decide) (by decide) (fun (c454 : ¬ o4 = o4) => False.elim (by first | exact c454 rfl | omega)) (fun (c454 : o4 = o4) => ?_)
    refine go_iconst C X833 458 rfl at_457 (z := 1) rfl ?_
    refine go_goto C X833 at_458 (pc' := 462) (by decide) (by decide) ?_
    exact go_retN C X833 (by simp) (z' := 1) rfl at_462 rfl (by decide) (by decide)
  · refine go_iconst C X355 313 rfl at_312 (z := 3) rfl ?_
    refine go_newarr C X355 (C.w 1 rfl) (cap := 3) (by decide) (by decide) (by decide) (by decide) (by decide) (pc' := 315) rfl at_313 (fun T841 h843 sba ha_sba ga_sba E844 A845  X842 => ?_)
    have ne_arr1_sba : arr1 ≠ sba := Nat.ne_of_lt (Nat.lt_of_lt_of_le A359.lt (Nat.le_of_eq ha_sba.symm))
    have ne_arr57_sba : arr57 ≠ sba := Nat.ne_of_lt (Nat.lt_of_lt_of_le A360.lt (Nat.le_of_eq ha_sba.symm))
    have ne_arr124_sba : arr124 ≠ sba := Nat.ne_of_lt (Nat.lt_of_lt_of_le A361.lt (Nat.le_of_eq ha_sba.symm))
    have ne_va_sba : va ≠ sba := Nat.ne_of_lt (Nat.lt_of_lt_of_le A362.lt (Nat.le_of_eq ha_sba.symm))
    have ne_ofa_sba : ofa ≠ sba := Nat.ne_of_lt (Nat.lt_of_lt_of_le A363.lt (Nat.le_of_eq ha_sba.symm))
    have ne_ixa_sba : ixa ≠ sba := Nat.ne_of_lt (Nat.lt_of_lt_of_le A358.lt (Nat.le_of_eq ha_sba.symm))
    have A846 := A359.ext E844
    have A847 := A360.ext E844
    have A848 := A361.ext E844
    have A849 := A362.ext E844
    have A850 := A363.ext E844
    have A851 := A358.ext E844
    replace A845 : La Z h843 sba .int ([(.int (0 : Int32)), (.int (0 : Int32)), (.int (0 : Int32))]) := A845
    refine go_dup C X842 316 rfl at_315 rfl ?_
    refine go_iconst C X842 317 rfl at_316 (z := 0) rfl ?_
    refine go_aload C X842 319 rfl at_317 rfl rfl ?_
    refine go_aload C X842 321 rfl at_319 rfl rfl ?_
    refine go_iloadN C X842 322 rfl at_321 rfl ?_
    refine go_iaload C X842 A846 (by decide) (v := (.int (2 : Int32))) rfl (pc' := 323) rfl at_322 ?_
    refine go_iaload C X842 A849 (by decide) (v := (.int o2)) rfl (pc' := 324) rfl at_323 ?_
    refine go_iastore C X842 A845 (by decide) (by show _ < (3 : Int); decide) ga_sba (pc' := 325) rfl at_324 (fun T852 h854 W855 A856 X853 => ?_)
    have A857 := A846.other W855 ne_arr1_sba
    have A858 := A847.other W855 ne_arr57_sba
    have A859 := A848.other W855 ne_arr124_sba
    have A860 := A849.other W855 ne_va_sba
    have A861 := A850.other W855 ne_ofa_sba
    have A862 := A851.other W855 ne_ixa_sba
    replace A856 : La Z h854 sba .int ([(.int o2), (.int (0 : Int32)), (.int (0 : Int32))]) := A856
    refine go_dup C X853 326 rfl at_325 rfl ?_
    refine go_iconst C X853 327 rfl at_326 (z := 1) rfl ?_
    refine go_aload C X853 329 rfl at_327 rfl rfl ?_
    refine go_aload C X853 331 rfl at_329 rfl rfl ?_
    refine go_iloadN C X853 332 rfl at_331 rfl ?_
    refine go_iaload C X853 A858 (by decide) (v := (.int (3 : Int32))) rfl (pc' := 333) rfl at_332 ?_
    refine go_iaload C X853 A860 (by decide) (v := (.int o3)) rfl (pc' := 334) rfl at_333 ?_
    refine go_iastore C X853 A856 (by decide) (by show _ < (3 : Int); decide) ga_sba (pc' := 335) rfl at_334 (fun T863 h865 W866 A867 X864 => ?_)
    have A868 := A857.other W866 ne_arr1_sba
    have A869 := A858.other W866 ne_arr57_sba
    have A870 := A859.other W866 ne_arr124_sba
    have A871 := A860.other W866 ne_va_sba
    have A872 := A861.other W866 ne_ofa_sba
    have A873 := A862.other W866 ne_ixa_sba
    replace A867 : La Z h865 sba .int ([(.int o2), (.int o3), (.int (0 : Int32))]) := A867
    refine go_dup C X864 336 rfl at_335 rfl ?_
    refine go_iconst C X864 337 rfl at_336 (z := 2) rfl ?_
    refine go_aload C X864 339 rfl at_337 rfl rfl ?_
    refine go_aload C X864 341 rfl at_339 rfl rfl ?_
    refine go_iloadN C X864 342 rfl at_341 rfl ?_
    refine go_iaload C X864 A870 (by decide) (v := (.int (4 : Int32))) rfl (pc' := 343) rfl at_342 ?_
    refine go_iaload C X864 A871 (by decide) (v := (.int o4)) rfl (pc' := 344) rfl at_343 ?_
    refine go_iastore C X864 A867 (by decide) (by show _ < (3 : Int); decide) ga_sba (pc' := 345) rfl at_344 (fun T874 h876 W877 A878 X875 => ?_)
    have A879 := A868.other W877 ne_arr1_sba
    have A880 := A869.other W877 ne_arr57_sba
    have A881 := A870.other W877 ne_arr124_sba
    have A882 := A871.other W877 ne_va_sba
    have A883 := A872.other W877 ne_ofa_sba
    have A884 := A873.other W877 ne_ixa_sba
    replace A878 : La Z h876 sba .int ([(.int o2), (.int o3), (.int o4)]) := A878
    refine go_astore C X875 347 rfl at_345 rfl #[iv c1, iv bs, iv gp, iv (9 : Int32), rv arr1, rv arr57, rv arr124, iv o0, iv o1, iv o2, iv o3, iv o4, rv va, rv ofa, rv ixa, rv sba, un, un] rfl ?_
    refine go_aload C X875 349 rfl at_347 rfl rfl ?_
    refine go_aload C X875 351 rfl at_349 rfl rfl ?_
    refine go_aload C X875 353 rfl at_351 rfl rfl ?_
    refine go_callS C X875 (C.w 2 rfl) (C.w 3 rfl) (C.w 4 rfl) (C.w 5 rfl) (own_next_9 l Z a0 C.ws sba ofa ixa ix o0 o1 o2 o3 o4 h876 n0 X875.old A878 A883 A884 ga_sba (Ne.symm ne_ofa_sba) (Ne.symm ne_ixa_sba) hl b0 e0 b1 e1 b2 e2 b3 e3 b4 e4) (argsL := [(.ref sba), (.ref ofa), (.ref ixa)]) (rest := []) (lenOf pd_0 rfl) rfl (by decide) (by decide) (Nat.le_of_ble_eq_true rfl) (by decide) (by decide) rfl rfl (pc' := 356) rfl at_353 ?_
    rintro T885 h887 _ ⟨rfl, K9, A9⟩ X886
    show Go p e below _ (T885.setTop (mkF m 356 #[iv c1, iv bs, iv gp, iv (9 : Int32), rv arr1, rv arr57, rv arr124, iv o0, iv o1, iv o2, iv o3, iv o4, rv va, rv ofa, rv ixa, rv sba, un, un] [(.int (0 : Int32))]))
    have A888 := A879.keep K9 (ninS ne_arr1_sba nin0)
    have A889 := A880.keep K9 (ninS ne_arr57_sba nin0)
    have A890 := A881.keep K9 (ninS ne_arr124_sba nin0)
    have A891 := A882.keep K9 (ninS ne_va_sba nin0)
    have A892 := A883.keep K9 (ninS ne_ofa_sba nin0)
    have A893 := A884.keep K9 (ninS ne_ixa_sba nin0)
    refine go_istore C X886 358 rfl at_356 #[iv c1, iv bs, iv gp, iv (9 : Int32), rv arr1, rv arr57, rv arr124, iv o0, iv o1, iv o2, iv o3, iv o4, rv va, rv ofa, rv ixa, rv sba, iv (0 : Int32), un] rfl ?_
    refine go_iloadN C X886 359 rfl at_358 rfl ?_
    refine go_bipush C X886 361 rfl at_359 (z := 9) rfl ?_
    refine go_icmp_ne C X886 at_361 (pc' := 364) (pc2 := 402) rfl (by decide) (by decide) (fun (c361 : ¬ (9 : Int32) = (9 : Int32)) => False.elim (by first | omega | exact absurd c361 (by decide))) (fun (c361 : (9 : Int32) = (9 : Int32)) => ?_)
    refine go_iload C X886 366 rfl at_364 rfl ?_
    refine go_if_ne C X886 at_366 (pc' := 369) (pc2 := 400) rfl (by decide) (by decide) (fun (c366 : ¬ (0 : Int32) = (0 : Int32)) => False.elim (by first | omega | exact absurd c366 (by decide))) (fun (c366 : (0 : Int32) = (0 : Int32)) => ?_)
    refine go_aload C X886 371 rfl at_369 rfl rfl ?_
    refine go_iconst C X886 372 rfl at_371 (z := 0) rfl ?_
    refine go_iaload C X886 A9 (by decide) (v := (.int o2)) rfl (pc' := 373) rfl at_372 ?_
    refine go_iload C X886 375 rfl at_373 rfl ?_
    refine go_icmp_ne C X886 at_375 (pc' := 378) (pc2 := 400) rfl (by decide) (by decide) (fun (c375 : ¬ o2 = o2) => False.elim (by first | exact c375 rfl | omega)) (fun (c375 : o2 = o2) => ?_)
    refine go_aload C X886 380 rfl at_378 rfl rfl ?_
    refine go_iconst C X886 381 rfl at_380 (z := 1) rfl ?_
    refine go_iaload C X886 A9 (by decide) (v := (.int o3)) rfl (pc' := 382) rfl at_381 ?_
    refine go_iload C X886 384 rfl at_382 rfl ?_
    refine go_icmp_ne C X886 at_384 (pc' := 387) (pc2 := 400) rfl (by decide) (by decide) (fun (c384 : ¬ o3 = o3) => False.elim (by first | exact c384 rfl | omega)) (fun (c384 : o3 = o3) => ?_)
    refine go_aload C X886 389 rfl at_387 rfl rfl ?_
    refine go_iconst C X886 390 rfl at_389 (z := 2) rfl ?_
    refine go_iaload C X886 A9 (by decide) (v := (.int o4)) rfl (pc' := 391) rfl at_390 ?_
    refine go_iload C X886 393 rfl at_391 rfl ?_
    refine go_icmp_ne C X886 at_393 (pc' := 396) (pc2 := 400) rfl (by decide) (by decide) (fun (c393 : ¬ o4 = o4) => False.elim (by first | exact c393 rfl | omega)) (fun (c393 : o4 = o4) => ?_)
    refine go_iconst C X886 397 rfl at_396 (z := 1) rfl ?_
    refine go_goto C X886 at_397 (pc' := 401) (by decide) (by decide) ?_
    exact go_retN C X886 (by simp) (z' := 1) rfl at_401 rfl (by decide) (by decide)
set_option maxRecDepth 65536 in
set_option maxHeartbeats 40000000 in
theorem comes_1 {Post : Tables → Env → Array Value → State → Outcome → State → Prop} (hpost : ∀ tb e args s v u, (limb_1_1.after args s (.returned v) u = true ∧ limb_1_2.after args s (.returned v) u = true ∧ True) → FrameEnd s (.returned v) u (Jvm.fieldLocs frame_1_writes args s ++ Jvm.arrayLocs frame_1_arrays args s ++ Jvm.staticLocs frame_1_statics s) 24 320 → Post tb e args s (.returned v) u) :
    ArmFor flags0 classFile x code maxLocals ret World_1 tables_1 room_1 Calls_1 rest_1 Pre_1 Post := by
  intro l hfl _ _ p e ha hc hk s m args below hf hA hF happ hP
  obtain ⟨hcalls, hrest, hpre⟩ := hP
  obtain ⟨-, -, -, hnamed, -, -, -, hat⟩ := (Spec.applies_iff hf).mp happ
  obtain ⟨hg, hn⟩ := and_e (Cond.before_iff.mp (show (Jvm.Cond.and given_1 narrow_1).before args s = true from hpre))
  obtain ⟨g1, g2⟩ := and_e hg
  obtain ⟨g3, g4⟩ := and_e g2
  obtain ⟨g5, g6⟩ := and_e g4
  obtain ⟨w0, w1, w2, rfl⟩ : ∃ w0 w1 w2 : Value, args = #[w0, w1, w2] := by
    have hs : args.size = 3 := by simpa [Cond.value, given_1] using g1
    obtain ⟨L⟩ := args
    match L, hs with
    | [w0, w1, w2], _ => exact ⟨w0, w1, w2, rfl⟩
  have hw := fun d (hd : d ∈ tables_1) => atoms_spec (ws := Jvm.Cond.code x code maxLocals ret :: tables_1) hat d (List.mem_cons_of_mem _ hd)
  have hfit : Fit s := fun {y c} hc i hi => by
    obtain ⟨ha, rfl⟩ := Array.getElem?_eq_some_iff.mp hc
    have q := List.all_eq_true.mp ((Array.all_eq_true_iff_forall_mem.mp hF) _ (Array.getElem_mem ha)) i (List.mem_range.mpr hi)
    simpa [Array.getElem?_eq_getElem hi] using q
  obtain ⟨i0, ei0⟩ := is_v g3
  obtain rfl : w0 = (.int i0) := Option.some.inj ei0
  obtain ⟨i1, ei1⟩ := is_v g5
  obtain rfl : w1 = (.int i1) := Option.some.inj ei1
  obtain ⟨i2, ei2⟩ := is_v g6
  obtain rfl : w2 = (.int i2) := Option.some.inj ei2
  obtain ⟨n, o, h1, h2, h3, _, L, rfl, ⟨N, rfl⟩, hq⟩ := own_law l s _ hw i0 i1 i2  s.heap s.heap.size (Old.start s)  tables_1 p e ha hc hk s m _ below hf ((Spec.applies_iff_loose hf).mp happ).1 ⟨rfl, State.Warmed39.refl s, rfl⟩ trivial
  refine ⟨n, _, h1, h2, h3, hpost _ _ _ _ _ _ ⟨Cond.after_iff.mpr rfl, Cond.after_iff.mpr (eq_i res_at (Term.int_eval (1)) rfl), trivial⟩ ⟨hq.1, hq.2.1, (hq.2.2.sift fun y hy => Or.inr (N y hy)).mono (by decide) (by decide)⟩⟩
theorem main_1_1 : Claimed_1_1 := comes_1 fun _ _ _ _ _ _ h hF => ⟨h.1, hF⟩
theorem main_1_2 : Claimed_1_2 := comes_1 fun _ _ _ _ _ _ h hF => ⟨h.2.1, hF⟩

end Jvm.Pilot.@@N@@
namespace Jvm.Pilot.@@N@@
open Jvm Jvm.ClassFile Sem Op Lib Jvm.Free Jvm.Stand Jvm.Pilot.@@N@@.Jvm.D
/-! MADE BY PROGRAM (witnessworld.py) out of the Statement's table words and the real class files: 9 classes; the members and pool entries that the words name. The judged class is class 1, her method 1. -/
namespace start1
open Jvm.ClassFile
def u (s : String) : CpInfo := .utf8 (stringToUtf16 s)
/-- a pool by its gaps: so many unusable entries, then the entry; so many at the end -/
def gap : Nat → List CpInfo → List CpInfo
  | 0, r => r
  | n + 1, r => .unusable :: gap n r
def poolList (es : List (Nat × CpInfo)) (last : Nat) : List CpInfo := es.foldr (fun e r => gap e.1 (e.2 :: r)) (gap last [])
def pool (es : List (Nat × CpInfo)) (last : Nat) : Array CpInfo := ⟨poolList es last⟩
def fileOf (pool : Array CpInfo) (this : Nat) (attrs : Array Attribute := #[]) (ms : Array MethodInfo := #[]) (fl : Nat := 33) (sup : Nat := 0) (ifs : Array Nat := #[]) (fds : Array FieldInfo := #[]) : ClassFile where
  minorVersion := 0
  majorVersion := 65
  constantPool := pool
  accessFlags := fl
  thisClass := this
  superClass := sup
  interfaces := ifs
  fields := fds
  methods := ms
  attributes := attrs
def plain (name : String) (sup : Option ClassId) : Class where
  name := name
  kind := .ordinary
  loader := none
  accessFlags := 33
  super := sup
  interfaces := #[]
  cf := none
  fields := #[]
  methods := #[]
  instanceTypes := #[]
  staticTypes := #[]
  resolved := #[]
  callSites := []
  init := .initialized
  statics := none
  mirror := none

def pool0 : Array CpInfo := pool [(5, u "<init>"), (0, u "()V"), (1, .class_ 10), (1, u "java/lang/Object")] 113

def k0m0 : Method := { name := "<init>", desc := "()V", sig := { parameters := [], returnType := none }, accessFlags := 1, code := none }
/-- java/lang/Object -/
def k0 : Class := { plain "java/lang/Object" none with
  accessFlags := 33
  interfaces := #[]
  cf := some (fileOf pool0 8 #[] #[{ accessFlags := 1, nameIndex := 5, descriptorIndex := 6, attributes := #[] }] 33 0 #[] #[])
  fields := #[]
  methods := #[k0m0]
  instanceTypes := #[]
  staticTypes := #[]
  resolved := Array.replicate 124 none
  statics := none }

def pool1 : Array CpInfo := pool [(2, .class_ 4), (1, u "java/lang/Object"), (0, u "<init>"), (0, u "()V"), (0, .integer 2147483647), (0, .methodref 9 10), (0, .class_ 11), (0, .nameAndType 12 13), (0, u "com/example/covertide/covertide/engine/Subsets"), (0, u "next"), (0, u "([I[I[I)Z"), (0, .class_ 15), (0, u "com/example/covertide/covertide/engine/SubsetsNextPinLaw"), (2, u "law"), (0, u "(III)Z")] 5

def k1m0 : Method := { name := "<init>", desc := "()V", sig := { parameters := [], returnType := none }, accessFlags := 2, code := none }
def k1c1 : Code := { maxStack := 6, maxLocals := 18, code := code, exceptionTable := #[], attributes := #[] }
def k1m1 : Method := { name := "law", desc := "(III)Z", sig := { parameters := [.int, .int, .int], returnType := some .boolean }, accessFlags := 9, code := some k1c1 }
/-- com/example/covertide/covertide/engine/SubsetsNextPinLaw -/
def k1 : Class := { plain "com/example/covertide/covertide/engine/SubsetsNextPinLaw" (some 0) with
  accessFlags := 49
  interfaces := #[]
  cf := some (fileOf pool1 14 #[] #[{ accessFlags := 2, nameIndex := 5, descriptorIndex := 6, attributes := #[] }, { accessFlags := 9, nameIndex := 18, descriptorIndex := 19, attributes := #[] }] 49 2 #[] #[])
  fields := #[]
  methods := #[k1m0, k1m1]
  instanceTypes := #[]
  staticTypes := #[]
  resolved := Array.replicate 25 none
  statics := none }

def pool2 : Array CpInfo := pool [(2, .class_ 4), (1, u "java/lang/Object"), (0, u "<init>"), (0, u "()V"), (16, .class_ 24), (0, u "com/example/covertide/covertide/engine/Subsets"), (4, u "next"), (3, u "([I[I[I)Z")] 22

def k2m0 : Method := { name := "<init>", desc := "()V", sig := { parameters := [], returnType := none }, accessFlags := 2, code := none }
def k2c1 : Code := { maxStack := 4, maxLocals := 5, code := prog_11_method_5_code, exceptionTable := #[], attributes := #[] }
def k2m1 : Method := { name := "next", desc := "([I[I[I)Z", sig := { parameters := [(.array .int), (.array .int), (.array .int)], returnType := some .boolean }, accessFlags := 8, code := some k2c1 }
/-- com/example/covertide/covertide/engine/Subsets -/
def k2 : Class := { plain "com/example/covertide/covertide/engine/Subsets" (some 0) with
  accessFlags := 48
  interfaces := #[]
  cf := some (fileOf pool2 23 #[] #[{ accessFlags := 2, nameIndex := 5, descriptorIndex := 6, attributes := #[] }, { accessFlags := 8, nameIndex := 29, descriptorIndex := 33, attributes := #[] }] 48 2 #[] #[])
  fields := #[]
  methods := #[k2m0, k2m1]
  instanceTypes := #[]
  staticTypes := #[]
  resolved := Array.replicate 56 none
  statics := none }

def pool3 : Array CpInfo := pool [(1, u "java/lang/Cloneable"), (0, .class_ 1), (0, u "java/lang/Object"), (0, .class_ 3)] 3

/-- java/lang/Cloneable -/
def k3 : Class := { plain "java/lang/Cloneable" (some 0) with
  accessFlags := 1537
  interfaces := #[]
  cf := some (fileOf pool3 2 #[] #[] 1537 4 #[] #[])
  fields := #[]
  methods := #[]
  instanceTypes := #[]
  staticTypes := #[]
  resolved := Array.replicate 8 none
  statics := none }

def pool4 : Array CpInfo := pool [(1, u "java/io/Serializable"), (0, .class_ 1), (0, u "java/lang/Object"), (0, .class_ 3)] 3

/-- java/io/Serializable -/
def k4 : Class := { plain "java/io/Serializable" (some 0) with
  accessFlags := 1537
  interfaces := #[]
  cf := some (fileOf pool4 2 #[] #[] 1537 4 #[] #[])
  fields := #[]
  methods := #[]
  instanceTypes := #[]
  staticTypes := #[]
  resolved := Array.replicate 8 none
  statics := none }

/-- the primitive byte -/
def k5 : Class := { plain "byte" none with kind := .primitive 'B', accessFlags := 0x411 }
/-- [B -/
def k6 : Class := { plain "[B" (some 0) with kind := .array 5 .byte, interfaces := #[3, 4], accessFlags := 1041 }

/-- the primitive int -/
def k7 : Class := { plain "int" none with kind := .primitive 'I', accessFlags := 0x411 }
/-- [I -/
def k8 : Class := { plain "[I" (some 0) with kind := .array 7 .int, interfaces := #[3, 4], accessFlags := 1041 }

def heap : Heap := #[]
def classes : Array Class := #[k0, k1, k2, k3, k4, k5, k6, k7, k8]
def interned : List (Array UInt16 × Addr) := []
def slotsUsed : Nat := 0
def theMethod : MethodId := ⟨1, 1⟩
def args0 : Array Value := #[.int 3, .int 7, .int 7]
def aboutOver (below : List Frame) : State where
  vm := { classes := classes, interned := interned.toArray }
  heap := heap
  slotsUsed := slotsUsed
  threads := #[{ frames := .invoking theMethod args0 :: below }]
def below0 : List Frame := [.native { method := ⟨0, 0⟩, args := #[] }]
def about1 : State := aboutOver below0
def p0 : Program := .bare "" "" ""
def e0 : Env := launch0.env 0 0 0
theorem w_frames : about1.frames = Frame.invoking theMethod args0 :: below0 := rfl
set_option maxRecDepth 65536 in
theorem w_args : argsFit about1.vm theMethod args0 = true := by decide +kernel
set_option maxRecDepth 65536 in
theorem w_heap : heapFits about1 = true := by decide +kernel
set_option maxRecDepth 65536 in
theorem w_runnable : about1.curStatus? = some .runnable := by decide +kernel
set_option maxRecDepth 65536 in
theorem w_alone : about1.alone = true := by decide +kernel
set_option maxRecDepth 65536 in
theorem w_named : about1.methodNamed? x = some theMethod := by decide +kernel
set_option maxRecDepth 65536 in
theorem w_hears : about1.hears theMethod below0 = true := by decide +kernel
set_option maxRecDepth 65536 in
theorem w_ripe : about1.ripe theMethod args0 below0 = true := by decide +kernel
theorem w_running : about1.status = .running := rfl
set_option maxRecDepth 65536 in
theorem w_room : about1.hasRoom e0.platform room_1 = true :=
  launch0.hasRoom_least _ room_1 (by decide +kernel) (by decide +kernel) (by decide +kernel) (by decide +kernel) (by decide +kernel) (by decide +kernel)
theorem allAtoms_all (ts : List Jvm.Cond) (a : Array Jvm.Value) (st : Jvm.State) : (allAtoms ts).before a st = ts.all (fun c => c.before a st) := by
  induction ts with
  | nil => rfl
  | cons c t ih =>
    show (Jvm.Cond.and c (allAtoms t)).before a st = _
    rw [Jvm.Cond.before_and, ih, List.all_cons]
def words1 : List Jvm.Cond := Jvm.Cond.code x code maxLocals ret :: tables_1
/-- a 'code' word, met by the world's own term for the bytes: nothing is compared byte by byte -/
theorem code_word {y : MethodName} {bytes : ByteArray} {mx : Nat} {rt : Option FieldType} {a : Array Value} {s : State} {m : MethodId} {meth : Method} {c : Code} (h1 : s.methodNamed? y = some m) (h2 : s.vm.method? m = some meth) (h3 : meth.code = some c) (h4 : c.code = bytes)
    (h5 : (c.maxLocals == mx && c.exceptionTable.isEmpty && decide (c.maxStack ≤ mostOperands) && decide (meth.sig.returnType = rt) && !meth.locks && decide (parseMethodDescriptor y.desc = some meth.sig)) = true) : (Jvm.Cond.code y bytes mx rt).before a s = true := by
  simp only [Bool.and_eq_true, beq_iff_eq, Bool.not_eq_true', decide_eq_true_eq] at h5
  obtain ⟨⟨⟨⟨⟨g1, g2⟩, g3⟩, g4⟩, g5⟩, g6⟩ := h5
  simp [Cond.before, Cond.holds, Cond.value, h1, h2, h3, h4, g1, g2, g3, g4, g5, g6]
def isCode : Jvm.Cond → Bool
  | .code _ _ _ _ => true
  | _ => false
theorem all_split {L : List Jvm.Cond} {P : Jvm.Cond → Bool} (h1 : L.all (fun c => isCode c || P c) = true) (h2 : ∀ c ∈ L.filter isCode, P c = true) : L.all P = true := by
  refine List.all_eq_true.mpr fun c hc => ?_
  have h := List.all_eq_true.mp h1 c hc
  rcases Bool.eq_false_or_eq_true (isCode c) with hi | hi
  · exact h2 c (List.mem_filter.mpr ⟨hc, hi⟩)
  · simpa [hi] using h
set_option maxRecDepth 65536 in
theorem w_c0 : (Jvm.Cond.code x code maxLocals ret).before args0 about1 = true := code_word (m := ⟨1, 1⟩) (meth := k1m1) (c := k1c1) (by decide +kernel) rfl rfl rfl (by decide +kernel)
set_option maxRecDepth 65536 in
theorem w_c1 : (Jvm.Cond.code ({ cls := "com/example/covertide/covertide/engine/Subsets", name := "next", desc := "([I[I[I)Z" } : Jvm.MethodName) prog_11_method_5_code (5 : Nat) (Option.some Jvm.ClassFile.FieldType.boolean)).before args0 about1 = true := code_word (m := ⟨2, 1⟩) (meth := k2m1) (c := k2c1) (by decide +kernel) rfl rfl rfl (by decide +kernel)
def codes1 : List Jvm.Cond := [Jvm.Cond.code x code maxLocals ret, Jvm.Cond.code ({ cls := "com/example/covertide/covertide/engine/Subsets", name := "next", desc := "([I[I[I)Z" } : Jvm.MethodName) prog_11_method_5_code (5 : Nat) (Option.some Jvm.ClassFile.FieldType.boolean)]
set_option maxRecDepth 65536 in
theorem codes_eq : words1.filter isCode = codes1 := rfl
theorem w_codes : ∀ c ∈ words1.filter isCode, c.before args0 about1 = true := by
  rw [codes_eq]
  intro c hc
  simp only [codes1, List.mem_cons, List.not_mem_nil, or_false] at hc
  rcases hc with rfl | rfl
  · exact w_c0
  · exact w_c1
set_option maxRecDepth 65536 in
theorem w_t1 : words1.all (fun c => isCode c || c.before args0 about1) = true := by decide +kernel
theorem w_tables : (allAtoms (Jvm.Cond.code x code maxLocals ret :: tables_1)).before args0 about1 = true := by
  rw [allAtoms_all]
  show words1.all (fun c => c.before args0 about1) = true
  refine all_split ?_ w_codes
  rw [w_t1]
set_option maxRecDepth 65536 in
theorem w_case : (Jvm.Cond.and given_1 narrow_1).before args0 about1 = true := by decide +kernel
theorem w_applies : (headSpec (Jvm.Cond.code x code maxLocals ret :: tables_1) room_1).applies x e0.platform about1 = true :=
  (Spec.applies_iff w_frames).mpr ⟨w_running, w_runnable, w_alone, w_named, w_hears, w_ripe, w_room, w_tables⟩
theorem atStart : AtStart classFile x code maxLocals ret World_1 tables_1 room_1 Calls_1 rest_1 Pre_1 launch0 p0 e0 about1 theMethod args0 below0 :=
  ⟨lists_1, trivial, launch0.admits_env _ _ _, launch0.least_env, fairChoices_fair.cas, fairChoices_fair.clock, w_frames, w_args, w_heap, w_applies, trivial, trivial, w_case⟩
end start1
theorem witness_1 : WitnessClaimed_1 := ⟨start1.p0, start1.e0, start1.about1, start1.theMethod, start1.args0, start1.below0, start1.atStart⟩
end Jvm.Pilot.@@N@@
