import JvmDerived
import JvmDerived.Pilot.@@N@@Statement
import JvmDerived.Pilot.@@N@@Code
set_option linter.unusedVariables false
set_option linter.unusedSimpArgs false
namespace Jvm.Pilot.@@N@@
open Jvm Jvm.ClassFile Sem Op Lib Jvm.Free Jvm.Stand Jvm.LawKit Jvm.RoadKit Bundle Jvm.Pilot.@@N@@.Jvm.D
/-! ## the common layer: a run that comes to an end of which Q speaks, step by step backwards -/
def Go (p : Program) (e : Env) (below : List Frame) (Q : Outcome → State → Prop) (S : State) : Prop :=
  ∃ s₂ o, Steps p.tables e below S s₂ ∧ s₂.status = .running ∧ Ended s₂ below o ∧ Q o s₂
theorem Go.back {p : Program} {e : Env} {below : List Frame} {Q : Outcome → State → Prop} {A B : State} (k : ∀ t, Steps p.tables e below B t → Steps p.tables e below A t) (h : Go p e below Q B) : Go p e below Q A := by
  obtain ⟨t, o, h1, h2⟩ := h
  exact ⟨t, o, k _ h1, h2⟩
theorem Go.cast {p : Program} {e : Env} {below : List Frame} {Q : Outcome → State → Prop} {A B : State} (k : A = B) (h : Go p e below Q B) : Go p e below Q A := k ▸ h
abbrev jv (x : Int64) : Slot := .val (.long x)
abbrev dv (x : UInt64) : Slot := .val (.double x)
abbrev un : Slot := .unset
abbrev sc : Slot := .second
/-- what a body knows of itself -/
def Cx (p : Program) (s : State) (m : MethodId) (meth : Method) (c : Code) (Z : State) (a0 : Array Value) (own : String) (bytes : ByteArray) (maxL : Nat) (ret : Option FieldType) (nm : String) : Prop :=
  p.tables.exec = Jvm.exec ∧ Z.Warmed39 s.vm ∧ (∀ d ∈ tables_1, d.before a0 Z = true) ∧ s.vm.findClass own = some m.cls ∧ c.code = bytes ∧ c.maxLocals = maxL ∧ meth.sig.returnType = ret ∧ meth.locks = false ∧ meth.name = nm
/-- where the run stands: heap h; every write so far lies at or above n0; k cells and n slots made at the most -/
def St (Z : State) (p : Program) (l : Launch) (e : Env) (R : Room) (s : State) (m : MethodId) (args : Array Value) (below : List Frame) (meth : Method) (c : Code) (n0 : Nat) (T : State) (h : Heap) (k n : Nat) : Prop :=
  ∃ locs, Stand p l e R s m args below meth c T locs k n ∧ Fr n0 locs ∧ Old Z n0 s.heap ∧ T.heap = h
def FinQ (s : State) (k n n0 : Nat) (Q : Option Value → Heap → Prop) (o : Outcome) (t : State) : Prop := ∃ v L, o = .returned v ∧ (Fr n0 L ∧ Q v t.heap) ∧ FrameEnd s o t L k n
/-- a body's contract -/
def Con (l : Launch) (Z : State) (y : MethodName) (bytes : ByteArray) (maxL : Nat) (ret : Option FieldType) (rm : Room) (as' : Array Value) (h : Heap) (n0 : Nat) (Q : Option Value → Heap → Prop) : Prop :=
  ∀ ws, MetFree l y (head1 (Jvm.Cond.code y bytes maxL ret :: ws) rm) (fun a U => a = as' ∧ Z.Warmed39 U.vm ∧ U.heap = h) (fun _ _ _ _ _ => True) (fun _ U o U' => ∃ v L, o = .returned v ∧ (Fr n0 L ∧ Q v U'.heap) ∧ FrameEnd U o U' L rm.cells rm.slots)
theorem con_of {l : Launch} {Z : State} {a0 : Array Value} {y : MethodName} {bytes : ByteArray} {maxL : Nat} {ret : Option FieldType} {rm : Room} {as' : Array Value} {h : Heap} {n0 : Nat} {Q : Option Value → Heap → Prop}
    (hw : ∀ d ∈ tables_1, d.before a0 Z = true) (hpl : plainFor y = true) (hn0 : Old Z n0 h)
    (body : ∀ p e s m below meth c T, Cx p s m meth c Z a0 y.cls bytes maxL ret y.name → St Z p l e rm s m as' below meth c n0 T h 0 0 → Go p e below (FinQ s rm.cells rm.slots n0 Q) (T.setTop (entryFrame m as' maxL))) :
    Con l Z y bytes maxL ret rm as' h n0 Q := by
  intro ws
  refine MetFree.of_bodySF hpl hisR ?_
  intro p e s m args below meth c s₁ Bd hml0 hP hK
  obtain ⟨rfl, hZ, hh⟩ := hP
  have e0 : s₁.heap = h := by rw [← hh, Bd.state]; rfl
  exact body p e s m below meth c s₁ ⟨Bd.exec, hZ, hw, findClass_of_methodNamed Bd.named, Bd.bytes, hml0, Bd.returns, Bd.notSynchronized, (name_of_methodNamed Bd.named Bd.method).1⟩ ⟨[], Stand.of_body Bd, Fr.nil n0, by rw [hh]; exact hn0, e0⟩
section Steps1
variable {p : Program} {l : Launch} {e : Env} {R : Room} {s : State} {m : MethodId} {args : Array Value} {below : List Frame} {meth : Method} {c : Code} {Z : State} {a0 : Array Value} {own : String} {bytes : ByteArray} {maxL : Nat} {ret : Option FieldType} {nm : String} {n0 : Nat} {T : State} {h : Heap} {k n : Nat} {Q : Outcome → State → Prop} {pc pc' pc2 : Nat} {Ls Ls' : Array Slot} {st : List Value}
theorem Cx.w (C : Cx p s m meth c Z a0 own bytes maxL ret nm) (i : Nat) {d : Jvm.Cond} (hd : tables_1[i]? = some d) : d.before a0 Z = true := C.2.2.1 _ (List.mem_of_getElem? hd)
theorem Cx.ws (C : Cx p s m meth c Z a0 own bytes maxL ret nm) : ∀ d ∈ tables_1, d.before a0 Z = true := C.2.2.1
theorem Cx.cd (C : Cx p s m meth c Z a0 own bytes maxL ret nm) {r : Except ClassFile.DecodeError (ClassFile.Instr × Nat)} (h2 : decode bytes pc = r) : decode c.code pc = r := hb C.2.2.2.2.1 h2
theorem Cx.ow (C : Cx p s m meth c Z a0 own bytes maxL ret nm) : s.vm.findClass own = some m.cls := C.2.2.2.1
theorem Cx.hZ (C : Cx p s m meth c Z a0 own bytes maxL ret nm) : Z.Warmed39 s.vm := C.2.1
theorem Cx.ml (C : Cx p s m meth c Z a0 own bytes maxL ret nm) : c.maxLocals = maxL := C.2.2.2.2.2.1
theorem Cx.rt (C : Cx p s m meth c Z a0 own bytes maxL ret nm) : meth.sig.returnType = ret := C.2.2.2.2.2.2.1
theorem Cx.lk (C : Cx p s m meth c Z a0 own bytes maxL ret nm) : meth.locks = false := C.2.2.2.2.2.2.2.1
theorem Cx.nmE (C : Cx p s m meth c Z a0 own bytes maxL ret nm) : meth.name = nm := C.2.2.2.2.2.2.2.2
theorem St.sz (X : St Z p l e R s m args below meth c n0 T h k n) : n0 ≤ h.size := by obtain ⟨_, Y, _, q, rfl⟩ := X; exact Nat.le_trans (Nat.le_trans (Nat.le_of_eq q.1.symm) q.2.1) Y.same.2.1
theorem St.old (X : St Z p l e R s m args below meth c n0 T h k n) : Old Z n0 h := by
  obtain ⟨locs, Y, N, o, rfl⟩ := X
  refine ⟨o.1, Nat.le_trans o.2.1 Y.same.2.1, fun a ce hc => ?_⟩
  obtain ⟨c', e1, e2, e3, e4⟩ := Y.same.2.2.2.2.2 a ce (o.2.2 a ce hc)
  have lt := (Array.getElem?_eq_some_iff.mp hc).1
  have hs : c'.slots = ce.slots := Array.ext_getElem? fun i => e4 i fun q => by have := N _ q; have := o.1; simp at *; omega
  rw [hs] at e2
  exact (show c' = ce from e2) ▸ e1
theorem St.more (X : St Z p l e R s m args below meth c n0 T h k n) {k' n' : Nat} (hk : k ≤ k') (hn : n ≤ n') : St Z p l e R s m args below meth c n0 T h k' n' := by
  obtain ⟨locs, Y, r⟩ := X
  exact ⟨locs, Y.more hk hn, r⟩

theorem go_iload (C : Cx p s m meth c Z a0 own bytes maxL ret nm) (X : St Z p l e R s m args below meth c n0 T h k n) {i : Nat} {v : Int32} (pc' : Nat) (hp : pc + 2 = pc') (hd : decode bytes pc = .ok (.iload i, 2)) (hl : Ls[i]? = some (.val (.int v))) (hr : Go p e below Q (T.setTop (mkF m pc' Ls (.int v :: st)))) : Go p e below Q (T.setTop (mkF m pc Ls st)) := by
  subst hp
  obtain ⟨locs, Y, -, -, -⟩ := X
  exact Go.back (fun t kt => Jvm.Free.XS.iload Y.here C.1 rfl (C.cd hd) hl kt) hr
theorem go_iloadN (C : Cx p s m meth c Z a0 own bytes maxL ret nm) (X : St Z p l e R s m args below meth c n0 T h k n) {i : Fin 4} {v : Int32} (pc' : Nat) (hp : pc + 1 = pc') (hd : decode bytes pc = .ok (.iload_n i, 1)) (hl : Ls[i.val]? = some (.val (.int v))) (hr : Go p e below Q (T.setTop (mkF m pc' Ls (.int v :: st)))) : Go p e below Q (T.setTop (mkF m pc Ls st)) := by
  subst hp
  obtain ⟨locs, Y, -, -, -⟩ := X
  exact Go.back (fun t kt => Jvm.Free.XS.iloadN Y.here C.1 rfl (C.cd hd) hl kt) hr
theorem go_istore (C : Cx p s m meth c Z a0 own bytes maxL ret nm) (X : St Z p l e R s m args below meth c n0 T h k n) {i : Nat} {v : Int32} (pc' : Nat) (hp : pc + 2 = pc') (hd : decode bytes pc = .ok (.istore i, 2)) (Ls' : Array Slot) (hl : storeLocals Ls i (.int v) = some Ls') (hr : Go p e below Q (T.setTop (mkF m pc' Ls' st))) : Go p e below Q (T.setTop (mkF m pc Ls (.int v :: st))) := by
  subst hp
  obtain ⟨locs, Y, -, -, -⟩ := X
  exact Go.back (fun t kt => Jvm.Free.XS.istore Y.here C.1 rfl (C.cd hd) rfl hl kt) hr
theorem go_istoreN (C : Cx p s m meth c Z a0 own bytes maxL ret nm) (X : St Z p l e R s m args below meth c n0 T h k n) {i : Fin 4} {v : Int32} (pc' : Nat) (hp : pc + 1 = pc') (hd : decode bytes pc = .ok (.istore_n i, 1)) (Ls' : Array Slot) (hl : storeLocals Ls i.val (.int v) = some Ls') (hr : Go p e below Q (T.setTop (mkF m pc' Ls' st))) : Go p e below Q (T.setTop (mkF m pc Ls (.int v :: st))) := by
  subst hp
  obtain ⟨locs, Y, -, -, -⟩ := X
  exact Go.back (fun t kt => Jvm.Free.XS.istoreN Y.here C.1 rfl (C.cd hd) rfl hl kt) hr
theorem go_lload (C : Cx p s m meth c Z a0 own bytes maxL ret nm) (X : St Z p l e R s m args below meth c n0 T h k n) {i : Nat} {v : Int64} (pc' : Nat) (hp : pc + 2 = pc') (hd : decode bytes pc = .ok (.lload i, 2)) (hl : Ls[i]? = some (.val (.long v))) (hr : Go p e below Q (T.setTop (mkF m pc' Ls (.long v :: st)))) : Go p e below Q (T.setTop (mkF m pc Ls st)) := by
  subst hp
  obtain ⟨locs, Y, -, -, -⟩ := X
  exact Go.back (fun t kt => Jvm.Free.XS.lload Y.here C.1 rfl (C.cd hd) hl kt) hr
theorem go_lloadN (C : Cx p s m meth c Z a0 own bytes maxL ret nm) (X : St Z p l e R s m args below meth c n0 T h k n) {i : Fin 4} {v : Int64} (pc' : Nat) (hp : pc + 1 = pc') (hd : decode bytes pc = .ok (.lload_n i, 1)) (hl : Ls[i.val]? = some (.val (.long v))) (hr : Go p e below Q (T.setTop (mkF m pc' Ls (.long v :: st)))) : Go p e below Q (T.setTop (mkF m pc Ls st)) := by
  subst hp
  obtain ⟨locs, Y, -, -, -⟩ := X
  exact Go.back (fun t kt => Jvm.Free.XS.lloadN Y.here C.1 rfl (C.cd hd) hl kt) hr
theorem go_lstore (C : Cx p s m meth c Z a0 own bytes maxL ret nm) (X : St Z p l e R s m args below meth c n0 T h k n) {i : Nat} {v : Int64} (pc' : Nat) (hp : pc + 2 = pc') (hd : decode bytes pc = .ok (.lstore i, 2)) (Ls' : Array Slot) (hl : storeLocals Ls i (.long v) = some Ls') (hr : Go p e below Q (T.setTop (mkF m pc' Ls' st))) : Go p e below Q (T.setTop (mkF m pc Ls (.long v :: st))) := by
  subst hp
  obtain ⟨locs, Y, -, -, -⟩ := X
  exact Go.back (fun t kt => Jvm.Free.XS.lstore Y.here C.1 rfl (C.cd hd) rfl hl kt) hr
theorem go_lstoreN (C : Cx p s m meth c Z a0 own bytes maxL ret nm) (X : St Z p l e R s m args below meth c n0 T h k n) {i : Fin 4} {v : Int64} (pc' : Nat) (hp : pc + 1 = pc') (hd : decode bytes pc = .ok (.lstore_n i, 1)) (Ls' : Array Slot) (hl : storeLocals Ls i.val (.long v) = some Ls') (hr : Go p e below Q (T.setTop (mkF m pc' Ls' st))) : Go p e below Q (T.setTop (mkF m pc Ls (.long v :: st))) := by
  subst hp
  obtain ⟨locs, Y, -, -, -⟩ := X
  exact Go.back (fun t kt => Jvm.Free.XS.lstoreN Y.here C.1 rfl (C.cd hd) rfl hl kt) hr
theorem go_aload (C : Cx p s m meth c Z a0 own bytes maxL ret nm) (X : St Z p l e R s m args below meth c n0 T h k n) {i : Nat} {v : Value} (pc' : Nat) (hp : pc + 2 = pc') (hd : decode bytes pc = .ok (.aload i, 2)) (hl : Ls[i]? = some (.val v)) (hv : v.isRef = true) (hr : Go p e below Q (T.setTop (mkF m pc' Ls (v :: st)))) : Go p e below Q (T.setTop (mkF m pc Ls st)) := by
  subst hp
  obtain ⟨locs, Y, -, -, -⟩ := X
  exact Go.back (fun t kt => Jvm.Free.XS.aload Y.here C.1 rfl (C.cd hd) hl hv kt) hr
theorem go_aloadN (C : Cx p s m meth c Z a0 own bytes maxL ret nm) (X : St Z p l e R s m args below meth c n0 T h k n) {i : Fin 4} {v : Value} (pc' : Nat) (hp : pc + 1 = pc') (hd : decode bytes pc = .ok (.aload_n i, 1)) (hl : Ls[i.val]? = some (.val v)) (hv : v.isRef = true) (hr : Go p e below Q (T.setTop (mkF m pc' Ls (v :: st)))) : Go p e below Q (T.setTop (mkF m pc Ls st)) := by
  subst hp
  obtain ⟨locs, Y, -, -, -⟩ := X
  exact Go.back (fun t kt => Jvm.Free.XS.aloadN Y.here C.1 rfl (C.cd hd) hl hv kt) hr
theorem go_astore (C : Cx p s m meth c Z a0 own bytes maxL ret nm) (X : St Z p l e R s m args below meth c n0 T h k n) {i : Nat} {v : Value} (pc' : Nat) (hp : pc + 2 = pc') (hd : decode bytes pc = .ok (.astore i, 2)) (hv : v.isRef = true) (Ls' : Array Slot) (hl : storeLocals Ls i v = some Ls') (hr : Go p e below Q (T.setTop (mkF m pc' Ls' st))) : Go p e below Q (T.setTop (mkF m pc Ls (v :: st))) := by
  subst hp
  obtain ⟨locs, Y, -, -, -⟩ := X
  exact Go.back (fun t kt => Jvm.Free.XS.astore Y.here C.1 rfl (C.cd hd) rfl hv hl kt) hr
theorem go_astoreN (C : Cx p s m meth c Z a0 own bytes maxL ret nm) (X : St Z p l e R s m args below meth c n0 T h k n) {i : Fin 4} {v : Value} (pc' : Nat) (hp : pc + 1 = pc') (hd : decode bytes pc = .ok (.astore_n i, 1)) (hv : v.isRef = true) (Ls' : Array Slot) (hl : storeLocals Ls i.val v = some Ls') (hr : Go p e below Q (T.setTop (mkF m pc' Ls' st))) : Go p e below Q (T.setTop (mkF m pc Ls (v :: st))) := by
  subst hp
  obtain ⟨locs, Y, -, -, -⟩ := X
  exact Go.back (fun t kt => Jvm.Free.XS.astoreN Y.here C.1 rfl (C.cd hd) rfl hv hl kt) hr
theorem go_iconst (C : Cx p s m meth c Z a0 own bytes maxL ret nm) (X : St Z p l e R s m args below meth c n0 T h k n) {i : Int} {z : Int32} (pc' : Nat) (hp : pc + 1 = pc') (hd : decode bytes pc = .ok (.iconst i, 1)) (hz : Int32.ofInt i = z) (hr : Go p e below Q (T.setTop (mkF m pc' Ls (.int z :: st)))) : Go p e below Q (T.setTop (mkF m pc Ls st)) := by
  subst hp
  obtain ⟨locs, Y, -, -, -⟩ := X
  exact Go.back (fun t kt => by subst hz; exact Jvm.Free.XS.iconst Y.here C.1 rfl (C.cd hd) kt) hr
theorem go_bipush (C : Cx p s m meth c Z a0 own bytes maxL ret nm) (X : St Z p l e R s m args below meth c n0 T h k n) {i : Int} {z : Int32} (pc' : Nat) (hp : pc + 2 = pc') (hd : decode bytes pc = .ok (.bipush i, 2)) (hz : (Int8.ofInt i).toInt32 = z) (hr : Go p e below Q (T.setTop (mkF m pc' Ls (.int z :: st)))) : Go p e below Q (T.setTop (mkF m pc Ls st)) := by
  subst hp
  obtain ⟨locs, Y, -, -, -⟩ := X
  exact Go.back (fun t kt => by subst hz; exact Jvm.Free.XS.bipush Y.here C.1 rfl (C.cd hd) kt) hr
theorem go_sipush (C : Cx p s m meth c Z a0 own bytes maxL ret nm) (X : St Z p l e R s m args below meth c n0 T h k n) {i : Int} {z : Int32} (pc' : Nat) (hp : pc + 3 = pc') (hd : decode bytes pc = .ok (.sipush i, 3)) (hz : (Int16.ofInt i).toInt32 = z) (hr : Go p e below Q (T.setTop (mkF m pc' Ls (.int z :: st)))) : Go p e below Q (T.setTop (mkF m pc Ls st)) := by
  subst hp
  obtain ⟨locs, Y, -, -, -⟩ := X
  exact Go.back (fun t kt => by subst hz; exact Jvm.Free.XS.sipush Y.here C.1 rfl (C.cd hd) kt) hr
theorem go_lconst (C : Cx p s m meth c Z a0 own bytes maxL ret nm) (X : St Z p l e R s m args below meth c n0 T h k n) {i : Fin 2} {z : Int64} (pc' : Nat) (hp : pc + 1 = pc') (hd : decode bytes pc = .ok (.lconst i, 1)) (hz : Int64.ofNat i = z) (hr : Go p e below Q (T.setTop (mkF m pc' Ls (.long z :: st)))) : Go p e below Q (T.setTop (mkF m pc Ls st)) := by
  subst hp
  obtain ⟨locs, Y, -, -, -⟩ := X
  exact Go.back (fun t kt => by subst hz; exact Jvm.Free.XS.lconst Y.here C.1 rfl (C.cd hd) kt) hr
theorem go_aconstNull (C : Cx p s m meth c Z a0 own bytes maxL ret nm) (X : St Z p l e R s m args below meth c n0 T h k n)  (pc' : Nat) (hp : pc + 1 = pc') (hd : decode bytes pc = .ok (.aconst_null, 1)) (hr : Go p e below Q (T.setTop (mkF m pc' Ls (.null :: st)))) : Go p e below Q (T.setTop (mkF m pc Ls st)) := by
  subst hp
  obtain ⟨locs, Y, -, -, -⟩ := X
  exact Go.back (fun t kt => Jvm.Free.XS.aconstNull Y.here C.1 rfl (C.cd hd) kt) hr
theorem go_iaddL (C : Cx p s m meth c Z a0 own bytes maxL ret nm) (X : St Z p l e R s m args below meth c n0 T h k n) {x y z : Int32} (pc' : Nat) (hp : pc + 1 = pc') (hd : decode bytes pc = .ok (.iadd, 1)) (hz : x + y = z) (hr : Go p e below Q (T.setTop (mkF m pc' Ls (.int z :: st)))) : Go p e below Q (T.setTop (mkF m pc Ls (.int y :: .int x :: st))) := by
  subst hp
  obtain ⟨locs, Y, -, -, -⟩ := X
  exact Go.back (fun t kt => by subst hz; exact Jvm.Free.XS.iadd Y.here C.1 rfl (C.cd hd) rfl kt) hr
theorem go_iadd (C : Cx p s m meth c Z a0 own bytes maxL ret nm) (X : St Z p l e R s m args below meth c n0 T h k n) {x y : Int32} (pc' : Nat) (hp : pc + 1 = pc') (hd : decode bytes pc = .ok (.iadd, 1)) (hr : Go p e below Q (T.setTop (mkF m pc' Ls (.int (x + y) :: st)))) : Go p e below Q (T.setTop (mkF m pc Ls (.int y :: .int x :: st))) := by
  subst hp
  obtain ⟨locs, Y, -, -, -⟩ := X
  exact Go.back (fun t kt => Jvm.Free.XS.iadd Y.here C.1 rfl (C.cd hd) rfl kt) hr
theorem go_isubL (C : Cx p s m meth c Z a0 own bytes maxL ret nm) (X : St Z p l e R s m args below meth c n0 T h k n) {x y z : Int32} (pc' : Nat) (hp : pc + 1 = pc') (hd : decode bytes pc = .ok (.isub, 1)) (hz : x - y = z) (hr : Go p e below Q (T.setTop (mkF m pc' Ls (.int z :: st)))) : Go p e below Q (T.setTop (mkF m pc Ls (.int y :: .int x :: st))) := by
  subst hp
  obtain ⟨locs, Y, -, -, -⟩ := X
  exact Go.back (fun t kt => by subst hz; exact Jvm.Free.XS.isub Y.here C.1 rfl (C.cd hd) rfl kt) hr
theorem go_isub (C : Cx p s m meth c Z a0 own bytes maxL ret nm) (X : St Z p l e R s m args below meth c n0 T h k n) {x y : Int32} (pc' : Nat) (hp : pc + 1 = pc') (hd : decode bytes pc = .ok (.isub, 1)) (hr : Go p e below Q (T.setTop (mkF m pc' Ls (.int (x - y) :: st)))) : Go p e below Q (T.setTop (mkF m pc Ls (.int y :: .int x :: st))) := by
  subst hp
  obtain ⟨locs, Y, -, -, -⟩ := X
  exact Go.back (fun t kt => Jvm.Free.XS.isub Y.here C.1 rfl (C.cd hd) rfl kt) hr
theorem go_imulL (C : Cx p s m meth c Z a0 own bytes maxL ret nm) (X : St Z p l e R s m args below meth c n0 T h k n) {x y z : Int32} (pc' : Nat) (hp : pc + 1 = pc') (hd : decode bytes pc = .ok (.imul, 1)) (hz : x * y = z) (hr : Go p e below Q (T.setTop (mkF m pc' Ls (.int z :: st)))) : Go p e below Q (T.setTop (mkF m pc Ls (.int y :: .int x :: st))) := by
  subst hp
  obtain ⟨locs, Y, -, -, -⟩ := X
  exact Go.back (fun t kt => by subst hz; exact Jvm.Free.XS.imul Y.here C.1 rfl (C.cd hd) rfl kt) hr
theorem go_imul (C : Cx p s m meth c Z a0 own bytes maxL ret nm) (X : St Z p l e R s m args below meth c n0 T h k n) {x y : Int32} (pc' : Nat) (hp : pc + 1 = pc') (hd : decode bytes pc = .ok (.imul, 1)) (hr : Go p e below Q (T.setTop (mkF m pc' Ls (.int (x * y) :: st)))) : Go p e below Q (T.setTop (mkF m pc Ls (.int y :: .int x :: st))) := by
  subst hp
  obtain ⟨locs, Y, -, -, -⟩ := X
  exact Go.back (fun t kt => Jvm.Free.XS.imul Y.here C.1 rfl (C.cd hd) rfl kt) hr
theorem go_iandL (C : Cx p s m meth c Z a0 own bytes maxL ret nm) (X : St Z p l e R s m args below meth c n0 T h k n) {x y z : Int32} (pc' : Nat) (hp : pc + 1 = pc') (hd : decode bytes pc = .ok (.iand, 1)) (hz : x &&& y = z) (hr : Go p e below Q (T.setTop (mkF m pc' Ls (.int z :: st)))) : Go p e below Q (T.setTop (mkF m pc Ls (.int y :: .int x :: st))) := by
  subst hp
  obtain ⟨locs, Y, -, -, -⟩ := X
  exact Go.back (fun t kt => by subst hz; exact Jvm.Free.XS.iand Y.here C.1 rfl (C.cd hd) rfl kt) hr
theorem go_iand (C : Cx p s m meth c Z a0 own bytes maxL ret nm) (X : St Z p l e R s m args below meth c n0 T h k n) {x y : Int32} (pc' : Nat) (hp : pc + 1 = pc') (hd : decode bytes pc = .ok (.iand, 1)) (hr : Go p e below Q (T.setTop (mkF m pc' Ls (.int (x &&& y) :: st)))) : Go p e below Q (T.setTop (mkF m pc Ls (.int y :: .int x :: st))) := by
  subst hp
  obtain ⟨locs, Y, -, -, -⟩ := X
  exact Go.back (fun t kt => Jvm.Free.XS.iand Y.here C.1 rfl (C.cd hd) rfl kt) hr
theorem go_iorL (C : Cx p s m meth c Z a0 own bytes maxL ret nm) (X : St Z p l e R s m args below meth c n0 T h k n) {x y z : Int32} (pc' : Nat) (hp : pc + 1 = pc') (hd : decode bytes pc = .ok (.ior, 1)) (hz : x ||| y = z) (hr : Go p e below Q (T.setTop (mkF m pc' Ls (.int z :: st)))) : Go p e below Q (T.setTop (mkF m pc Ls (.int y :: .int x :: st))) := by
  subst hp
  obtain ⟨locs, Y, -, -, -⟩ := X
  exact Go.back (fun t kt => by subst hz; exact Jvm.Free.XS.ior Y.here C.1 rfl (C.cd hd) rfl kt) hr
theorem go_ior (C : Cx p s m meth c Z a0 own bytes maxL ret nm) (X : St Z p l e R s m args below meth c n0 T h k n) {x y : Int32} (pc' : Nat) (hp : pc + 1 = pc') (hd : decode bytes pc = .ok (.ior, 1)) (hr : Go p e below Q (T.setTop (mkF m pc' Ls (.int (x ||| y) :: st)))) : Go p e below Q (T.setTop (mkF m pc Ls (.int y :: .int x :: st))) := by
  subst hp
  obtain ⟨locs, Y, -, -, -⟩ := X
  exact Go.back (fun t kt => Jvm.Free.XS.ior Y.here C.1 rfl (C.cd hd) rfl kt) hr
theorem go_ixorL (C : Cx p s m meth c Z a0 own bytes maxL ret nm) (X : St Z p l e R s m args below meth c n0 T h k n) {x y z : Int32} (pc' : Nat) (hp : pc + 1 = pc') (hd : decode bytes pc = .ok (.ixor, 1)) (hz : x ^^^ y = z) (hr : Go p e below Q (T.setTop (mkF m pc' Ls (.int z :: st)))) : Go p e below Q (T.setTop (mkF m pc Ls (.int y :: .int x :: st))) := by
  subst hp
  obtain ⟨locs, Y, -, -, -⟩ := X
  exact Go.back (fun t kt => by subst hz; exact Jvm.Free.XS.ixor Y.here C.1 rfl (C.cd hd) rfl kt) hr
theorem go_ixor (C : Cx p s m meth c Z a0 own bytes maxL ret nm) (X : St Z p l e R s m args below meth c n0 T h k n) {x y : Int32} (pc' : Nat) (hp : pc + 1 = pc') (hd : decode bytes pc = .ok (.ixor, 1)) (hr : Go p e below Q (T.setTop (mkF m pc' Ls (.int (x ^^^ y) :: st)))) : Go p e below Q (T.setTop (mkF m pc Ls (.int y :: .int x :: st))) := by
  subst hp
  obtain ⟨locs, Y, -, -, -⟩ := X
  exact Go.back (fun t kt => Jvm.Free.XS.ixor Y.here C.1 rfl (C.cd hd) rfl kt) hr
theorem go_idiv (C : Cx p s m meth c Z a0 own bytes maxL ret nm) (X : St Z p l e R s m args below meth c n0 T h k n) {x y : Int32} (pc' : Nat) (hp : pc + 1 = pc') (hd : decode bytes pc = .ok (.idiv, 1)) (hy : y ≠ 0) (hr : Go p e below Q (T.setTop (mkF m pc' Ls (.int (x / y) :: st)))) : Go p e below Q (T.setTop (mkF m pc Ls (.int y :: .int x :: st))) := by
  subst hp
  obtain ⟨locs, Y, -, -, -⟩ := X
  exact Go.back (fun t kt => Jvm.Free.XS.idiv Y.here C.1 rfl (C.cd hd) rfl hy kt) hr
theorem go_ineg (C : Cx p s m meth c Z a0 own bytes maxL ret nm) (X : St Z p l e R s m args below meth c n0 T h k n) {x : Int32} (pc' : Nat) (hp : pc + 1 = pc') (hd : decode bytes pc = .ok (.ineg, 1)) (hr : Go p e below Q (T.setTop (mkF m pc' Ls (.int (-x) :: st)))) : Go p e below Q (T.setTop (mkF m pc Ls (.int x :: st))) := by
  subst hp
  obtain ⟨locs, Y, -, -, -⟩ := X
  exact Go.back (fun t kt => Jvm.Free.XS.ineg Y.here C.1 rfl (C.cd hd) rfl kt) hr
theorem go_laddL (C : Cx p s m meth c Z a0 own bytes maxL ret nm) (X : St Z p l e R s m args below meth c n0 T h k n) {x y z : Int64} (pc' : Nat) (hp : pc + 1 = pc') (hd : decode bytes pc = .ok (.ladd, 1)) (hz : x + y = z) (hr : Go p e below Q (T.setTop (mkF m pc' Ls (.long z :: st)))) : Go p e below Q (T.setTop (mkF m pc Ls (.long y :: .long x :: st))) := by
  subst hp
  obtain ⟨locs, Y, -, -, -⟩ := X
  exact Go.back (fun t kt => by subst hz; exact Jvm.Free.XS.ladd Y.here C.1 rfl (C.cd hd) rfl kt) hr
theorem go_ladd (C : Cx p s m meth c Z a0 own bytes maxL ret nm) (X : St Z p l e R s m args below meth c n0 T h k n) {x y : Int64} (pc' : Nat) (hp : pc + 1 = pc') (hd : decode bytes pc = .ok (.ladd, 1)) (hr : Go p e below Q (T.setTop (mkF m pc' Ls (.long (x + y) :: st)))) : Go p e below Q (T.setTop (mkF m pc Ls (.long y :: .long x :: st))) := by
  subst hp
  obtain ⟨locs, Y, -, -, -⟩ := X
  exact Go.back (fun t kt => Jvm.Free.XS.ladd Y.here C.1 rfl (C.cd hd) rfl kt) hr
theorem go_lsubL (C : Cx p s m meth c Z a0 own bytes maxL ret nm) (X : St Z p l e R s m args below meth c n0 T h k n) {x y z : Int64} (pc' : Nat) (hp : pc + 1 = pc') (hd : decode bytes pc = .ok (.lsub, 1)) (hz : x - y = z) (hr : Go p e below Q (T.setTop (mkF m pc' Ls (.long z :: st)))) : Go p e below Q (T.setTop (mkF m pc Ls (.long y :: .long x :: st))) := by
  subst hp
  obtain ⟨locs, Y, -, -, -⟩ := X
  exact Go.back (fun t kt => by subst hz; exact Jvm.Free.XS.lsub Y.here C.1 rfl (C.cd hd) rfl kt) hr
theorem go_lsub (C : Cx p s m meth c Z a0 own bytes maxL ret nm) (X : St Z p l e R s m args below meth c n0 T h k n) {x y : Int64} (pc' : Nat) (hp : pc + 1 = pc') (hd : decode bytes pc = .ok (.lsub, 1)) (hr : Go p e below Q (T.setTop (mkF m pc' Ls (.long (x - y) :: st)))) : Go p e below Q (T.setTop (mkF m pc Ls (.long y :: .long x :: st))) := by
  subst hp
  obtain ⟨locs, Y, -, -, -⟩ := X
  exact Go.back (fun t kt => Jvm.Free.XS.lsub Y.here C.1 rfl (C.cd hd) rfl kt) hr
theorem go_lmulL (C : Cx p s m meth c Z a0 own bytes maxL ret nm) (X : St Z p l e R s m args below meth c n0 T h k n) {x y z : Int64} (pc' : Nat) (hp : pc + 1 = pc') (hd : decode bytes pc = .ok (.lmul, 1)) (hz : x * y = z) (hr : Go p e below Q (T.setTop (mkF m pc' Ls (.long z :: st)))) : Go p e below Q (T.setTop (mkF m pc Ls (.long y :: .long x :: st))) := by
  subst hp
  obtain ⟨locs, Y, -, -, -⟩ := X
  exact Go.back (fun t kt => by subst hz; exact Jvm.Free.XS.lmul Y.here C.1 rfl (C.cd hd) rfl kt) hr
theorem go_lmul (C : Cx p s m meth c Z a0 own bytes maxL ret nm) (X : St Z p l e R s m args below meth c n0 T h k n) {x y : Int64} (pc' : Nat) (hp : pc + 1 = pc') (hd : decode bytes pc = .ok (.lmul, 1)) (hr : Go p e below Q (T.setTop (mkF m pc' Ls (.long (x * y) :: st)))) : Go p e below Q (T.setTop (mkF m pc Ls (.long y :: .long x :: st))) := by
  subst hp
  obtain ⟨locs, Y, -, -, -⟩ := X
  exact Go.back (fun t kt => Jvm.Free.XS.lmul Y.here C.1 rfl (C.cd hd) rfl kt) hr
theorem go_landL (C : Cx p s m meth c Z a0 own bytes maxL ret nm) (X : St Z p l e R s m args below meth c n0 T h k n) {x y z : Int64} (pc' : Nat) (hp : pc + 1 = pc') (hd : decode bytes pc = .ok (.land, 1)) (hz : x &&& y = z) (hr : Go p e below Q (T.setTop (mkF m pc' Ls (.long z :: st)))) : Go p e below Q (T.setTop (mkF m pc Ls (.long y :: .long x :: st))) := by
  subst hp
  obtain ⟨locs, Y, -, -, -⟩ := X
  exact Go.back (fun t kt => by subst hz; exact Jvm.Free.XS.land Y.here C.1 rfl (C.cd hd) rfl kt) hr
theorem go_land (C : Cx p s m meth c Z a0 own bytes maxL ret nm) (X : St Z p l e R s m args below meth c n0 T h k n) {x y : Int64} (pc' : Nat) (hp : pc + 1 = pc') (hd : decode bytes pc = .ok (.land, 1)) (hr : Go p e below Q (T.setTop (mkF m pc' Ls (.long (x &&& y) :: st)))) : Go p e below Q (T.setTop (mkF m pc Ls (.long y :: .long x :: st))) := by
  subst hp
  obtain ⟨locs, Y, -, -, -⟩ := X
  exact Go.back (fun t kt => Jvm.Free.XS.land Y.here C.1 rfl (C.cd hd) rfl kt) hr
theorem go_lorL (C : Cx p s m meth c Z a0 own bytes maxL ret nm) (X : St Z p l e R s m args below meth c n0 T h k n) {x y z : Int64} (pc' : Nat) (hp : pc + 1 = pc') (hd : decode bytes pc = .ok (.lor, 1)) (hz : x ||| y = z) (hr : Go p e below Q (T.setTop (mkF m pc' Ls (.long z :: st)))) : Go p e below Q (T.setTop (mkF m pc Ls (.long y :: .long x :: st))) := by
  subst hp
  obtain ⟨locs, Y, -, -, -⟩ := X
  exact Go.back (fun t kt => by subst hz; exact Jvm.Free.XS.lor Y.here C.1 rfl (C.cd hd) rfl kt) hr
theorem go_lor (C : Cx p s m meth c Z a0 own bytes maxL ret nm) (X : St Z p l e R s m args below meth c n0 T h k n) {x y : Int64} (pc' : Nat) (hp : pc + 1 = pc') (hd : decode bytes pc = .ok (.lor, 1)) (hr : Go p e below Q (T.setTop (mkF m pc' Ls (.long (x ||| y) :: st)))) : Go p e below Q (T.setTop (mkF m pc Ls (.long y :: .long x :: st))) := by
  subst hp
  obtain ⟨locs, Y, -, -, -⟩ := X
  exact Go.back (fun t kt => Jvm.Free.XS.lor Y.here C.1 rfl (C.cd hd) rfl kt) hr
theorem go_lxorL (C : Cx p s m meth c Z a0 own bytes maxL ret nm) (X : St Z p l e R s m args below meth c n0 T h k n) {x y z : Int64} (pc' : Nat) (hp : pc + 1 = pc') (hd : decode bytes pc = .ok (.lxor, 1)) (hz : x ^^^ y = z) (hr : Go p e below Q (T.setTop (mkF m pc' Ls (.long z :: st)))) : Go p e below Q (T.setTop (mkF m pc Ls (.long y :: .long x :: st))) := by
  subst hp
  obtain ⟨locs, Y, -, -, -⟩ := X
  exact Go.back (fun t kt => by subst hz; exact Jvm.Free.XS.lxor Y.here C.1 rfl (C.cd hd) rfl kt) hr
theorem go_lxor (C : Cx p s m meth c Z a0 own bytes maxL ret nm) (X : St Z p l e R s m args below meth c n0 T h k n) {x y : Int64} (pc' : Nat) (hp : pc + 1 = pc') (hd : decode bytes pc = .ok (.lxor, 1)) (hr : Go p e below Q (T.setTop (mkF m pc' Ls (.long (x ^^^ y) :: st)))) : Go p e below Q (T.setTop (mkF m pc Ls (.long y :: .long x :: st))) := by
  subst hp
  obtain ⟨locs, Y, -, -, -⟩ := X
  exact Go.back (fun t kt => Jvm.Free.XS.lxor Y.here C.1 rfl (C.cd hd) rfl kt) hr
theorem go_ldiv (C : Cx p s m meth c Z a0 own bytes maxL ret nm) (X : St Z p l e R s m args below meth c n0 T h k n) {x y : Int64} (pc' : Nat) (hp : pc + 1 = pc') (hd : decode bytes pc = .ok (.ldiv, 1)) (hy : y ≠ 0) (hr : Go p e below Q (T.setTop (mkF m pc' Ls (.long (x / y) :: st)))) : Go p e below Q (T.setTop (mkF m pc Ls (.long y :: .long x :: st))) := by
  subst hp
  obtain ⟨locs, Y, -, -, -⟩ := X
  exact Go.back (fun t kt => Jvm.Free.XS.ldiv Y.here C.1 rfl (C.cd hd) rfl hy kt) hr
theorem go_lneg (C : Cx p s m meth c Z a0 own bytes maxL ret nm) (X : St Z p l e R s m args below meth c n0 T h k n) {x : Int64} (pc' : Nat) (hp : pc + 1 = pc') (hd : decode bytes pc = .ok (.lneg, 1)) (hr : Go p e below Q (T.setTop (mkF m pc' Ls (.long (-x) :: st)))) : Go p e below Q (T.setTop (mkF m pc Ls (.long x :: st))) := by
  subst hp
  obtain ⟨locs, Y, -, -, -⟩ := X
  exact Go.back (fun t kt => Jvm.Free.XS.lneg Y.here C.1 rfl (C.cd hd) rfl kt) hr
theorem go_irem (C : Cx p s m meth c Z a0 own bytes maxL ret nm) (X : St Z p l e R s m args below meth c n0 T h k n) {x y : Int32} (pc' : Nat) (hp : pc + 1 = pc') (hd : decode bytes pc = .ok (.irem, 1)) (hy : y ≠ 0) (hr : Go p e below Q (T.setTop (mkF m pc' Ls (.int (x % y) :: st)))) : Go p e below Q (T.setTop (mkF m pc Ls (.int y :: .int x :: st))) := by
  subst hp
  obtain ⟨locs, Y, -, -, -⟩ := X
  exact Go.back (fun t kt => iremM Y C.1 rfl (C.cd hd) rfl hy kt) hr
theorem go_lrem (C : Cx p s m meth c Z a0 own bytes maxL ret nm) (X : St Z p l e R s m args below meth c n0 T h k n) {x y : Int64} (pc' : Nat) (hp : pc + 1 = pc') (hd : decode bytes pc = .ok (.lrem, 1)) (hy : y ≠ 0) (hr : Go p e below Q (T.setTop (mkF m pc' Ls (.long (x % y) :: st)))) : Go p e below Q (T.setTop (mkF m pc Ls (.long y :: .long x :: st))) := by
  subst hp
  obtain ⟨locs, Y, -, -, -⟩ := X
  exact Go.back (fun t kt => by rw [← lrem_mod] at kt; exact Jvm.Free.XS.lrem Y.here C.1 rfl (C.cd hd) rfl hy kt) hr
theorem go_i2l (C : Cx p s m meth c Z a0 own bytes maxL ret nm) (X : St Z p l e R s m args below meth c n0 T h k n) {x : Int32} (pc' : Nat) (hp : pc + 1 = pc') (hd : decode bytes pc = .ok (.i2l, 1)) (hr : Go p e below Q (T.setTop (mkF m pc' Ls (.long (x.toInt64) :: st)))) : Go p e below Q (T.setTop (mkF m pc Ls (.int x :: st))) := by
  subst hp
  obtain ⟨locs, Y, -, -, -⟩ := X
  exact Go.back (fun t kt => Jvm.Free.XS.i2l Y.here C.1 rfl (C.cd hd) rfl kt) hr
theorem go_l2i (C : Cx p s m meth c Z a0 own bytes maxL ret nm) (X : St Z p l e R s m args below meth c n0 T h k n) {x : Int64} (pc' : Nat) (hp : pc + 1 = pc') (hd : decode bytes pc = .ok (.l2i, 1)) (hr : Go p e below Q (T.setTop (mkF m pc' Ls (.int (x.toInt32) :: st)))) : Go p e below Q (T.setTop (mkF m pc Ls (.long x :: st))) := by
  subst hp
  obtain ⟨locs, Y, -, -, -⟩ := X
  exact Go.back (fun t kt => Jvm.Free.XS.l2i Y.here C.1 rfl (C.cd hd) rfl kt) hr
theorem go_i2b (C : Cx p s m meth c Z a0 own bytes maxL ret nm) (X : St Z p l e R s m args below meth c n0 T h k n) {x : Int32} (pc' : Nat) (hp : pc + 1 = pc') (hd : decode bytes pc = .ok (.i2b, 1)) (hr : Go p e below Q (T.setTop (mkF m pc' Ls (.int (x.toInt8.toInt32) :: st)))) : Go p e below Q (T.setTop (mkF m pc Ls (.int x :: st))) := by
  subst hp
  obtain ⟨locs, Y, -, -, -⟩ := X
  exact Go.back (fun t kt => Jvm.Free.XS.i2b Y.here C.1 rfl (C.cd hd) rfl kt) hr
theorem go_i2s (C : Cx p s m meth c Z a0 own bytes maxL ret nm) (X : St Z p l e R s m args below meth c n0 T h k n) {x : Int32} (pc' : Nat) (hp : pc + 1 = pc') (hd : decode bytes pc = .ok (.i2s, 1)) (hr : Go p e below Q (T.setTop (mkF m pc' Ls (.int (x.toInt16.toInt32) :: st)))) : Go p e below Q (T.setTop (mkF m pc Ls (.int x :: st))) := by
  subst hp
  obtain ⟨locs, Y, -, -, -⟩ := X
  exact Go.back (fun t kt => Jvm.Free.XS.i2s Y.here C.1 rfl (C.cd hd) rfl kt) hr
theorem go_i2c (C : Cx p s m meth c Z a0 own bytes maxL ret nm) (X : St Z p l e R s m args below meth c n0 T h k n) {x : Int32} (pc' : Nat) (hp : pc + 1 = pc') (hd : decode bytes pc = .ok (.i2c, 1)) (hr : Go p e below Q (T.setTop (mkF m pc' Ls (.int (x.toUInt32.toUInt16.toUInt32.toInt32) :: st)))) : Go p e below Q (T.setTop (mkF m pc Ls (.int x :: st))) := by
  subst hp
  obtain ⟨locs, Y, -, -, -⟩ := X
  exact Go.back (fun t kt => Jvm.Free.XS.i2c Y.here C.1 rfl (C.cd hd) rfl kt) hr
theorem go_ishl (C : Cx p s m meth c Z a0 own bytes maxL ret nm) (X : St Z p l e R s m args below meth c n0 T h k n) {x : Int32} {y : Int32} (pc' : Nat) (hp : pc + 1 = pc') (hd : decode bytes pc = .ok (.ishl, 1)) (hr : Go p e below Q (T.setTop (mkF m pc' Ls (.int (x <<< (y &&& 31)) :: st)))) : Go p e below Q (T.setTop (mkF m pc Ls (.int y :: .int x :: st))) := by
  subst hp
  obtain ⟨locs, Y, -, -, -⟩ := X
  exact Go.back (fun t kt => Jvm.Free.XS.ishl Y.here C.1 rfl (C.cd hd) rfl kt) hr
theorem go_ishr (C : Cx p s m meth c Z a0 own bytes maxL ret nm) (X : St Z p l e R s m args below meth c n0 T h k n) {x : Int32} {y : Int32} (pc' : Nat) (hp : pc + 1 = pc') (hd : decode bytes pc = .ok (.ishr, 1)) (hr : Go p e below Q (T.setTop (mkF m pc' Ls (.int (x >>> (y &&& 31)) :: st)))) : Go p e below Q (T.setTop (mkF m pc Ls (.int y :: .int x :: st))) := by
  subst hp
  obtain ⟨locs, Y, -, -, -⟩ := X
  exact Go.back (fun t kt => Jvm.Free.XS.ishr Y.here C.1 rfl (C.cd hd) rfl kt) hr
theorem go_iushr (C : Cx p s m meth c Z a0 own bytes maxL ret nm) (X : St Z p l e R s m args below meth c n0 T h k n) {x : Int32} {y : Int32} (pc' : Nat) (hp : pc + 1 = pc') (hd : decode bytes pc = .ok (.iushr, 1)) (hr : Go p e below Q (T.setTop (mkF m pc' Ls (.int ((x.toUInt32 >>> (y &&& 31).toUInt32).toInt32) :: st)))) : Go p e below Q (T.setTop (mkF m pc Ls (.int y :: .int x :: st))) := by
  subst hp
  obtain ⟨locs, Y, -, -, -⟩ := X
  exact Go.back (fun t kt => Jvm.Free.XS.iushr Y.here C.1 rfl (C.cd hd) rfl kt) hr
theorem go_lshl (C : Cx p s m meth c Z a0 own bytes maxL ret nm) (X : St Z p l e R s m args below meth c n0 T h k n) {x : Int64} {y : Int32} (pc' : Nat) (hp : pc + 1 = pc') (hd : decode bytes pc = .ok (.lshl, 1)) (hr : Go p e below Q (T.setTop (mkF m pc' Ls (.long (x <<< (y &&& 0x3f).toInt64) :: st)))) : Go p e below Q (T.setTop (mkF m pc Ls (.int y :: .long x :: st))) := by
  subst hp
  obtain ⟨locs, Y, -, -, -⟩ := X
  exact Go.back (fun t kt => Jvm.Free.XS.lshl Y.here C.1 rfl (C.cd hd) rfl kt) hr
theorem go_lshr (C : Cx p s m meth c Z a0 own bytes maxL ret nm) (X : St Z p l e R s m args below meth c n0 T h k n) {x : Int64} {y : Int32} (pc' : Nat) (hp : pc + 1 = pc') (hd : decode bytes pc = .ok (.lshr, 1)) (hr : Go p e below Q (T.setTop (mkF m pc' Ls (.long (x >>> (y &&& 0x3f).toInt64) :: st)))) : Go p e below Q (T.setTop (mkF m pc Ls (.int y :: .long x :: st))) := by
  subst hp
  obtain ⟨locs, Y, -, -, -⟩ := X
  exact Go.back (fun t kt => Jvm.Free.XS.lshr Y.here C.1 rfl (C.cd hd) rfl kt) hr
theorem go_lushr (C : Cx p s m meth c Z a0 own bytes maxL ret nm) (X : St Z p l e R s m args below meth c n0 T h k n) {x : Int64} {y : Int32} (pc' : Nat) (hp : pc + 1 = pc') (hd : decode bytes pc = .ok (.lushr, 1)) (hr : Go p e below Q (T.setTop (mkF m pc' Ls (.long ((x.toUInt64 >>> (y &&& 0x3f).toInt64.toUInt64).toInt64) :: st)))) : Go p e below Q (T.setTop (mkF m pc Ls (.int y :: .long x :: st))) := by
  subst hp
  obtain ⟨locs, Y, -, -, -⟩ := X
  exact Go.back (fun t kt => Jvm.Free.XS.lushr Y.here C.1 rfl (C.cd hd) rfl kt) hr
theorem go_lcmp (C : Cx p s m meth c Z a0 own bytes maxL ret nm) (X : St Z p l e R s m args below meth c n0 T h k n) {x y : Int64} (pc' : Nat) (hp : pc + 1 = pc') (hd : decode bytes pc = .ok (.lcmp, 1)) (hr : Go p e below Q (T.setTop (mkF m pc' Ls (.int (lcmpW x y) :: st)))) : Go p e below Q (T.setTop (mkF m pc Ls (.long y :: .long x :: st))) := by
  subst hp
  obtain ⟨locs, Y, -, -, -⟩ := X
  exact Go.back (fun t kt => Jvm.Free.XS.lcmp Y.here C.1 rfl (C.cd hd) rfl kt) hr
theorem go_iinc (C : Cx p s m meth c Z a0 own bytes maxL ret nm) (X : St Z p l e R s m args below meth c n0 T h k n) {i : Nat} {cst : Int} {x z : Int32} (pc' : Nat) (hp : pc + 3 = pc') (hd : decode bytes pc = .ok (.iinc i cst, 3)) (hl : Ls[i]? = some (.val (.int x))) (hz : Int32.ofInt cst = z) (Ls' : Array Slot) (hl' : storeLocals Ls i (.int (x + z)) = some Ls') (hr : Go p e below Q (T.setTop (mkF m pc' Ls' st))) : Go p e below Q (T.setTop (mkF m pc Ls st)) := by
  subst hp
  obtain ⟨locs, Y, -, -, -⟩ := X
  exact Go.back (fun t kt => by subst hz; exact Jvm.Free.XS.iinc Y.here C.1 rfl (C.cd hd) hl hl' kt) hr
theorem go_dup (C : Cx p s m meth c Z a0 own bytes maxL ret nm) (X : St Z p l e R s m args below meth c n0 T h k n) {v : Value} (pc' : Nat) (hp : pc + 1 = pc') (hd : decode bytes pc = .ok (.dup, 1)) (hc : v.category = 1) (hr : Go p e below Q (T.setTop (mkF m pc' Ls (v :: v :: st)))) : Go p e below Q (T.setTop (mkF m pc Ls (v :: st))) := by
  subst hp
  obtain ⟨locs, Y, -, -, -⟩ := X
  exact Go.back (fun t kt => Jvm.Free.XS.dup Y.here C.1 rfl (C.cd hd) rfl hc kt) hr
theorem go_pop (C : Cx p s m meth c Z a0 own bytes maxL ret nm) (X : St Z p l e R s m args below meth c n0 T h k n) {v : Value} (pc' : Nat) (hp : pc + 1 = pc') (hd : decode bytes pc = .ok (.pop, 1)) (hc : v.category = 1) (hr : Go p e below Q (T.setTop (mkF m pc' Ls st))) : Go p e below Q (T.setTop (mkF m pc Ls (v :: st))) := by
  subst hp
  obtain ⟨locs, Y, -, -, -⟩ := X
  exact Go.back (fun t kt => Jvm.Free.XS.pop Y.here C.1 rfl (C.cd hd) rfl hc kt) hr
theorem go_dupX1 (C : Cx p s m meth c Z a0 own bytes maxL ret nm) (X : St Z p l e R s m args below meth c n0 T h k n) {v w : Value} (pc' : Nat) (hp : pc + 1 = pc') (hd : decode bytes pc = .ok (.dup_x1, 1)) (hc : v.category = 1) (hc2 : w.category = 1) (hr : Go p e below Q (T.setTop (mkF m pc' Ls (v :: w :: v :: st)))) : Go p e below Q (T.setTop (mkF m pc Ls (v :: w :: st))) := by
  subst hp
  obtain ⟨locs, Y, -, -, -⟩ := X
  exact Go.back (fun t kt => Jvm.Free.XS.dupX1 Y.here C.1 rfl (C.cd hd) rfl hc hc2 kt) hr
theorem go_dup2 (C : Cx p s m meth c Z a0 own bytes maxL ret nm) (X : St Z p l e R s m args below meth c n0 T h k n) {v w : Value} (pc' : Nat) (hp : pc + 1 = pc') (hd : decode bytes pc = .ok (.dup2, 1)) (hc : v.category = 1) (hc2 : w.category = 1) (hr : Go p e below Q (T.setTop (mkF m pc' Ls (v :: w :: v :: w :: st)))) : Go p e below Q (T.setTop (mkF m pc Ls (v :: w :: st))) := by
  subst hp
  obtain ⟨locs, Y, -, -, -⟩ := X
  refine Go.back (fun t kt => ?_) hr
  show Steps p.tables e below (T.setTop { method := m, pc := pc, locals := Ls, stack := v :: w :: st, locked := none }) _
  jvm_step Y.here [Y.here.top, C.1, C.cd hd, hc, hc2]
  exact kt
theorem go_goto (C : Cx p s m meth c Z a0 own bytes maxL ret nm) (X : St Z p l e R s m args below meth c n0 T h k n) {o : Int} (hd : decode bytes pc = .ok (.goto o, 3)) (ho : 0 ≤ (pc : Int) + o) (hp : ((pc : Int) + o).toNat = pc') (hr : Go p e below Q (T.setTop (mkF m pc' Ls st))) : Go p e below Q (T.setTop (mkF m pc Ls st)) := by
  obtain ⟨locs, Y, -, -, -⟩ := X
  exact Go.back (fun t kt => Jvm.Free.XS.goto Y.here C.1 rfl (pc0 := pc) rfl (C.cd hd) ho hp kt) hr
theorem go_icmp (C : Cx p s m meth c Z a0 own bytes maxL ret nm) (X : St Z p l e R s m args below meth c n0 T h k n) {cd : ClassFile.Cond} {o : Int} {x y : Int32} (hd : decode bytes pc = .ok (.if_icmp cd o, 3)) (hp : pc + 3 = pc') (ho : 0 ≤ (pc : Int) + o) (hp2 : ((pc : Int) + o).toNat = pc2) (h1 : if_icmp.holds cd x y = true → Go p e below Q (T.setTop (mkF m pc2 Ls st))) (h2 : if_icmp.holds cd x y = false → Go p e below Q (T.setTop (mkF m pc' Ls st))) : Go p e below Q (T.setTop (mkF m pc Ls (.int y :: .int x :: st))) := by
  subst hp
  obtain ⟨locs, Y, -, -, -⟩ := X
  cases hc : if_icmp.holds cd x y with
  | true => exact Go.back (fun t kt => Jvm.Free.XS.icmpYes Y.here C.1 rfl (pc0 := pc) rfl (C.cd hd) rfl hc ho hp2 kt) (h1 hc)
  | false => exact Go.back (fun t kt => Jvm.Free.XS.icmpNo Y.here C.1 rfl (C.cd hd) rfl hc kt) (h2 hc)
theorem go_if (C : Cx p s m meth c Z a0 own bytes maxL ret nm) (X : St Z p l e R s m args below meth c n0 T h k n) {cd : ClassFile.Cond} {o : Int} {x : Int32} (hd : decode bytes pc = .ok (.ifCond cd o, 3)) (hp : pc + 3 = pc') (ho : 0 ≤ (pc : Int) + o) (hp2 : ((pc : Int) + o).toNat = pc2) (h1 : if_icmp.holds cd x 0 = true → Go p e below Q (T.setTop (mkF m pc2 Ls st))) (h2 : if_icmp.holds cd x 0 = false → Go p e below Q (T.setTop (mkF m pc' Ls st))) : Go p e below Q (T.setTop (mkF m pc Ls (.int x :: st))) := by
  subst hp
  obtain ⟨locs, Y, -, -, -⟩ := X
  cases hc : if_icmp.holds cd x 0 with
  | true => exact Go.back (fun t kt => Jvm.Free.XS.ifYes Y.here C.1 rfl (pc0 := pc) rfl (C.cd hd) rfl ((if0 _ _).trans hc) ho hp2 kt) (h1 hc)
  | false => exact Go.back (fun t kt => Jvm.Free.XS.ifNo Y.here C.1 rfl (C.cd hd) rfl ((if0 _ _).trans hc) kt) (h2 hc)
theorem i32lt {x y : Int32} : x < y ↔ x.toInt < y.toInt := Int32.lt_iff_toInt_lt
theorem ic_lt {x y : Int32} : (if_icmp.holds .lt x y = true ↔ x.toInt < y.toInt) ∧ (if_icmp.holds .lt x y = false ↔ y.toInt ≤ x.toInt) := by
  by_cases q : x < y
  · have := i32lt.mp q; simp [(tlt q).1]; omega
  · have := mt i32lt.mpr q; simp [(flt q).1]; omega
theorem ic_ge {x y : Int32} : (if_icmp.holds .ge x y = true ↔ y.toInt ≤ x.toInt) ∧ (if_icmp.holds .ge x y = false ↔ x.toInt < y.toInt) := by
  by_cases q : x < y
  · have := i32lt.mp q; simp [(tlt q).2.1]; omega
  · have := mt i32lt.mpr q; simp [(flt q).2.1]; omega
theorem ic_gt {x y : Int32} : (if_icmp.holds .gt x y = true ↔ y.toInt < x.toInt) ∧ (if_icmp.holds .gt x y = false ↔ x.toInt ≤ y.toInt) := by
  by_cases q : y < x
  · have := i32lt.mp q; simp [(tlt q).2.2.1]; omega
  · have := mt i32lt.mpr q; simp [(flt q).2.2.1]; omega
theorem ic_le {x y : Int32} : (if_icmp.holds .le x y = true ↔ x.toInt ≤ y.toInt) ∧ (if_icmp.holds .le x y = false ↔ y.toInt < x.toInt) := by
  by_cases q : y < x
  · have := i32lt.mp q; simp [(tlt q).2.2.2]; omega
  · have := mt i32lt.mpr q; simp [(flt q).2.2.2]; omega
theorem ic_eq {x y : Int32} : (if_icmp.holds .eq x y = true ↔ x = y) ∧ (if_icmp.holds .eq x y = false ↔ ¬ x = y) := by
  by_cases q : x = y
  · subst q; exact ⟨⟨fun _ => rfl, fun _ => (teq rfl).1⟩, ⟨fun h => (by rw [(teq rfl).1] at h; cases h), fun h => absurd rfl h⟩⟩
  · exact ⟨⟨fun h => (by rw [(feq q).1] at h; cases h), fun h => absurd h q⟩, ⟨fun _ => q, fun _ => (feq q).1⟩⟩
theorem ic_ne {x y : Int32} : (if_icmp.holds .ne x y = true ↔ ¬ x = y) ∧ (if_icmp.holds .ne x y = false ↔ x = y) := by
  by_cases q : x = y
  · subst q; exact ⟨⟨fun h => (by rw [(teq rfl).2] at h; cases h), fun h => absurd rfl h⟩, ⟨fun _ => rfl, fun _ => (teq rfl).2⟩⟩
  · exact ⟨⟨fun _ => q, fun _ => (feq q).2⟩, ⟨fun h => (by rw [(feq q).2] at h; cases h), fun h => absurd h q⟩⟩
theorem lc_i (x y : Int64) : ((lcmpW x y).toInt < 0 ↔ x.toInt < y.toInt) ∧ (0 < (lcmpW x y).toInt ↔ y.toInt < x.toInt) ∧ (lcmpW x y = 0 ↔ x = y) := by
  obtain ⟨a, b, c⟩ := c_lcmp x y
  refine ⟨?_, ?_, lw_eq x y⟩ <;> rcases Int.lt_trichotomy x.toInt y.toInt with q | q | q <;> (first | have := a q | have := b q | have := c q) <;> omega
theorem go_icmp_lt (C : Cx p s m meth c Z a0 own bytes maxL ret nm) (X : St Z p l e R s m args below meth c n0 T h k n) {o : Int} {x y : Int32} (hd : decode bytes pc = .ok (.if_icmp .lt o, 3)) (hp : pc + 3 = pc') (ho : 0 ≤ (pc : Int) + o) (hp2 : ((pc : Int) + o).toNat = pc2) (h1 : x.toInt < y.toInt → Go p e below Q (T.setTop (mkF m pc2 Ls st))) (h2 : y.toInt ≤ x.toInt → Go p e below Q (T.setTop (mkF m pc' Ls st))) : Go p e below Q (T.setTop (mkF m pc Ls (.int y :: .int x :: st))) := go_icmp C X hd hp ho hp2 (fun q => h1 (ic_lt.1.mp q)) (fun q => h2 (ic_lt.2.mp q))
theorem go_if_lt (C : Cx p s m meth c Z a0 own bytes maxL ret nm) (X : St Z p l e R s m args below meth c n0 T h k n) {o : Int} {x : Int32} (hd : decode bytes pc = .ok (.ifCond .lt o, 3)) (hp : pc + 3 = pc') (ho : 0 ≤ (pc : Int) + o) (hp2 : ((pc : Int) + o).toNat = pc2) (h1 : x.toInt < 0 → Go p e below Q (T.setTop (mkF m pc2 Ls st))) (h2 : 0 ≤ x.toInt → Go p e below Q (T.setTop (mkF m pc' Ls st))) : Go p e below Q (T.setTop (mkF m pc Ls (.int x :: st))) := go_if C X hd hp ho hp2 (fun q => h1 (ic_lt.1.mp q)) (fun q => h2 (ic_lt.2.mp q))
theorem go_lif_lt (C : Cx p s m meth c Z a0 own bytes maxL ret nm) (X : St Z p l e R s m args below meth c n0 T h k n) {o : Int} {x y : Int64} {pc1 : Nat} (hp1 : pc + 1 = pc1) (hd1 : decode bytes pc = .ok (.lcmp, 1)) (hd : decode bytes pc1 = .ok (.ifCond .lt o, 3)) (hp : pc1 + 3 = pc') (ho : 0 ≤ (pc1 : Int) + o) (hp2 : ((pc1 : Int) + o).toNat = pc2) (h1 : x.toInt < y.toInt → Go p e below Q (T.setTop (mkF m pc2 Ls st))) (h2 : y.toInt ≤ x.toInt → Go p e below Q (T.setTop (mkF m pc' Ls st))) : Go p e below Q (T.setTop (mkF m pc Ls (.long y :: .long x :: st))) := go_lcmp C X _ hp1 hd1 (go_if_lt C X hd hp ho hp2 (fun q => h1 ((lc_i x y).1.mp q)) (fun q => h2 (by have := mt (lc_i x y).1.mpr (by omega); omega)))
theorem go_icmp_ge (C : Cx p s m meth c Z a0 own bytes maxL ret nm) (X : St Z p l e R s m args below meth c n0 T h k n) {o : Int} {x y : Int32} (hd : decode bytes pc = .ok (.if_icmp .ge o, 3)) (hp : pc + 3 = pc') (ho : 0 ≤ (pc : Int) + o) (hp2 : ((pc : Int) + o).toNat = pc2) (h1 : y.toInt ≤ x.toInt → Go p e below Q (T.setTop (mkF m pc2 Ls st))) (h2 : x.toInt < y.toInt → Go p e below Q (T.setTop (mkF m pc' Ls st))) : Go p e below Q (T.setTop (mkF m pc Ls (.int y :: .int x :: st))) := go_icmp C X hd hp ho hp2 (fun q => h1 (ic_ge.1.mp q)) (fun q => h2 (ic_ge.2.mp q))
theorem go_if_ge (C : Cx p s m meth c Z a0 own bytes maxL ret nm) (X : St Z p l e R s m args below meth c n0 T h k n) {o : Int} {x : Int32} (hd : decode bytes pc = .ok (.ifCond .ge o, 3)) (hp : pc + 3 = pc') (ho : 0 ≤ (pc : Int) + o) (hp2 : ((pc : Int) + o).toNat = pc2) (h1 : 0 ≤ x.toInt → Go p e below Q (T.setTop (mkF m pc2 Ls st))) (h2 : x.toInt < 0 → Go p e below Q (T.setTop (mkF m pc' Ls st))) : Go p e below Q (T.setTop (mkF m pc Ls (.int x :: st))) := go_if C X hd hp ho hp2 (fun q => h1 (ic_ge.1.mp q)) (fun q => h2 (ic_ge.2.mp q))
theorem go_lif_ge (C : Cx p s m meth c Z a0 own bytes maxL ret nm) (X : St Z p l e R s m args below meth c n0 T h k n) {o : Int} {x y : Int64} {pc1 : Nat} (hp1 : pc + 1 = pc1) (hd1 : decode bytes pc = .ok (.lcmp, 1)) (hd : decode bytes pc1 = .ok (.ifCond .ge o, 3)) (hp : pc1 + 3 = pc') (ho : 0 ≤ (pc1 : Int) + o) (hp2 : ((pc1 : Int) + o).toNat = pc2) (h1 : y.toInt ≤ x.toInt → Go p e below Q (T.setTop (mkF m pc2 Ls st))) (h2 : x.toInt < y.toInt → Go p e below Q (T.setTop (mkF m pc' Ls st))) : Go p e below Q (T.setTop (mkF m pc Ls (.long y :: .long x :: st))) := go_lcmp C X _ hp1 hd1 (go_if_ge C X hd hp ho hp2 (fun q => h1 (by have := mt (lc_i x y).1.mpr (by omega); omega)) (fun q => h2 ((lc_i x y).1.mp q)))
theorem go_icmp_gt (C : Cx p s m meth c Z a0 own bytes maxL ret nm) (X : St Z p l e R s m args below meth c n0 T h k n) {o : Int} {x y : Int32} (hd : decode bytes pc = .ok (.if_icmp .gt o, 3)) (hp : pc + 3 = pc') (ho : 0 ≤ (pc : Int) + o) (hp2 : ((pc : Int) + o).toNat = pc2) (h1 : y.toInt < x.toInt → Go p e below Q (T.setTop (mkF m pc2 Ls st))) (h2 : x.toInt ≤ y.toInt → Go p e below Q (T.setTop (mkF m pc' Ls st))) : Go p e below Q (T.setTop (mkF m pc Ls (.int y :: .int x :: st))) := go_icmp C X hd hp ho hp2 (fun q => h1 (ic_gt.1.mp q)) (fun q => h2 (ic_gt.2.mp q))
theorem go_if_gt (C : Cx p s m meth c Z a0 own bytes maxL ret nm) (X : St Z p l e R s m args below meth c n0 T h k n) {o : Int} {x : Int32} (hd : decode bytes pc = .ok (.ifCond .gt o, 3)) (hp : pc + 3 = pc') (ho : 0 ≤ (pc : Int) + o) (hp2 : ((pc : Int) + o).toNat = pc2) (h1 : 0 < x.toInt → Go p e below Q (T.setTop (mkF m pc2 Ls st))) (h2 : x.toInt ≤ 0 → Go p e below Q (T.setTop (mkF m pc' Ls st))) : Go p e below Q (T.setTop (mkF m pc Ls (.int x :: st))) := go_if C X hd hp ho hp2 (fun q => h1 (ic_gt.1.mp q)) (fun q => h2 (ic_gt.2.mp q))
theorem go_lif_gt (C : Cx p s m meth c Z a0 own bytes maxL ret nm) (X : St Z p l e R s m args below meth c n0 T h k n) {o : Int} {x y : Int64} {pc1 : Nat} (hp1 : pc + 1 = pc1) (hd1 : decode bytes pc = .ok (.lcmp, 1)) (hd : decode bytes pc1 = .ok (.ifCond .gt o, 3)) (hp : pc1 + 3 = pc') (ho : 0 ≤ (pc1 : Int) + o) (hp2 : ((pc1 : Int) + o).toNat = pc2) (h1 : y.toInt < x.toInt → Go p e below Q (T.setTop (mkF m pc2 Ls st))) (h2 : x.toInt ≤ y.toInt → Go p e below Q (T.setTop (mkF m pc' Ls st))) : Go p e below Q (T.setTop (mkF m pc Ls (.long y :: .long x :: st))) := go_lcmp C X _ hp1 hd1 (go_if_gt C X hd hp ho hp2 (fun q => h1 ((lc_i x y).2.1.mp q)) (fun q => h2 (by have := mt (lc_i x y).2.1.mpr (by omega); omega)))
theorem go_icmp_le (C : Cx p s m meth c Z a0 own bytes maxL ret nm) (X : St Z p l e R s m args below meth c n0 T h k n) {o : Int} {x y : Int32} (hd : decode bytes pc = .ok (.if_icmp .le o, 3)) (hp : pc + 3 = pc') (ho : 0 ≤ (pc : Int) + o) (hp2 : ((pc : Int) + o).toNat = pc2) (h1 : x.toInt ≤ y.toInt → Go p e below Q (T.setTop (mkF m pc2 Ls st))) (h2 : y.toInt < x.toInt → Go p e below Q (T.setTop (mkF m pc' Ls st))) : Go p e below Q (T.setTop (mkF m pc Ls (.int y :: .int x :: st))) := go_icmp C X hd hp ho hp2 (fun q => h1 (ic_le.1.mp q)) (fun q => h2 (ic_le.2.mp q))
theorem go_if_le (C : Cx p s m meth c Z a0 own bytes maxL ret nm) (X : St Z p l e R s m args below meth c n0 T h k n) {o : Int} {x : Int32} (hd : decode bytes pc = .ok (.ifCond .le o, 3)) (hp : pc + 3 = pc') (ho : 0 ≤ (pc : Int) + o) (hp2 : ((pc : Int) + o).toNat = pc2) (h1 : x.toInt ≤ 0 → Go p e below Q (T.setTop (mkF m pc2 Ls st))) (h2 : 0 < x.toInt → Go p e below Q (T.setTop (mkF m pc' Ls st))) : Go p e below Q (T.setTop (mkF m pc Ls (.int x :: st))) := go_if C X hd hp ho hp2 (fun q => h1 (ic_le.1.mp q)) (fun q => h2 (ic_le.2.mp q))
theorem go_lif_le (C : Cx p s m meth c Z a0 own bytes maxL ret nm) (X : St Z p l e R s m args below meth c n0 T h k n) {o : Int} {x y : Int64} {pc1 : Nat} (hp1 : pc + 1 = pc1) (hd1 : decode bytes pc = .ok (.lcmp, 1)) (hd : decode bytes pc1 = .ok (.ifCond .le o, 3)) (hp : pc1 + 3 = pc') (ho : 0 ≤ (pc1 : Int) + o) (hp2 : ((pc1 : Int) + o).toNat = pc2) (h1 : x.toInt ≤ y.toInt → Go p e below Q (T.setTop (mkF m pc2 Ls st))) (h2 : y.toInt < x.toInt → Go p e below Q (T.setTop (mkF m pc' Ls st))) : Go p e below Q (T.setTop (mkF m pc Ls (.long y :: .long x :: st))) := go_lcmp C X _ hp1 hd1 (go_if_le C X hd hp ho hp2 (fun q => h1 (by have := mt (lc_i x y).2.1.mpr (by omega); omega)) (fun q => h2 ((lc_i x y).2.1.mp q)))
theorem go_icmp_eq (C : Cx p s m meth c Z a0 own bytes maxL ret nm) (X : St Z p l e R s m args below meth c n0 T h k n) {o : Int} {x y : Int32} (hd : decode bytes pc = .ok (.if_icmp .eq o, 3)) (hp : pc + 3 = pc') (ho : 0 ≤ (pc : Int) + o) (hp2 : ((pc : Int) + o).toNat = pc2) (h1 : x = y → Go p e below Q (T.setTop (mkF m pc2 Ls st))) (h2 : ¬ x = y → Go p e below Q (T.setTop (mkF m pc' Ls st))) : Go p e below Q (T.setTop (mkF m pc Ls (.int y :: .int x :: st))) := go_icmp C X hd hp ho hp2 (fun q => h1 (ic_eq.1.mp q)) (fun q => h2 (ic_eq.2.mp q))
theorem go_if_eq (C : Cx p s m meth c Z a0 own bytes maxL ret nm) (X : St Z p l e R s m args below meth c n0 T h k n) {o : Int} {x : Int32} (hd : decode bytes pc = .ok (.ifCond .eq o, 3)) (hp : pc + 3 = pc') (ho : 0 ≤ (pc : Int) + o) (hp2 : ((pc : Int) + o).toNat = pc2) (h1 : x = 0 → Go p e below Q (T.setTop (mkF m pc2 Ls st))) (h2 : ¬ x = 0 → Go p e below Q (T.setTop (mkF m pc' Ls st))) : Go p e below Q (T.setTop (mkF m pc Ls (.int x :: st))) := go_if C X hd hp ho hp2 (fun q => h1 (ic_eq.1.mp q)) (fun q => h2 (ic_eq.2.mp q))
theorem go_lif_eq (C : Cx p s m meth c Z a0 own bytes maxL ret nm) (X : St Z p l e R s m args below meth c n0 T h k n) {o : Int} {x y : Int64} {pc1 : Nat} (hp1 : pc + 1 = pc1) (hd1 : decode bytes pc = .ok (.lcmp, 1)) (hd : decode bytes pc1 = .ok (.ifCond .eq o, 3)) (hp : pc1 + 3 = pc') (ho : 0 ≤ (pc1 : Int) + o) (hp2 : ((pc1 : Int) + o).toNat = pc2) (h1 : x = y → Go p e below Q (T.setTop (mkF m pc2 Ls st))) (h2 : ¬ x = y → Go p e below Q (T.setTop (mkF m pc' Ls st))) : Go p e below Q (T.setTop (mkF m pc Ls (.long y :: .long x :: st))) := go_lcmp C X _ hp1 hd1 (go_if_eq C X hd hp ho hp2 (fun q => h1 ((lc_i x y).2.2.mp q)) (fun q => h2 (mt (lc_i x y).2.2.mpr q)))
theorem go_icmp_ne (C : Cx p s m meth c Z a0 own bytes maxL ret nm) (X : St Z p l e R s m args below meth c n0 T h k n) {o : Int} {x y : Int32} (hd : decode bytes pc = .ok (.if_icmp .ne o, 3)) (hp : pc + 3 = pc') (ho : 0 ≤ (pc : Int) + o) (hp2 : ((pc : Int) + o).toNat = pc2) (h1 : ¬ x = y → Go p e below Q (T.setTop (mkF m pc2 Ls st))) (h2 : x = y → Go p e below Q (T.setTop (mkF m pc' Ls st))) : Go p e below Q (T.setTop (mkF m pc Ls (.int y :: .int x :: st))) := go_icmp C X hd hp ho hp2 (fun q => h1 (ic_ne.1.mp q)) (fun q => h2 (ic_ne.2.mp q))
theorem go_if_ne (C : Cx p s m meth c Z a0 own bytes maxL ret nm) (X : St Z p l e R s m args below meth c n0 T h k n) {o : Int} {x : Int32} (hd : decode bytes pc = .ok (.ifCond .ne o, 3)) (hp : pc + 3 = pc') (ho : 0 ≤ (pc : Int) + o) (hp2 : ((pc : Int) + o).toNat = pc2) (h1 : ¬ x = 0 → Go p e below Q (T.setTop (mkF m pc2 Ls st))) (h2 : x = 0 → Go p e below Q (T.setTop (mkF m pc' Ls st))) : Go p e below Q (T.setTop (mkF m pc Ls (.int x :: st))) := go_if C X hd hp ho hp2 (fun q => h1 (ic_ne.1.mp q)) (fun q => h2 (ic_ne.2.mp q))
theorem go_lif_ne (C : Cx p s m meth c Z a0 own bytes maxL ret nm) (X : St Z p l e R s m args below meth c n0 T h k n) {o : Int} {x y : Int64} {pc1 : Nat} (hp1 : pc + 1 = pc1) (hd1 : decode bytes pc = .ok (.lcmp, 1)) (hd : decode bytes pc1 = .ok (.ifCond .ne o, 3)) (hp : pc1 + 3 = pc') (ho : 0 ≤ (pc1 : Int) + o) (hp2 : ((pc1 : Int) + o).toNat = pc2) (h1 : ¬ x = y → Go p e below Q (T.setTop (mkF m pc2 Ls st))) (h2 : x = y → Go p e below Q (T.setTop (mkF m pc' Ls st))) : Go p e below Q (T.setTop (mkF m pc Ls (.long y :: .long x :: st))) := go_lcmp C X _ hp1 hd1 (go_if_ne C X hd hp ho hp2 (fun q => h1 (mt (lc_i x y).2.2.mpr q)) (fun q => h2 ((lc_i x y).2.2.mp q)))
theorem go_dload (C : Cx p s m meth c Z a0 own bytes maxL ret nm) (X : St Z p l e R s m args below meth c n0 T h k n) {i : Nat} {v : UInt64} (pc' : Nat) (hp : pc + 2 = pc') (hd : decode bytes pc = .ok (.dload i, 2)) (hl : Ls[i]? = some (.val (.double v))) (hr : Go p e below Q (T.setTop (mkF m pc' Ls (.double v :: st)))) : Go p e below Q (T.setTop (mkF m pc Ls st)) := by
  subst hp
  obtain ⟨locs, Y, -, -, -⟩ := X
  exact Go.back (fun t kt => Jvm.Free.XS.dload Y.here C.1 rfl (C.cd hd) hl kt) hr
theorem go_dloadN (C : Cx p s m meth c Z a0 own bytes maxL ret nm) (X : St Z p l e R s m args below meth c n0 T h k n) {i : Fin 4} {v : UInt64} (pc' : Nat) (hp : pc + 1 = pc') (hd : decode bytes pc = .ok (.dload_n i, 1)) (hl : Ls[i.val]? = some (.val (.double v))) (hr : Go p e below Q (T.setTop (mkF m pc' Ls (.double v :: st)))) : Go p e below Q (T.setTop (mkF m pc Ls st)) := by
  subst hp
  obtain ⟨locs, Y, -, -, -⟩ := X
  exact Go.back (fun t kt => Jvm.Free.XS.dloadN Y.here C.1 rfl (C.cd hd) hl kt) hr
theorem go_dstore (C : Cx p s m meth c Z a0 own bytes maxL ret nm) (X : St Z p l e R s m args below meth c n0 T h k n) {i : Nat} {v : UInt64} (pc' : Nat) (hp : pc + 2 = pc') (hd : decode bytes pc = .ok (.dstore i, 2)) (Ls' : Array Slot) (hl : storeLocals Ls i (.double v) = some Ls') (hr : Go p e below Q (T.setTop (mkF m pc' Ls' st))) : Go p e below Q (T.setTop (mkF m pc Ls (.double v :: st))) := by
  subst hp
  obtain ⟨locs, Y, -, -, -⟩ := X
  exact Go.back (fun t kt => Jvm.Free.XS.dstore Y.here C.1 rfl (C.cd hd) rfl hl kt) hr
theorem go_dstoreN (C : Cx p s m meth c Z a0 own bytes maxL ret nm) (X : St Z p l e R s m args below meth c n0 T h k n) {i : Fin 4} {v : UInt64} (pc' : Nat) (hp : pc + 1 = pc') (hd : decode bytes pc = .ok (.dstore_n i, 1)) (Ls' : Array Slot) (hl : storeLocals Ls i.val (.double v) = some Ls') (hr : Go p e below Q (T.setTop (mkF m pc' Ls' st))) : Go p e below Q (T.setTop (mkF m pc Ls (.double v :: st))) := by
  subst hp
  obtain ⟨locs, Y, -, -, -⟩ := X
  exact Go.back (fun t kt => Jvm.Free.XS.dstoreN Y.here C.1 rfl (C.cd hd) rfl hl kt) hr
theorem go_dconst0 (C : Cx p s m meth c Z a0 own bytes maxL ret nm) (X : St Z p l e R s m args below meth c n0 T h k n)  (pc' : Nat) (hp : pc + 1 = pc') (hd : decode bytes pc = .ok (.dconst 0, 1)) (hr : Go p e below Q (T.setTop (mkF m pc' Ls (.double (FP.l2d 0) :: st)))) : Go p e below Q (T.setTop (mkF m pc Ls st)) := by
  subst hp
  obtain ⟨locs, Y, -, -, -⟩ := X
  exact Go.back (fun t kt => Jvm.Free.XS.dconst0 Y.here C.1 rfl (C.cd hd) (by decide +kernel) kt) hr
theorem go_i2d (C : Cx p s m meth c Z a0 own bytes maxL ret nm) (X : St Z p l e R s m args below meth c n0 T h k n) {x : Int32} (pc' : Nat) (hp : pc + 1 = pc') (hd : decode bytes pc = .ok (.i2d, 1)) (hr : Go p e below Q (T.setTop (mkF m pc' Ls (.double (FP.l2d x.toInt64) :: st)))) : Go p e below Q (T.setTop (mkF m pc Ls (.int x :: st))) := by
  subst hp
  obtain ⟨locs, Y, -, -, -⟩ := X
  exact Go.back (fun t kt => Jvm.Free.XS.i2dS Y.here C.1 rfl (C.cd hd) rfl (i2d_w x) kt) hr
theorem go_l2d (C : Cx p s m meth c Z a0 own bytes maxL ret nm) (X : St Z p l e R s m args below meth c n0 T h k n) {x : Int64} (pc' : Nat) (hp : pc + 1 = pc') (hd : decode bytes pc = .ok (.l2d, 1)) (hr : Go p e below Q (T.setTop (mkF m pc' Ls (.double (FP.l2d x) :: st)))) : Go p e below Q (T.setTop (mkF m pc Ls (.long x :: st))) := by
  subst hp
  obtain ⟨locs, Y, -, -, -⟩ := X
  exact Go.back (fun t kt => Jvm.Free.XS.l2dS Y.here C.1 rfl (C.cd hd) rfl rfl kt) hr
theorem go_dadd (C : Cx p s m meth c Z a0 own bytes maxL ret nm) (X : St Z p l e R s m args below meth c n0 T h k n) {x y : Int64} (pc' : Nat) (hp : pc + 1 = pc') (hd : decode bytes pc = .ok (.dadd, 1)) (ha : B53 x) (hb : B53 y) (hr : Go p e below Q (T.setTop (mkF m pc' Ls (.double (FP.l2d (x + y)) :: st)))) : Go p e below Q (T.setTop (mkF m pc Ls (.double (FP.l2d y) :: .double (FP.l2d x) :: st))) := by
  subst hp
  obtain ⟨locs, Y, -, -, -⟩ := X
  exact Go.back (fun t kt => Jvm.Free.XS.daddS Y.here C.1 rfl (C.cd hd) rfl (nn_w (dadd_w ha hb)) (dadd_w ha hb) kt) hr
theorem go_dcmp (C : Cx p s m meth c Z a0 own bytes maxL ret nm) (X : St Z p l e R s m args below meth c n0 T h k n) {o : CmpOp} {x y : Int64} (pc' : Nat) (hp : pc + 1 = pc') (hd : decode bytes pc = .ok (.dcmp o, 1)) (ha : B53 x) (hb : B53 y) (hr : Go p e below Q (T.setTop (mkF m pc' Ls (.int (lcmpW x y) :: st)))) : Go p e below Q (T.setTop (mkF m pc Ls (.double (FP.l2d y) :: .double (FP.l2d x) :: st))) := by
  subst hp
  obtain ⟨locs, Y, -, -, -⟩ := X
  exact Go.back (fun t kt => Jvm.Free.XS.dcmpS Y.here C.1 rfl (C.cd hd) rfl (dcmpV_w ha hb o) kt) hr
theorem go_ldcInt (C : Cx p s m meth c Z a0 own bytes maxL ret nm) (X : St Z p l e R s m args below meth c n0 T h k n) {idx : Nat} {v : Int32} (w : (Jvm.Cond.constant own idx v).before a0 Z = true) (hp : pc + 2 = pc') (hd : decode bytes pc = .ok (.ldc idx, 2)) (hr : Go p e below Q (T.setTop (mkF m pc' Ls (.int v :: st)))) : Go p e below Q (T.setTop (mkF m pc Ls st)) := by
  subst hp
  obtain ⟨locs, Y, -, -, -⟩ := X
  exact Go.back (fun t kt => Y.ldcInt C.1 C.ow (mvT C.hZ w) (g := mkF m pc Ls st) rfl (C.cd hd) t kt) hr
theorem go_ldcwInt (C : Cx p s m meth c Z a0 own bytes maxL ret nm) (X : St Z p l e R s m args below meth c n0 T h k n) {idx : Nat} {v : Int32} (w : (Jvm.Cond.constant own idx v).before a0 Z = true) (hp : pc + 3 = pc') (hd : decode bytes pc = .ok (.ldc_w idx, 3)) (hr : Go p e below Q (T.setTop (mkF m pc' Ls (.int v :: st)))) : Go p e below Q (T.setTop (mkF m pc Ls st)) := by
  subst hp
  obtain ⟨locs, Y, -, -, -⟩ := X
  exact Go.back (fun t kt => Y.ldcwInt C.1 C.ow (mvT C.hZ w) (g := mkF m pc Ls st) rfl (C.cd hd) t kt) hr
theorem go_ldc2Long (C : Cx p s m meth c Z a0 own bytes maxL ret nm) (X : St Z p l e R s m args below meth c n0 T h k n) {idx : Nat} {v : Int64} (w : (Jvm.Cond.constantLong own idx v).before a0 Z = true) (hp : pc + 3 = pc') (hd : decode bytes pc = .ok (.ldc2_w idx, 3)) (hr : Go p e below Q (T.setTop (mkF m pc' Ls (.long v :: st)))) : Go p e below Q (T.setTop (mkF m pc Ls st)) := by
  subst hp
  obtain ⟨locs, Y, -, -, -⟩ := X
  exact Go.back (fun t kt => Y.ldc2Long C.1 C.ow (mvT C.hZ w) (g := mkF m pc Ls st) rfl (C.cd hd) t kt) hr
variable {kc kn : Nat} {Qy : Option Value → Heap → Prop}
theorem go_leave (C : Cx p s m meth c Z a0 own bytes maxL ret nm) (X : St Z p l e R s m args below meth c n0 T h k n) {v : Option Value} {f : JFrame} (hv : meth.sig.returnType = none → v = none) (hQ : Qy v h) (hk : k ≤ kc) (hn : n ≤ kn)
    (go : ∀ {locs : List Loc} (Y : Stand p l e R s m args below meth c T locs k n) {fs : List Frame}, (∀ (f : JFrame) (acts : List Action), f.method = m → f.locked = none → f.entered = [] → (doReturn e (T.setTop f) acts v).1 = T.setFrames fs) → Steps p.tables e below (T.setTop f) (T.setFrames fs)) :
    Go p e below (FinQ s kc kn n0 Qy) (T.setTop f) := by
  obtain ⟨locs, Y, N, -, rfl⟩ := X
  obtain ⟨fs, hr, hrun, hended, hW, hsame⟩ := Y.leave hv C.lk
  exact ⟨_, _, go Y hr, hrun, hended, _, _, rfl, ⟨N, hQ⟩, ⟨_, rfl⟩, hW, hsame.mono hk hn⟩
theorem go_ret0 (C : Cx p s m meth c Z a0 own bytes maxL none nm) (X : St Z p l e R s m args below meth c n0 T h k n) (hd : decode bytes pc = .ok (.return_, 1)) (hQ : Qy none h) (hk : k ≤ kc) (hn : n ≤ kn) : Go p e below (FinQ s kc kn n0 Qy) (T.setTop (mkF m pc Ls [])) :=
  go_leave C X (fun _ => rfl) hQ hk hn fun Y _ hr => Y.returnOut C.1 C.rt (C.cd hd) hr
theorem go_retI (C : Cx p s m meth c Z a0 own bytes maxL (some .int) nm) (X : St Z p l e R s m args below meth c n0 T h k n) {z : Int32} (hd : decode bytes pc = .ok (.ireturn, 1)) (hQ : Qy (some (.int z)) h) (hk : k ≤ kc) (hn : n ≤ kn) : Go p e below (FinQ s kc kn n0 Qy) (T.setTop (mkF m pc Ls (.int z :: st))) :=
  go_leave C X (fun q => by rw [C.rt] at q; cases q) hQ hk hn fun Y _ hr => retOut Y C.1 C.rt rfl (Or.inl ⟨rfl, Or.inl rfl, _, rfl⟩) (C.cd hd) hr
theorem go_retJ (C : Cx p s m meth c Z a0 own bytes maxL (some .long) nm) (X : St Z p l e R s m args below meth c n0 T h k n) {z : Int64} (hd : decode bytes pc = .ok (.lreturn, 1)) (hQ : Qy (some (.long z)) h) (hk : k ≤ kc) (hn : n ≤ kn) : Go p e below (FinQ s kc kn n0 Qy) (T.setTop (mkF m pc Ls (.long z :: st))) :=
  go_leave C X (fun q => by rw [C.rt] at q; cases q) hQ hk hn fun Y _ hr => retOut Y C.1 C.rt rfl (Or.inr (Or.inl ⟨rfl, rfl, _, rfl⟩)) (C.cd hd) hr
theorem go_retD (C : Cx p s m meth c Z a0 own bytes maxL (some .double) nm) (X : St Z p l e R s m args below meth c n0 T h k n) {z : UInt64} (hd : decode bytes pc = .ok (.dreturn, 1)) (hQ : Qy (some (.double z)) h) (hk : k ≤ kc) (hn : n ≤ kn) : Go p e below (FinQ s kc kn n0 Qy) (T.setTop (mkF m pc Ls (.double z :: st))) :=
  go_leave C X (fun q => by rw [C.rt] at q; cases q) hQ hk hn fun Y _ hr => retOut Y C.1 C.rt rfl (Or.inr (Or.inr (Or.inl ⟨rfl, rfl, _, rfl⟩))) (C.cd hd) hr
theorem go_retA {ty : FieldType} (C : Cx p s m meth c Z a0 own bytes maxL (some ty) nm) (X : St Z p l e R s m args below meth c n0 T h k n) {v : Value} (hd : decode bytes pc = .ok (.areturn, 1)) (ht : ty.isReference = true) (hv : v.isRef = true) (hQ : Qy (some v) h) (hk : k ≤ kc) (hn : n ≤ kn) : Go p e below (FinQ s kc kn n0 Qy) (T.setTop (mkF m pc Ls (v :: st))) :=
  go_leave C X (fun q => by rw [C.rt] at q; cases q) hQ hk hn fun Y _ hr => retOut Y C.1 C.rt (by cases ty <;> first | (cases ht; done) | rfl) (Or.inr (Or.inr (Or.inr (Or.inr ⟨rfl, ht, hv⟩)))) (C.cd hd) hr
theorem go_retN {ty : FieldType} (C : Cx p s m meth c Z a0 own bytes maxL (some ty) nm) (X : St Z p l e R s m args below meth c n0 T h k n) {z z' : Int32} (ht : ty = .boolean ∨ ty = .byte ∨ ty = .char ∨ ty = .short) (hz : nar ty z = z') (hd : decode bytes pc = .ok (.ireturn, 1)) (hQ : Qy (some (.int z')) h) (hk : k ≤ kc) (hn : n ≤ kn) : Go p e below (FinQ s kc kn n0 Qy) (T.setTop (mkF m pc Ls (.int z :: st))) := by
  subst hz
  exact go_leave C X (fun q => by rw [C.rt] at q; cases q) hQ hk hn fun Y _ hr => retN Y C.1 C.rt ht (C.cd hd) hr
/-! calls by the callee's contract -/
variable {idx : Nat} {y : MethodName} {yb : ByteArray} {yl : Nat} {yr : Option FieldType} {rm : Room} {as' : Array Value} {QY : Option Value → Heap → Prop} {argsL rest : List Value}
theorem con_back (C : Cx p s m meth c Z a0 own bytes maxL ret nm) (hM : Con l Z y yb yl yr rm as' h n0 QY) {W : Nat} (wc : (Jvm.Cond.code y yb yl yr).before a0 Z = true) (wz : (Jvm.Cond.initialized y.cls).before a0 Z = true) (hf : rm.frames + 1 ≤ R.frames) (hl : W + (yl + 11) + rm.locals ≤ R.locals) :
    Back l R p e below s args y 3 W (fun A a => a = as' ∧ A.U.heap = h ∧ A.cells + rm.cells ≤ R.cells ∧ A.slots + rm.slots ≤ R.slots) (fun A _ v B => ∃ L, (Fr n0 L ∧ QY v B.U.heap) ∧ B.locs = A.locs ++ L ∧ B.cells = A.cells + rm.cells ∧ B.slots = A.slots + rm.slots) :=
  backOf (Q := fun v h' L => Fr n0 L ∧ QY v h') (hM []) C.hZ wc wz hf hl
theorem go_callS (C : Cx p s m meth c Z a0 own bytes maxL ret nm) (X : St Z p l e R s m args below meth c n0 T h k n) (wl : (Jvm.Cond.methodLink own idx y).before a0 Z = true) (ws : (Jvm.Cond.static y).before a0 Z = true) (wi : (Jvm.Cond.initialized y.cls).before a0 Z = true) (wc : (Jvm.Cond.code y yb yl yr).before a0 Z = true)
    (hM : Con l Z y yb yl yr rm as' h n0 QY) (hlen : ∀ sig, parseMethodDescriptor y.desc = some sig → argsL.length = sig.parameters.length) (ha : argsL.toArray = as') (hy : y.cls ≠ "java/lang/invoke/MethodHandle" ∧ y.cls ≠ "java/lang/invoke/VarHandle")
    (hf : rm.frames + 1 ≤ R.frames) (hl : (rest.map fun v => v.category).sum + (yl + 11) + rm.locals ≤ R.locals) (hc : k + rm.cells ≤ R.cells) (hn : n + rm.slots ≤ R.slots) (hst : st = argsL.reverse ++ rest) (hsz : Ls.size = maxL) (hp : pc + 3 = pc') (hd : decode bytes pc = .ok (.invokestatic idx, 3))
    (hr : ∀ T' h' v, QY v h' → St Z p l e R s m args below meth c n0 T' h' (k + rm.cells) (n + rm.slots) → Go p e below Q (T'.setTop (mkF m pc' Ls (v.toList ++ rest)))) : Go p e below Q (T.setTop (mkF m pc Ls st)) := by
  subst hp; subst ha; subst hst
  obtain ⟨locs, Y, N, zs, eT⟩ := X
  obtain ⟨v, _, ⟨T', L', k', n'⟩, -, X', ⟨Lc, ⟨N', hQ⟩, l1, y1, z1⟩, stp⟩ := Jvm.LawKit.callS Y C.1 C.ow (mvT C.hZ wl) (mvT C.hZ ws) (mvT C.hZ wi) (mvT C.hZ wc) hy (con_back C hM (W := (rest.map fun v => v.category).sum) wc wi hf hl) (g := mkF m pc Ls (argsL.reverse ++ rest)) rfl (hsz.trans C.ml.symm) (argsL := argsL) (rest := rest) hlen rfl (by show 2 * 0 + _ ≤ _; omega) (C.cd hd) (fun _ _ => ⟨rfl, eT, hc, hn⟩)
  dsimp only [Pt.U, Pt.locs, Pt.cells, Pt.slots] at X' l1 y1 z1 stp hQ
  subst l1 y1 z1
  exact Go.back stp (hr T' T'.heap v hQ ⟨_, X', N.app N', zs, rfl⟩)
theorem go_special (C : Cx p s m meth c Z a0 own bytes maxL ret nm) (X : St Z p l e R s m args below meth c n0 T h k n) {a : Addr} (wl : (Jvm.Cond.methodLink own idx y).before a0 Z = true) (ws : (Jvm.Cond.instanceMethod y).before a0 Z = true) (wi : (Jvm.Cond.initialized y.cls).before a0 Z = true) (wc : (Jvm.Cond.code y yb yl none).before a0 Z = true) (hy1 : y.name = "<init>")
    (hM : Con l Z y yb yl none rm as' h n0 QY) (hlen : ∀ sig, parseMethodDescriptor y.desc = some sig → argsL.length = sig.parameters.length) (ha : (.ref a :: argsL).toArray = as') (hy : y.cls ≠ "java/lang/invoke/MethodHandle" ∧ y.cls ≠ "java/lang/invoke/VarHandle")
    (hf : rm.frames + 1 ≤ R.frames) (hl : (rest.map fun v => v.category).sum + (yl + 11) + rm.locals ≤ R.locals) (hc : k + rm.cells ≤ R.cells) (hn : n + rm.slots ≤ R.slots) (hst : st = argsL.reverse ++ .ref a :: rest) (hsz : Ls.size = maxL) (hp : pc + 3 = pc') (hd : decode bytes pc = .ok (.invokespecial idx, 3))
    (hr : ∀ T' h' v, QY v h' → St Z p l e R s m args below meth c n0 T' h' (k + rm.cells) (n + rm.slots) → Go p e below Q (T'.setTop (mkF m pc' Ls (v.toList ++ rest)))) : Go p e below Q (T.setTop (mkF m pc Ls st)) := by
  subst hp; subst ha; subst hst
  obtain ⟨locs, Y, N, zs, eT⟩ := X
  obtain ⟨v, _, ⟨T', L', k', n'⟩, -, X', ⟨Lc, ⟨N', hQ⟩, l1, y1, z1⟩, stp⟩ := Y.specialBack C.1 hy1 C.ow (mvT C.hZ wl) (mvT C.hZ ws) (mvT C.hZ wc) hy (con_back C hM (W := (rest.map fun v => v.category).sum) wc wi hf hl) (g := mkF m pc Ls (argsL.reverse ++ .ref a :: rest)) rfl (hsz.trans C.ml.symm) (Steps.refl _) (a := a) (argsL := argsL) (rest := rest) hlen rfl (by show 2 * 0 + _ ≤ _; omega) (C.cd hd) (fun _ _ => ⟨rfl, eT, hc, hn⟩)
  dsimp only [Pt.U, Pt.locs, Pt.cells, Pt.slots] at X' l1 y1 z1 stp hQ
  subst l1 y1 z1
  exact Go.back (fun t kt => stp.trans kt) (hr T' T'.heap v hQ ⟨_, X', N.app N', zs, rfl⟩)
theorem go_virtual (C : Cx p s m meth c Z a0 own bytes maxL ret nm) (X : St Z p l e R s m args below meth c n0 T h k n) {a : Addr} {cn : String} {y0 : MethodName} (E : Exa Z h a cn) (wl : (Jvm.Cond.methodLink own idx y0).before a0 Z = true) (wd : (Jvm.Cond.declares y0).before a0 Z = true) (hnf : NotFace s y0) (wsel : (Jvm.Cond.selects cn y0 y).before a0 Z = true) (ws : (Jvm.Cond.instanceMethod y).before a0 Z = true) (wi : (Jvm.Cond.initialized y.cls).before a0 Z = true) (wc : (Jvm.Cond.code y yb yl yr).before a0 Z = true)
    (hM : Con l Z y yb yl yr rm as' h n0 QY) (hlen : ∀ sig, parseMethodDescriptor y0.desc = some sig → argsL.length = sig.parameters.length) (ha : (.ref a :: argsL).toArray = as') (hy : y0.cls ≠ "java/lang/invoke/MethodHandle" ∧ y0.cls ≠ "java/lang/invoke/VarHandle")
    (hf : rm.frames + 1 ≤ R.frames) (hl : (rest.map fun v => v.category).sum + (yl + 11) + rm.locals ≤ R.locals) (hc : k + rm.cells ≤ R.cells) (hn : n + rm.slots ≤ R.slots) (hst : st = argsL.reverse ++ .ref a :: rest) (hsz : Ls.size = maxL) (hp : pc + 3 = pc') (hd : decode bytes pc = .ok (.invokevirtual idx, 3))
    (hr : ∀ T' h' v, QY v h' → St Z p l e R s m args below meth c n0 T' h' (k + rm.cells) (n + rm.slots) → Go p e below Q (T'.setTop (mkF m pc' Ls (v.toList ++ rest)))) : Go p e below Q (T.setTop (mkF m pc Ls st)) := by
  subst hp; subst ha; subst hst
  obtain ⟨locs, Y, N, zs, eT⟩ := X
  obtain ⟨cq, kq, qa, qb, qc⟩ := isOf C.hZ eT E
  obtain ⟨v, _, ⟨T', L', k', n'⟩, -, X', ⟨Lc, ⟨N', hQ⟩, l1, y1, z1⟩, stp⟩ := Y.virtualBack C.1 C.ow (mvT C.hZ wl) (mvT C.hZ wd) hnf (mvT C.hZ wsel) (mvT C.hZ ws) hy (con_back C hM (W := (rest.map fun v => v.category).sum) wc wi hf hl) qa qc (g := mkF m pc Ls (argsL.reverse ++ .ref a :: rest)) rfl (hsz.trans C.ml.symm) (Steps.refl _) (argsL := argsL) (rest := rest) hlen rfl (by show 2 * 0 + _ ≤ _; omega) (C.cd hd) (fun _ _ => ⟨rfl, eT, hc, hn⟩)
  dsimp only [Pt.U, Pt.locs, Pt.cells, Pt.slots] at X' l1 y1 z1 stp hQ
  subst l1 y1 z1
  exact Go.back (fun t kt => stp.trans kt) (hr T' T'.heap v hQ ⟨_, X', N.app N', zs, rfl⟩)
theorem go_private (C : Cx p s m meth c Z a0 own bytes maxL ret nm) (X : St Z p l e R s m args below meth c n0 T h k n) {a : Addr} {cn : String} (E : Exa Z h a cn) (wl : (Jvm.Cond.methodLink own idx y).before a0 Z = true) (ws : (Jvm.Cond.instanceMethod y).before a0 Z = true) (wsel : (Jvm.Cond.selects y.cls y y).before a0 Z = true) (wp : (Jvm.Cond.privateMethod y).before a0 Z = true) (wi : (Jvm.Cond.initialized y.cls).before a0 Z = true) (wc : (Jvm.Cond.code y yb yl yr).before a0 Z = true)
    (hM : Con l Z y yb yl yr rm as' h n0 QY) (hlen : ∀ sig, parseMethodDescriptor y.desc = some sig → argsL.length = sig.parameters.length) (ha : (.ref a :: argsL).toArray = as') (hy : y.cls ≠ "java/lang/invoke/MethodHandle" ∧ y.cls ≠ "java/lang/invoke/VarHandle")
    (hf : rm.frames + 1 ≤ R.frames) (hl : (rest.map fun v => v.category).sum + (yl + 11) + rm.locals ≤ R.locals) (hc : k + rm.cells ≤ R.cells) (hn : n + rm.slots ≤ R.slots) (hst : st = argsL.reverse ++ .ref a :: rest) (hsz : Ls.size = maxL) (hp : pc + 3 = pc') (hd : decode bytes pc = .ok (.invokevirtual idx, 3))
    (hr : ∀ T' h' v, QY v h' → St Z p l e R s m args below meth c n0 T' h' (k + rm.cells) (n + rm.slots) → Go p e below Q (T'.setTop (mkF m pc' Ls (v.toList ++ rest)))) : Go p e below Q (T.setTop (mkF m pc Ls st)) := by
  subst hp; subst ha; subst hst
  obtain ⟨locs, Y, N, zs, eT⟩ := X
  obtain ⟨cq, q1, q2⟩ := E.cell
  obtain ⟨v, _, ⟨T', L', k', n'⟩, -, X', ⟨Lc, ⟨N', hQ⟩, l1, y1, z1⟩, stp⟩ := Y.privateBack C.1 C.ow (mvT C.hZ wl) (mvT C.hZ ws) (mvT C.hZ wsel) (Cond.privateMethod_at (mvP C.hZ wp (args := #[]))) (mvT C.hZ wc) hy (con_back C hM (W := (rest.map fun v => v.category).sum) wc wi hf hl) (g := mkF m pc Ls (argsL.reverse ++ .ref a :: rest)) rfl (hsz.trans C.ml.symm) (Steps.refl _) (a := a) (by rw [eT]; exact q1) q2 (argsL := argsL) (rest := rest) hlen rfl (by show 2 * 0 + _ ≤ _; omega) (C.cd hd) (fun _ _ => ⟨rfl, eT, hc, hn⟩)
  dsimp only [Pt.U, Pt.locs, Pt.cells, Pt.slots] at X' l1 y1 z1 stp hQ
  subst l1 y1 z1
  exact Go.back (fun t kt => stp.trans kt) (hr T' T'.heap v hQ ⟨_, X', N.app N', zs, rfl⟩)
theorem go_initO (C : Cx p s m meth c Z a0 own bytes maxL ret nm) (X : St Z p l e R s m args below meth c n0 T h k n) {a : Addr} (w1 : (Jvm.Cond.methodLink own idx Lib.objectInit).before a0 Z = true) (w2 : (Jvm.Cond.instanceMethod Lib.objectInit).before a0 Z = true) (w3 : (Jvm.Cond.code Lib.objectInit ⟨#[0xb1]⟩ 1 none).before a0 Z = true)
    (hf : 1 ≤ R.frames) (hl : (st.map fun v => v.category).sum + 12 ≤ R.locals) (hsz : Ls.size = maxL) (hp : pc + 3 = pc') (hd : decode bytes pc = .ok (.invokespecial idx, 3))
    (hr : ∀ T', St Z p l e R s m args below meth c n0 T' h k n → Go p e below Q (T'.setTop (mkF m pc' Ls st))) : Go p e below Q (T.setTop (mkF m pc Ls (.ref a :: st))) := by
  subst hp
  obtain ⟨locs, Y, N, zs, eT⟩ := X
  obtain ⟨T', X', e', stp⟩ := initO Y C.1 C.hZ C.ow w1 w2 w3 eT (g := mkF m pc Ls (.ref a :: st)) rfl (hsz.trans C.ml.symm) rfl (C.cd hd) hf (W := (st.map fun v => v.category).sum) (by show 2 * 0 + _ ≤ _; omega) hl
  exact Go.back stp (hr T' ⟨_, X', N, zs, e'⟩)
/-! fields, new objects, arrays -/
theorem go_getF (C : Cx p s m meth c Z a0 own bytes maxL ret nm) (X : St Z p l e R s m args below meth c n0 T h k n) {R0 O fn d : String} {a : Addr} {v : Value} (w : (Jvm.Cond.fieldLink own idx R0 fn d).before a0 Z = true) (via : Via Z R0 O fn d) (F : Fld Z h a O fn d v) (hp : pc + 3 = pc') (hd : decode bytes pc = .ok (.getfield idx, 3))
    (hr : ∀ T', St Z p l e R s m args below meth c n0 T' h k n → Go p e below Q (T'.setTop (mkF m pc' Ls (v :: st)))) : Go p e below Q (T.setTop (mkF m pc Ls (.ref a :: st))) := by
  subst hp
  obtain ⟨locs, Y, N, zs, eT⟩ := X
  obtain ⟨T', X', e', stp⟩ := getF Y C.1 C.hZ C.ow (host := "") (Or.inl w) via eT F (g := mkF m pc Ls (.ref a :: st)) rfl rfl (C.cd hd)
  exact Go.back stp (hr T' ⟨_, X', N, zs, e'⟩)
theorem go_getFN (C : Cx p s m meth c Z a0 own bytes maxL ret nm) (X : St Z p l e R s m args below meth c n0 T h k n) {R0 O fn d host : String} {a : Addr} {v : Value} (w : (Jvm.Cond.fieldLinkNest own idx R0 fn d host).before a0 Z = true) (via : Via Z R0 O fn d) (F : Fld Z h a O fn d v) (hp : pc + 3 = pc') (hd : decode bytes pc = .ok (.getfield idx, 3))
    (hr : ∀ T', St Z p l e R s m args below meth c n0 T' h k n → Go p e below Q (T'.setTop (mkF m pc' Ls (v :: st)))) : Go p e below Q (T.setTop (mkF m pc Ls (.ref a :: st))) := by
  subst hp
  obtain ⟨locs, Y, N, zs, eT⟩ := X
  obtain ⟨T', X', e', stp⟩ := getF Y C.1 C.hZ C.ow (host := host) (Or.inr w) via eT F (g := mkF m pc Ls (.ref a :: st)) rfl rfl (C.cd hd)
  exact Go.back stp (hr T' ⟨_, X', N, zs, e'⟩)
theorem go_getS (C : Cx p s m meth c Z a0 own bytes maxL ret nm) (X : St Z p l e R s m args below meth c n0 T h k n) {O fn d : String} {v : Value} (w : (Jvm.Cond.fieldLink own idx O fn d).before a0 Z = true) (F : Sta Z h O fn d v) (hp : pc + 3 = pc') (hd : decode bytes pc = .ok (.getstatic idx, 3))
    (hr : ∀ T', St Z p l e R s m args below meth c n0 T' h k n → Go p e below Q (T'.setTop (mkF m pc' Ls (v :: st)))) : Go p e below Q (T.setTop (mkF m pc Ls st)) := by
  subst hp
  obtain ⟨locs, Y, N, zs, eT⟩ := X
  obtain ⟨T', X', e', stp⟩ := getS2 Y C.1 C.hZ C.ow (host := "") (Or.inl w) Via.refl eT F (g := mkF m pc Ls st) rfl (C.cd hd)
  exact Go.back stp (hr T' ⟨_, X', N, zs, e'⟩)
theorem go_putF (C : Cx p s m meth c Z a0 own bytes maxL ret nm) (X : St Z p l e R s m args below meth c n0 T h k n) {R0 O fn d cn : String} {kk : Nat} {ty : FieldType} {a : Addr} {v old : Value} (w : (Jvm.Cond.fieldLink own idx R0 fn d).before a0 Z = true) (via : Via Z R0 O fn d) (F : Fld Z h a O fn d old) (E : Exa Z h a cn) (L : (Jvm.Cond.lays cn O fn d).before a0 Z = true ∨ ((Jvm.Cond.laysFinal cn O fn d).before a0 Z = true ∧ own = O ∧ meth.name = "<init>")) (wi : (Jvm.Cond.instantiable cn kk).before a0 Z = true) (ga : n0 ≤ a)
    (hty : parseFieldDescriptor d = some ty) (hn : narrow ty v = v) (hf : fits ty v = true) (hp : pc + 3 = pc') (hd : decode bytes pc = .ok (.putfield idx, 3))
    (hr : ∀ T' h', Wr h h' a (Jvm.RoadKit.slotOf Z O fn d) v → St Z p l e R s m args below meth c n0 T' h' k n → Go p e below Q (T'.setTop (mkF m pc' Ls st))) : Go p e below Q (T.setTop (mkF m pc Ls (v :: .ref a :: st))) := by
  subst hp
  obtain ⟨locs, Y, N, zs, eT⟩ := X
  obtain ⟨T', h', X', e', W, stp⟩ := putF Y C.1 C.hZ C.ow (host := "") (Or.inl w) via eT F E L wi hty hn hf (g := mkF m pc Ls (v :: .ref a :: st)) rfl rfl (C.cd hd)
  exact Go.back stp (hr T' h' W ⟨_, X', Fr.snoc X' N ga, zs, e'⟩)
theorem go_putFN (C : Cx p s m meth c Z a0 own bytes maxL ret nm) (X : St Z p l e R s m args below meth c n0 T h k n) {R0 O fn d cn : String} {kk : Nat} {ty : FieldType} {a : Addr} {v v' old : Value} (w : (Jvm.Cond.fieldLink own idx R0 fn d).before a0 Z = true) (via : Via Z R0 O fn d) (F : Fld Z h a O fn d old) (E : Exa Z h a cn) (L : (Jvm.Cond.lays cn O fn d).before a0 Z = true ∨ ((Jvm.Cond.laysFinal cn O fn d).before a0 Z = true ∧ own = O ∧ meth.name = "<init>")) (wi : (Jvm.Cond.instantiable cn kk).before a0 Z = true) (ga : n0 ≤ a)
    (hty : parseFieldDescriptor d = some ty) (hn : narrow ty v = v') (hf : fits ty v' = true) (hp : pc + 3 = pc') (hd : decode bytes pc = .ok (.putfield idx, 3))
    (hr : ∀ T' h', Wr h h' a (Jvm.RoadKit.slotOf Z O fn d) v' → St Z p l e R s m args below meth c n0 T' h' k n → Go p e below Q (T'.setTop (mkF m pc' Ls st))) : Go p e below Q (T.setTop (mkF m pc Ls (v :: .ref a :: st))) := by
  subst hp
  obtain ⟨locs, Y, N, zs, eT⟩ := X
  obtain ⟨T', h', X', e', W, stp⟩ := putFN Y C.1 C.hZ C.ow w via eT F E L wi hty hn hf (g := mkF m pc Ls (v :: .ref a :: st)) rfl rfl (C.cd hd)
  exact Go.back stp (hr T' h' W ⟨_, X', Fr.snoc X' N ga, zs, e'⟩)
theorem go_new (C : Cx p s m meth c Z a0 own bytes maxL ret nm) (X : St Z p l e R s m args below meth c n0 T h k n) {cn : String} {kk : Nat} (w : (Jvm.Cond.classLink own idx cn).before a0 Z = true) (wi : (Jvm.Cond.instantiable cn kk).before a0 Z = true) (wz : (Jvm.Cond.initialized cn).before a0 Z = true) (hc : k + 1 ≤ R.cells) (hl : n + kk ≤ R.slots) (hp : pc + 3 = pc') (hd : decode bytes pc = .ok (.new idx, 3))
    (hr : ∀ T' h' a, a = h.size → n0 ≤ a → Ext h h' → Exa Z h' a cn → (∀ {O fn d : String} {ty : FieldType}, Laid Z a0 cn O fn d → parseFieldDescriptor d = some ty → Fld Z h' a O fn d (defaultValue ty)) → St Z p l e R s m args below meth c n0 T' h' (k + 1) (n + kk) → Go p e below Q (T'.setTop (mkF m pc' Ls (.ref a :: st)))) : Go p e below Q (T.setTop (mkF m pc Ls st)) := by
  subst hp
  have hsz := X.sz
  obtain ⟨locs, Y, N, zs, eT⟩ := X
  obtain ⟨T', h', X', e', E, A, D, -, stp⟩ := newO Y C.1 C.hZ C.ow w wi wz eT (g := mkF m pc Ls st) rfl (C.cd hd) hc hl
  exact Go.back stp (hr T' h' _ rfl hsz E A D ⟨_, X', N, zs, e'⟩)
/-- an array whose components are vs -/
def La (Z : State) (h : Heap) (a : Addr) (ty : FieldType) (vs : List Value) : Prop := ∃ c : Cell, Arr Z h a c ty ∧ c.slots = vs.toArray ∧ vs.length < 2 ^ 31 ∧ ∀ v ∈ vs, fits ty v = true
theorem La.lt {a : Addr} {ty : FieldType} {vs : List Value} (F : La Z h a ty vs) : a < h.size := by obtain ⟨c, A, -⟩ := F; exact A.lt
theorem La.len {a : Addr} {ty : FieldType} {vs : List Value} (F : La Z h a ty vs) : vs.length < 2 ^ 31 := by obtain ⟨c, A, -, q, -⟩ := F; exact q
theorem La.ext {h' : Heap} {a : Addr} {ty : FieldType} {vs : List Value} (F : La Z h a ty vs) (E : Ext h h') : La Z h' a ty vs := by obtain ⟨c, A, r⟩ := F; exact ⟨c, A.ext E, r⟩
theorem La.other {h' : Heap} {a b : Addr} {sl : Nat} {v : Value} {ty : FieldType} {vs : List Value} (F : La Z h b ty vs) (W : Wr h h' a sl v) (q : b ≠ a) : La Z h' b ty vs := by obtain ⟨c, A, r⟩ := F; exact ⟨c, A.other W q, r⟩
theorem La.keep {h' : Heap} {a : Addr} {ws : List Addr} {ty : FieldType} {vs : List Value} (F : La Z h a ty vs) (K : Keep h h' ws) (q : a ∉ ws) : La Z h' a ty vs := by obtain ⟨c, A, r⟩ := F; exact ⟨c, ⟨K.2.1 a c A.1 q, A.2⟩, r⟩
theorem La.set {h' : Heap} {a : Addr} {j : Nat} {v : Value} {ty : FieldType} {vs : List Value} (F : La Z h a ty vs) (W : Wr h h' a j v) (hv : fits ty v = true) : La Z h' a ty (vs.set j v) := by
  obtain ⟨c, A, e1, e2, e3⟩ := F
  refine ⟨_, A.same W, ?_, by simpa using e2, fun w hw => ?_⟩
  · simp [Cell.setSlot, e1]
  · rcases List.mem_or_eq_of_mem_set hw with q | q
    · exact e3 w q
    · subst q; exact hv
theorem clamp_eq {j : Int32} (q : 0 ≤ j.toInt) : (j.toNatClampNeg : Int) = j.toInt := by show ((j.toInt.toNat : Nat) : Int) = _; omega
theorem neg_not {j : Int32} (q : 0 ≤ j.toInt) : ¬ j < 0 := by rw [Int32.lt_iff_toInt_lt]; have : (0 : Int32).toInt = 0 := rfl; omega
theorem La.inb {c : Cell} {vs : List Value} {j : Int32} {v : Value} (e : c.slots = vs.toArray) (q : 0 ≤ j.toInt) (hv : vs[j.toNatClampNeg]? = some v) : ¬ (j < 0 ∨ c.slots.size ≤ j.toNatClampNeg) ∧ c.slots[j.toNatClampNeg]? = some v := by
  obtain ⟨hl, -⟩ := List.getElem?_eq_some_iff.mp hv
  refine ⟨fun r => r.elim (neg_not q) fun r => ?_, by rw [e]; simpa using hv⟩
  rw [e] at r; simp at r; omega
theorem go_alen (C : Cx p s m meth c Z a0 own bytes maxL ret nm) (X : St Z p l e R s m args below meth c n0 T h k n) {a : Addr} {ty : FieldType} {vs : List Value} {z : Int32} (A : La Z h a ty vs) (hz : vs.length.toInt32 = z) (hp : pc + 1 = pc') (hd : decode bytes pc = .ok (.arraylength, 1)) (hr : Go p e below Q (T.setTop (mkF m pc' Ls (.int z :: st)))) : Go p e below Q (T.setTop (mkF m pc Ls (.ref a :: st))) := by
  subst hp
  obtain ⟨locs, Y, N, zs, eT⟩ := X
  obtain ⟨cl, B, e1, e2, e3⟩ := A
  have ez : cl.slots.size.toInt32 = z := by rw [e1]; simpa using hz
  subst ez
  exact Go.back (fun t kt => Y.arraylength C.1 (by rw [eT]; exact B.1) (State.isArrayOf_alike C.hZ.alike B.2.1) (g := mkF m pc Ls (.ref a :: st)) rfl rfl (C.cd hd) t kt) hr

theorem go_iaload (C : Cx p s m meth c Z a0 own bytes maxL ret nm) (X : St Z p l e R s m args below meth c n0 T h k n) {a : Addr} {vs : List Value} {j : Int32} {v : Value} (A : La Z h a .int vs) (q : 0 ≤ j.toInt) (hv : vs[j.toNatClampNeg]? = some v) (hp : pc + 1 = pc') (hd : decode bytes pc = .ok (.iaload, 1)) (hr : Go p e below Q (T.setTop (mkF m pc' Ls (v :: st)))) : Go p e below Q (T.setTop (mkF m pc Ls (.int j :: .ref a :: st))) := by
  subst hp
  obtain ⟨locs, Y, N, zs, eT⟩ := X
  obtain ⟨cl, B, e1, e2, e3⟩ := A
  obtain ⟨i1, i2⟩ := La.inb e1 q hv
  exact Go.back (fun t kt => Y.iaload C.1 (by rw [eT]; exact B.1) (State.isArrayOf_alike C.hZ.alike B.2.1) B.2.2 i1 i2 (g := mkF m pc Ls (.int j :: .ref a :: st)) rfl rfl (C.cd hd) t kt) hr
theorem go_laload (C : Cx p s m meth c Z a0 own bytes maxL ret nm) (X : St Z p l e R s m args below meth c n0 T h k n) {a : Addr} {vs : List Value} {j : Int32} {v : Value} (A : La Z h a .long vs) (q : 0 ≤ j.toInt) (hv : vs[j.toNatClampNeg]? = some v) (hp : pc + 1 = pc') (hd : decode bytes pc = .ok (.laload, 1)) (hr : Go p e below Q (T.setTop (mkF m pc' Ls (v :: st)))) : Go p e below Q (T.setTop (mkF m pc Ls (.int j :: .ref a :: st))) := by
  subst hp
  obtain ⟨locs, Y, N, zs, eT⟩ := X
  obtain ⟨cl, B, e1, e2, e3⟩ := A
  obtain ⟨i1, i2⟩ := La.inb e1 q hv
  exact Go.back (fun t kt => Y.laload C.1 (by rw [eT]; exact B.1) (State.isArrayOf_alike C.hZ.alike B.2.1) B.2.2 i1 i2 (g := mkF m pc Ls (.int j :: .ref a :: st)) rfl rfl (C.cd hd) t kt) hr
theorem go_caload (C : Cx p s m meth c Z a0 own bytes maxL ret nm) (X : St Z p l e R s m args below meth c n0 T h k n) {a : Addr} {vs : List Value} {j : Int32} {v : Value} (A : La Z h a .char vs) (q : 0 ≤ j.toInt) (hv : vs[j.toNatClampNeg]? = some v) (hp : pc + 1 = pc') (hd : decode bytes pc = .ok (.caload, 1)) (hr : Go p e below Q (T.setTop (mkF m pc' Ls (v :: st)))) : Go p e below Q (T.setTop (mkF m pc Ls (.int j :: .ref a :: st))) := by
  subst hp
  obtain ⟨locs, Y, N, zs, eT⟩ := X
  obtain ⟨cl, B, e1, e2, e3⟩ := A
  obtain ⟨i1, i2⟩ := La.inb e1 q hv
  exact Go.back (fun t kt => Y.caload C.1 (by rw [eT]; exact B.1) (State.isArrayOf_alike C.hZ.alike B.2.1) B.2.2 i1 i2 (g := mkF m pc Ls (.int j :: .ref a :: st)) rfl rfl (C.cd hd) t kt) hr
theorem go_saload (C : Cx p s m meth c Z a0 own bytes maxL ret nm) (X : St Z p l e R s m args below meth c n0 T h k n) {a : Addr} {vs : List Value} {j : Int32} {v : Value} (A : La Z h a .short vs) (q : 0 ≤ j.toInt) (hv : vs[j.toNatClampNeg]? = some v) (hp : pc + 1 = pc') (hd : decode bytes pc = .ok (.saload, 1)) (hr : Go p e below Q (T.setTop (mkF m pc' Ls (v :: st)))) : Go p e below Q (T.setTop (mkF m pc Ls (.int j :: .ref a :: st))) := by
  subst hp
  obtain ⟨locs, Y, N, zs, eT⟩ := X
  obtain ⟨cl, B, e1, e2, e3⟩ := A
  obtain ⟨i1, i2⟩ := La.inb e1 q hv
  exact Go.back (fun t kt => Y.saload C.1 (by rw [eT]; exact B.1) (State.isArrayOf_alike C.hZ.alike B.2.1) B.2.2 i1 i2 (g := mkF m pc Ls (.int j :: .ref a :: st)) rfl rfl (C.cd hd) t kt) hr
theorem go_daload (C : Cx p s m meth c Z a0 own bytes maxL ret nm) (X : St Z p l e R s m args below meth c n0 T h k n) {a : Addr} {vs : List Value} {j : Int32} {v : Value} (A : La Z h a .double vs) (q : 0 ≤ j.toInt) (hv : vs[j.toNatClampNeg]? = some v) (hp : pc + 1 = pc') (hd : decode bytes pc = .ok (.daload, 1)) (hr : Go p e below Q (T.setTop (mkF m pc' Ls (v :: st)))) : Go p e below Q (T.setTop (mkF m pc Ls (.int j :: .ref a :: st))) := by
  subst hp
  obtain ⟨locs, Y, N, zs, eT⟩ := X
  obtain ⟨cl, B, e1, e2, e3⟩ := A
  obtain ⟨i1, i2⟩ := La.inb e1 q hv
  exact Go.back (fun t kt => Y.daload C.1 (by rw [eT]; exact B.1) (State.isArrayOf_alike C.hZ.alike B.2.1) B.2.2 i1 i2 (g := mkF m pc Ls (.int j :: .ref a :: st)) rfl rfl (C.cd hd) t kt) hr
theorem go_baloadBytes (C : Cx p s m meth c Z a0 own bytes maxL ret nm) (X : St Z p l e R s m args below meth c n0 T h k n) {a : Addr} {vs : List Value} {j : Int32} {v : Value} (A : La Z h a .byte vs) (q : 0 ≤ j.toInt) (hv : vs[j.toNatClampNeg]? = some v) (hp : pc + 1 = pc') (hd : decode bytes pc = .ok (.baload, 1)) (hr : Go p e below Q (T.setTop (mkF m pc' Ls (v :: st)))) : Go p e below Q (T.setTop (mkF m pc Ls (.int j :: .ref a :: st))) := by
  subst hp
  obtain ⟨locs, Y, N, zs, eT⟩ := X
  obtain ⟨cl, B, e1, e2, e3⟩ := A
  obtain ⟨i1, i2⟩ := La.inb e1 q hv
  exact Go.back (fun t kt => Y.baloadBytes C.1 (by rw [eT]; exact B.1) (State.isArrayOf_alike C.hZ.alike B.2.1) B.2.2 i1 i2 (g := mkF m pc Ls (.int j :: .ref a :: st)) rfl rfl (C.cd hd) t kt) hr
theorem go_baloadBooleans (C : Cx p s m meth c Z a0 own bytes maxL ret nm) (X : St Z p l e R s m args below meth c n0 T h k n) {a : Addr} {vs : List Value} {j : Int32} {v : Value} (A : La Z h a .boolean vs) (q : 0 ≤ j.toInt) (hv : vs[j.toNatClampNeg]? = some v) (hp : pc + 1 = pc') (hd : decode bytes pc = .ok (.baload, 1)) (hr : Go p e below Q (T.setTop (mkF m pc' Ls (v :: st)))) : Go p e below Q (T.setTop (mkF m pc Ls (.int j :: .ref a :: st))) := by
  subst hp
  obtain ⟨locs, Y, N, zs, eT⟩ := X
  obtain ⟨cl, B, e1, e2, e3⟩ := A
  obtain ⟨i1, i2⟩ := La.inb e1 q hv
  exact Go.back (fun t kt => Y.baloadBooleans C.1 (by rw [eT]; exact B.1) (State.isArrayOf_alike C.hZ.alike B.2.1) B.2.2 i1 i2 (g := mkF m pc Ls (.int j :: .ref a :: st)) rfl rfl (C.cd hd) t kt) hr
theorem go_aaload (C : Cx p s m meth c Z a0 own bytes maxL ret nm) (X : St Z p l e R s m args below meth c n0 T h k n) {a : Addr} {vs : List Value} {ty : FieldType} {j : Int32} {v : Value} (A : La Z h a ty vs) (ht : ty.isReference = true) (q : 0 ≤ j.toInt) (hv : vs[j.toNatClampNeg]? = some v) (hp : pc + 1 = pc') (hd : decode bytes pc = .ok (.aaload, 1)) (hr : Go p e below Q (T.setTop (mkF m pc' Ls (v :: st)))) : Go p e below Q (T.setTop (mkF m pc Ls (.int j :: .ref a :: st))) := by
  subst hp
  obtain ⟨locs, Y, N, zs, eT⟩ := X
  obtain ⟨cl, B, e1, e2, e3⟩ := A
  obtain ⟨i1, i2⟩ := La.inb e1 q hv
  exact Go.back (fun t kt => Y.aaload C.1 (by rw [eT]; exact B.1) (State.isArrayOf_alike C.hZ.alike B.2.1) ht B.2.2 i1 i2 (g := mkF m pc Ls (.int j :: .ref a :: st)) rfl rfl (C.cd hd) t kt) hr
theorem go_iastore (C : Cx p s m meth c Z a0 own bytes maxL ret nm) (X : St Z p l e R s m args below meth c n0 T h k n) {a : Addr} {vs : List Value} {j : Int32} {x : Int32} (A : La Z h a .int vs) (q : 0 ≤ j.toInt) (hj : j.toInt < vs.length) (ga : n0 ≤ a) (hp : pc + 1 = pc') (hd : decode bytes pc = .ok (.iastore, 1))
    (hr : ∀ T' h', Wr h h' a j.toNatClampNeg (.int x) → La Z h' a .int (vs.set j.toNatClampNeg (.int x)) → St Z p l e R s m args below meth c n0 T' h' k n → Go p e below Q (T'.setTop (mkF m pc' Ls st))) : Go p e below Q (T.setTop (mkF m pc Ls (.int x :: .int j :: .ref a :: st))) := by
  subst hp
  obtain ⟨locs, Y, N, zs, eT⟩ := X
  have A' := A
  obtain ⟨cl, B, e1, e2, e3⟩ := A
  have i1 : ¬ (j < 0 ∨ cl.slots.size ≤ j.toNatClampNeg) := fun r => r.elim (neg_not q) fun r => by
    rw [e1] at r; simp at r; have := clamp_eq q; omega
  obtain ⟨T', h', X', e', W, stp⟩ := stI Y C.1 C.hZ eT B i1 (g := mkF m pc Ls (.int x :: .int j :: .ref a :: st)) rfl rfl (C.cd hd)
  exact Go.back stp (hr T' h' W (A'.set W rfl) ⟨_, X', Fr.snoc X' N ga, zs, e'⟩)
theorem go_lastore (C : Cx p s m meth c Z a0 own bytes maxL ret nm) (X : St Z p l e R s m args below meth c n0 T h k n) {a : Addr} {vs : List Value} {j : Int32} {x : Int64} (A : La Z h a .long vs) (q : 0 ≤ j.toInt) (hj : j.toInt < vs.length) (ga : n0 ≤ a) (hp : pc + 1 = pc') (hd : decode bytes pc = .ok (.lastore, 1))
    (hr : ∀ T' h', Wr h h' a j.toNatClampNeg (.long x) → La Z h' a .long (vs.set j.toNatClampNeg (.long x)) → St Z p l e R s m args below meth c n0 T' h' k n → Go p e below Q (T'.setTop (mkF m pc' Ls st))) : Go p e below Q (T.setTop (mkF m pc Ls (.long x :: .int j :: .ref a :: st))) := by
  subst hp
  obtain ⟨locs, Y, N, zs, eT⟩ := X
  have A' := A
  obtain ⟨cl, B, e1, e2, e3⟩ := A
  have i1 : ¬ (j < 0 ∨ cl.slots.size ≤ j.toNatClampNeg) := fun r => r.elim (neg_not q) fun r => by
    rw [e1] at r; simp at r; have := clamp_eq q; omega
  obtain ⟨T', h', X', e', W, stp⟩ := stJ Y C.1 C.hZ eT B i1 (g := mkF m pc Ls (.long x :: .int j :: .ref a :: st)) rfl rfl (C.cd hd)
  exact Go.back stp (hr T' h' W (A'.set W rfl) ⟨_, X', Fr.snoc X' N ga, zs, e'⟩)
theorem go_dastore (C : Cx p s m meth c Z a0 own bytes maxL ret nm) (X : St Z p l e R s m args below meth c n0 T h k n) {a : Addr} {vs : List Value} {j : Int32} {x : UInt64} (A : La Z h a .double vs) (q : 0 ≤ j.toInt) (hj : j.toInt < vs.length) (ga : n0 ≤ a) (hp : pc + 1 = pc') (hd : decode bytes pc = .ok (.dastore, 1))
    (hr : ∀ T' h', Wr h h' a j.toNatClampNeg (.double x) → La Z h' a .double (vs.set j.toNatClampNeg (.double x)) → St Z p l e R s m args below meth c n0 T' h' k n → Go p e below Q (T'.setTop (mkF m pc' Ls st))) : Go p e below Q (T.setTop (mkF m pc Ls (.double x :: .int j :: .ref a :: st))) := by
  subst hp
  obtain ⟨locs, Y, N, zs, eT⟩ := X
  have A' := A
  obtain ⟨cl, B, e1, e2, e3⟩ := A
  have i1 : ¬ (j < 0 ∨ cl.slots.size ≤ j.toNatClampNeg) := fun r => r.elim (neg_not q) fun r => by
    rw [e1] at r; simp at r; have := clamp_eq q; omega
  obtain ⟨T', h', X', e', W, stp⟩ := stD Y C.1 C.hZ eT B i1 (g := mkF m pc Ls (.double x :: .int j :: .ref a :: st)) rfl rfl (C.cd hd)
  exact Go.back stp (hr T' h' W (A'.set W rfl) ⟨_, X', Fr.snoc X' N ga, zs, e'⟩)
theorem go_newarr (C : Cx p s m meth c Z a0 own bytes maxL ret nm) (X : St Z p l e R s m args below meth c n0 T h k n) {aty : ArrayType} (w : (Jvm.Cond.arrayClass (newarray.typeOf aty)).before a0 Z = true) {z : Int32} {cap : Nat} (hz : 0 ≤ z.toInt) (hcap : z.toInt ≤ cap) (hb8 : cap * 8 ≤ 536870912) (hc : k + 1 ≤ R.cells) (hl : n + cap ≤ R.slots) (hp : pc + 2 = pc') (hd : decode bytes pc = .ok (.newarray aty, 2))
    (hr : ∀ T' h' a, a = h.size → n0 ≤ a → Ext h h' → La Z h' a (newarray.typeOf aty) (List.replicate z.toNatClampNeg (defaultValue (newarray.typeOf aty))) → St Z p l e R s m args below meth c n0 T' h' (k + 1) (n + cap) → Go p e below Q (T'.setTop (mkF m pc' Ls (.ref a :: st)))) : Go p e below Q (T.setTop (mkF m pc Ls (.int z :: st))) := by
  subst hp
  have hsz := X.sz
  obtain ⟨locs, Y, N, zs, eT⟩ := X
  have hzc := clamp_eq hz
  obtain ⟨T', h', cA, X', e', E, A, stp⟩ := newP Y C.1 C.hZ w eT (g := mkF m pc Ls (.int z :: st)) rfl (C.cd hd) rfl (neg_not hz) (cap := cap) (by omega) hb8 hc hl
  refine Go.back stp (hr T' h' _ rfl hsz E ⟨_, A, by simp [newA], ?_, fun v hv => ?_⟩ ⟨_, X', N, zs, e'⟩)
  · have := z.toInt_lt; simp; omega
  · obtain ⟨-, rfl⟩ := List.mem_replicate.mp hv; cases aty <;> rfl
theorem go_newarrE (C : Cx p s m meth c Z a0 own bytes maxL ret nm) (X : St Z p l e R s m args below meth c n0 T h k n) {aty : ArrayType} (w : (Jvm.Cond.arrayClass (newarray.typeOf aty)).before a0 Z = true) {z : Int32} {cap : Nat} {ad : String} (had : "[" ++ (newarray.typeOf aty).toString = ad) (hz : 0 ≤ z.toInt) (hcap : z.toInt ≤ cap) (hb8 : cap * 8 ≤ 536870912) (hc : k + 1 ≤ R.cells) (hl : n + cap ≤ R.slots) (hp : pc + 2 = pc') (hd : decode bytes pc = .ok (.newarray aty, 2))
    (hr : ∀ T' h' a, a = h.size → n0 ≤ a → Ext h h' → La Z h' a (newarray.typeOf aty) (List.replicate z.toNatClampNeg (defaultValue (newarray.typeOf aty))) → Exa Z h' a ad → St Z p l e R s m args below meth c n0 T' h' (k + 1) (n + cap) → Go p e below Q (T'.setTop (mkF m pc' Ls (.ref a :: st)))) : Go p e below Q (T.setTop (mkF m pc Ls (.int z :: st))) := by
  subst hp
  have hsz := X.sz
  obtain ⟨locs, Y, N, zs, eT⟩ := X
  have hzc := clamp_eq hz
  obtain ⟨T', h', cA, X', e', E, A, EX, stp⟩ := newPE Y C.1 C.hZ w eT (g := mkF m pc Ls (.int z :: st)) rfl (C.cd hd) rfl (neg_not hz) (cap := cap) (by omega) hb8 hc hl had
  refine Go.back stp (hr T' h' _ rfl hsz E ⟨_, A, by simp [newA], ?_, fun v hv => ?_⟩ EX ⟨_, X', N, zs, e'⟩)
  · have := z.toInt_lt; simp; omega
  · obtain ⟨-, rfl⟩ := List.mem_replicate.mp hv; cases aty <;> rfl
theorem go_ifnull_n (C : Cx p s m meth c Z a0 own bytes maxL ret nm) (X : St Z p l e R s m args below meth c n0 T h k n) {o : Int} (hd : decode bytes pc = .ok (.ifnull o, 3)) (ho : 0 ≤ (pc : Int) + o) (hp2 : ((pc : Int) + o).toNat = pc2) (hr : Go p e below Q (T.setTop (mkF m pc2 Ls st))) : Go p e below Q (T.setTop (mkF m pc Ls (.null :: st))) := by
  obtain ⟨locs, Y, -, -, -⟩ := X
  exact Go.back (fun t kt => Jvm.Free.XS.ifnullYes Y.here C.1 rfl (pc0 := pc) rfl (C.cd hd) rfl ho hp2 kt) hr
theorem go_ifnull_r (C : Cx p s m meth c Z a0 own bytes maxL ret nm) (X : St Z p l e R s m args below meth c n0 T h k n) {o : Int} {b : Addr} (hp : pc + 3 = pc') (hd : decode bytes pc = .ok (.ifnull o, 3)) (hr : Go p e below Q (T.setTop (mkF m pc' Ls st))) : Go p e below Q (T.setTop (mkF m pc Ls (.ref b :: st))) := by
  subst hp
  obtain ⟨locs, Y, -, -, -⟩ := X
  exact Go.back (fun t kt => Jvm.Free.XS.ifnullNo Y.here C.1 rfl (C.cd hd) rfl kt) hr
theorem go_ifnonnull_r (C : Cx p s m meth c Z a0 own bytes maxL ret nm) (X : St Z p l e R s m args below meth c n0 T h k n) {o : Int} {b : Addr} (hd : decode bytes pc = .ok (.ifnonnull o, 3)) (ho : 0 ≤ (pc : Int) + o) (hp2 : ((pc : Int) + o).toNat = pc2) (hr : Go p e below Q (T.setTop (mkF m pc2 Ls st))) : Go p e below Q (T.setTop (mkF m pc Ls (.ref b :: st))) := by
  obtain ⟨locs, Y, -, -, -⟩ := X
  exact Go.back (fun t kt => Jvm.Free.XS.ifnonnullYes Y.here C.1 rfl (pc0 := pc) rfl (C.cd hd) rfl ho hp2 kt) hr
theorem go_ifnonnull_n (C : Cx p s m meth c Z a0 own bytes maxL ret nm) (X : St Z p l e R s m args below meth c n0 T h k n) {o : Int} (hp : pc + 3 = pc') (hd : decode bytes pc = .ok (.ifnonnull o, 3)) (hr : Go p e below Q (T.setTop (mkF m pc' Ls st))) : Go p e below Q (T.setTop (mkF m pc Ls (.null :: st))) := by
  subst hp
  obtain ⟨locs, Y, -, -, -⟩ := X
  exact Go.back (fun t kt => Jvm.Free.XS.ifnonnullNo Y.here C.1 rfl (C.cd hd) rfl kt) hr
theorem go_acmp_eq (C : Cx p s m meth c Z a0 own bytes maxL ret nm) (X : St Z p l e R s m args below meth c n0 T h k n) {o : Int} {x y : Value} (hx : x.isRef = true) (hy : y.isRef = true) (hd : decode bytes pc = .ok (.if_acmp .eq o, 3)) (hp : pc + 3 = pc') (ho : 0 ≤ (pc : Int) + o) (hp2 : ((pc : Int) + o).toNat = pc2) (h1 : x = y → Go p e below Q (T.setTop (mkF m pc2 Ls st))) (h2 : ¬ x = y → Go p e below Q (T.setTop (mkF m pc' Ls st))) : Go p e below Q (T.setTop (mkF m pc Ls (y :: x :: st))) := by
  obtain ⟨locs, Y, -, -, -⟩ := X
  by_cases q : x = y
  · exact Go.back (fun t kt => acmp (g := mkF m pc Ls (y :: x :: st)) Y C.1 rfl hx hy (pc0 := pc) (pc' := pc2) (same := true) rfl (C.cd hd) rfl (decide_eq_true q) ho (by simp [acV, hp2]) kt) (h1 q)
  · exact Go.back (fun t kt => acmp (g := mkF m pc Ls (y :: x :: st)) Y C.1 rfl hx hy (pc0 := pc) (pc' := pc') (same := false) rfl (C.cd hd) rfl (decide_eq_false q) ho (by simp [acV, hp]) kt) (h2 q)
theorem go_acmp_ne (C : Cx p s m meth c Z a0 own bytes maxL ret nm) (X : St Z p l e R s m args below meth c n0 T h k n) {o : Int} {x y : Value} (hx : x.isRef = true) (hy : y.isRef = true) (hd : decode bytes pc = .ok (.if_acmp .ne o, 3)) (hp : pc + 3 = pc') (ho : 0 ≤ (pc : Int) + o) (hp2 : ((pc : Int) + o).toNat = pc2) (h1 : ¬ x = y → Go p e below Q (T.setTop (mkF m pc2 Ls st))) (h2 : x = y → Go p e below Q (T.setTop (mkF m pc' Ls st))) : Go p e below Q (T.setTop (mkF m pc Ls (y :: x :: st))) := by
  obtain ⟨locs, Y, -, -, -⟩ := X
  by_cases q : x = y
  · exact Go.back (fun t kt => acmp (g := mkF m pc Ls (y :: x :: st)) Y C.1 rfl hx hy (pc0 := pc) (pc' := pc') (same := true) rfl (C.cd hd) rfl (decide_eq_true q) ho (by simp [acV, hp]) kt) (h2 q)
  · exact Go.back (fun t kt => acmp (g := mkF m pc Ls (y :: x :: st)) Y C.1 rfl hx hy (pc0 := pc) (pc' := pc2) (same := false) rfl (C.cd hd) rfl (decide_eq_false q) ho (by simp [acV, hp2]) kt) (h1 q)
theorem go_cast (C : Cx p s m meth c Z a0 own bytes maxL ret nm) (X : St Z p l e R s m args below meth c n0 T h k n) {cn : String} {a : Addr} (w : (Jvm.Cond.classLink own idx cn).before a0 Z = true) (F : Ins Z h a cn true) (hp : pc + 3 = pc') (hd : decode bytes pc = .ok (.checkcast idx, 3)) (hr : ∀ T', St Z p l e R s m args below meth c n0 T' h k n → Go p e below Q (T'.setTop (mkF m pc' Ls (.ref a :: st)))) : Go p e below Q (T.setTop (mkF m pc Ls (.ref a :: st))) := by
  subst hp
  obtain ⟨locs, Y, N, zs, eT⟩ := X
  obtain ⟨T', X', e', stp⟩ := castY Y C.1 C.hZ C.ow w eT F (g := mkF m pc Ls (.ref a :: st)) rfl rfl (C.cd hd)
  exact Go.back stp (hr T' ⟨_, X', N, zs, e'⟩)
theorem go_clone (C : Cx p s m meth c Z a0 own bytes maxL ret nm) (X : St Z p l e R s m args below meth c n0 T h k n) {ad : String} {a : Addr} {ty : FieldType} {vs : List Value} {cap : Nat} (w1 : (Jvm.Cond.methodLink own idx ⟨ad, "clone", "()Ljava/lang/Object;"⟩).before a0 Z = true) (w2 : (Jvm.Cond.sameMethod ad "java/lang/Object" "clone" "()Ljava/lang/Object;").before a0 Z = true) (w3 : (Jvm.Cond.native ⟨"java/lang/Object", "clone", "()Ljava/lang/Object;"⟩).before a0 Z = true)
    (w4 : (Jvm.Cond.instanceMethod ⟨"java/lang/Object", "clone", "()Ljava/lang/Object;"⟩).before a0 Z = true) (w5 : (Jvm.Cond.selects ad ⟨ad, "clone", "()Ljava/lang/Object;"⟩ ⟨"java/lang/Object", "clone", "()Ljava/lang/Object;"⟩).before a0 Z = true) (w6 : (Jvm.Cond.castable ad "java/lang/Cloneable").before a0 Z = true)
    (A : La Z h a ty vs) (E : Exa Z h a ad) (hf : 1 ≤ R.frames) (hl : (st.map fun v => v.category).sum + 14 ≤ R.locals) (hcap : vs.length ≤ cap) (hc : k + 1 ≤ R.cells) (hsl : n + cap ≤ R.slots) (hsz : Ls.size = maxL) (hp : pc + 3 = pc') (hd : decode bytes pc = .ok (.invokevirtual idx, 3))
    (hr : ∀ T' h' b, b = h.size → n0 ≤ b → Ext h h' → La Z h' b ty vs → Exa Z h' b ad → St Z p l e R s m args below meth c n0 T' h' (k + 1) (n + cap) → Go p e below Q (T'.setTop (mkF m pc' Ls (.ref b :: st)))) : Go p e below Q (T.setTop (mkF m pc Ls (.ref a :: st))) := by
  subst hp
  have hs0 := X.sz
  obtain ⟨locs, Y, N, zs, eT⟩ := X
  obtain ⟨cl, B, e1, e2, e3⟩ := A
  have FC : FitC Z cl := fitC_of B fun i hi v hv => e3 v (by rw [e1] at hv; simp at hv; exact List.mem_of_getElem? hv)
  obtain ⟨T', h', X', e', ex, A', E', stp⟩ := cloneA Y C.1 C.hZ C.ow w1 w2 w3 w4 w5 w6 eT B E FC (g := mkF m pc Ls (.ref a :: st)) rfl (hsz.trans C.ml.symm) rfl (C.cd hd) hf (W := (st.map fun v => v.category).sum) (cap := cap) (by show 2 * 0 + _ ≤ _; omega) hl (by rw [e1]; simpa using hcap) hc hsl
  exact Go.back stp (hr T' h' _ rfl hs0 ex ⟨_, A', e1, e2, e3⟩ E' ⟨_, X', N, zs, e'⟩)

theorem Laid.of {cn O fn d : String} (w : (Jvm.Cond.lays cn O fn d).before a0 Z = true) : Laid Z a0 cn O fn d := Or.inl w
theorem Laid.ofF {cn O fn d : String} (w : (Jvm.Cond.laysFinal cn O fn d).before a0 Z = true) : Laid Z a0 cn O fn d := Or.inr w
end Steps1
/-! numbers -/
theorem i_add {a b : Int32} {x y : Int} (ha : a.toInt = x) (hb : b.toInt = y) (h1 : -2147483648 ≤ x + y) (h2 : x + y < 2147483648) : (a + b).toInt = x + y := by have := c_iadd a b; have := rng32 (a + b); omega
theorem i_sub {a b : Int32} {x y : Int} (ha : a.toInt = x) (hb : b.toInt = y) (h1 : -2147483648 ≤ x - y) (h2 : x - y < 2147483648) : (a - b).toInt = x - y := by have := c_isub a b; have := rng32 (a - b); omega
theorem i_mul {a b : Int32} {x y : Int} (ha : a.toInt = x) (hb : b.toInt = y) (h1 : -2147483648 ≤ x * y) (h2 : x * y < 2147483648) : (a * b).toInt = x * y := by have := c_imul a b; have := rng32 (a * b); rw [ha, hb] at *; generalize x * y = z at *; omega
theorem l_add {a b : Int64} {x y : Int} (ha : a.toInt = x) (hb : b.toInt = y) (h1 : -9223372036854775808 ≤ x + y) (h2 : x + y < 9223372036854775808) : (a + b).toInt = x + y := by have := c_ladd a b; have := rng64 (a + b); omega
theorem l_sub {a b : Int64} {x y : Int} (ha : a.toInt = x) (hb : b.toInt = y) (h1 : -9223372036854775808 ≤ x - y) (h2 : x - y < 9223372036854775808) : (a - b).toInt = x - y := by have := c_lsub a b; have := rng64 (a - b); omega
theorem l_mul {a b : Int64} {x y : Int} (ha : a.toInt = x) (hb : b.toInt = y) (h1 : -9223372036854775808 ≤ x * y) (h2 : x * y < 9223372036854775808) : (a * b).toInt = x * y := by have := c_lmul a b; have := rng64 (a * b); rw [ha, hb] at *; generalize x * y = z at *; omega
theorem i_div {a b : Int32} {x y : Int} (ha : a.toInt = x) (hb : b.toInt = y) (h1 : 0 ≤ x) (h2 : 0 < y) : (a / b).toInt = x / y := by
  have := (c_idiv a b y hb (fun q => by subst q; have : (-1 : Int32).toInt = -1 := rfl; omega)).1 (by omega); rw [this, ha]
theorem l_div {a b : Int64} {x y : Int} (ha : a.toInt = x) (hb : b.toInt = y) (h1 : 0 ≤ x) (h2 : 0 < y) : (a / b).toInt = x / y := by
  have := (c_ldiv a b y hb (fun q => by subst q; have : (-1 : Int64).toInt = -1 := rfl; omega)).1 (by omega); rw [this, ha]
theorem i_rem {a b : Int32} {x y : Int} (ha : a.toInt = x) (hb : b.toInt = y) (h1 : 0 ≤ x) : (a % b).toInt = x % y := by
  have := (c_irem a b y hb).1 (by omega); rw [this, ha]
theorem l_rem {a b : Int64} {x y : Int} (ha : a.toInt = x) (hb : b.toInt = y) (h1 : 0 ≤ x) : (a % b).toInt = x % y := by
  rw [← lrem_mod]; have := (c_lrem a b y hb).1 (by omega); rw [this, ha]
/-- arrays of ints and longs as lists -/
def ia (xs : List Int32) : List Value := xs.map Value.int
def ja (xs : List Int64) : List Value := xs.map Value.long
def at32 (xs : List Int32) (i : Int32) : Int32 := xs.getD i.toNatClampNeg 0
def at64 (xs : List Int64) (i : Int32) : Int64 := xs.getD i.toNatClampNeg 0
def put32 (xs : List Int32) (i y : Int32) : List Int32 := xs.set i.toNatClampNeg y
def put64 (xs : List Int64) (i : Int32) (y : Int64) : List Int64 := xs.set i.toNatClampNeg y
theorem clamp_lt {i : Int32} {n : Nat} (h0 : 0 ≤ i.toInt) (h1 : i.toInt < n) : i.toNatClampNeg < n := by
  have := clamp_eq h0
  omega
theorem ia_at {xs : List Int32} {i : Int32} (h0 : 0 ≤ i.toInt) (h1 : i.toInt < xs.length) : (ia xs)[i.toNatClampNeg]? = some (.int (at32 xs i)) := by
  have := clamp_lt h0 h1; simp [ia, at32, this]
theorem ja_at {xs : List Int64} {i : Int32} (h0 : 0 ≤ i.toInt) (h1 : i.toInt < xs.length) : (ja xs)[i.toNatClampNeg]? = some (.long (at64 xs i)) := by
  have := clamp_lt h0 h1; simp [ja, at64, this]
theorem ia_put (xs : List Int32) (i y : Int32) : (ia xs).set i.toNatClampNeg (.int y) = ia (put32 xs i y) := by simp [ia, put32, List.map_set]
theorem ja_put (xs : List Int64) (i : Int32) (y : Int64) : (ja xs).set i.toNatClampNeg (.long y) = ja (put64 xs i y) := by simp [ja, put64, List.map_set]
theorem ia_len (xs : List Int32) : (ia xs).length = xs.length := by simp [ia]
theorem ja_len (xs : List Int64) : (ja xs).length = xs.length := by simp [ja]
theorem put32_len (xs : List Int32) (i y : Int32) : (put32 xs i y).length = xs.length := by simp [put32]
theorem put64_len (xs : List Int64) (i : Int32) (y : Int64) : (put64 xs i y).length = xs.length := by simp [put64]
theorem La.of {Z : State} {h : Heap} {a : Addr} {ty : FieldType} {c : Cell} (A : Arr Z h a c ty) (vs : List Value) (hl : c.slots.size = vs.length) (h31 : vs.length < 2 ^ 31) (H : ∀ i, i < vs.length → c.slots[i]? = vs[i]?) (G : ∀ v ∈ vs, fits ty v = true) : La Z h a ty vs := by
  refine ⟨c, A, Array.ext_getElem? fun i => ?_, h31, G⟩
  by_cases q : i < vs.length
  · rw [H i q]; simp
  · rw [Array.getElem?_eq_none (by omega)]; simp; omega
theorem eqv_r {Z : State} {args : Array Value} {X F : Term} {idx : List Nat} {y : Addr} (hF : F.eval args Z none idx Z = some (.ref y)) (h : (Jvm.Cond.eq X F).value args Z none Z idx = some true) : X.eval args Z none idx Z = some (.ref y) := by
  simp only [Jvm.Cond.value, hF] at h
  cases hx : X.eval args Z none idx Z with
  | none => simp [hx] at h
  | some v => cases v <;> simp [hx] at h ⊢; exact h
theorem i_eq {a b : Int32} (h : a.toInt = b.toInt) : a = b := Int32.toInt_inj.mp h
theorem l_eq {a b : Int64} (h : a.toInt = b.toInt) : a = b := Int64.toInt_inj.mp h
theorem i_ne {a b : Int32} (h : ¬ a = b) : ¬ a.toInt = b.toInt := fun q => h (i_eq q)
theorem l_ne {a b : Int64} (h : ¬ a = b) : ¬ a.toInt = b.toInt := fun q => h (l_eq q)

theorem d1_0 : decode method_2_code 0 = .ok (.iload_n 1, 1) := by decide +kernel
theorem d1_1 : decode method_2_code 1 = .ok (.ifCond .lt 8, 3) := by decide +kernel
theorem d1_9 : decode method_2_code 9 = .ok (.aload_n 0, 1) := by decide +kernel
theorem d1_10 : decode method_2_code 10 = .ok (.iload_n 2, 1) := by decide +kernel
theorem d1_11 : decode method_2_code 11 = .ok (.iaload, 1) := by decide +kernel
theorem d1_12 : decode method_2_code 12 = .ok (.ireturn, 1) := by decide +kernel
theorem pn_com_example_covertide_covertide_engine_SubsetsNext84PinLaw : plainName "com/example/covertide/covertide/engine/SubsetsNext84PinLaw" = true := by first | (simp [plainName, overriddenIn]; done) | decide +kernel
theorem ef_own_at_0_0 (m : MethodId) (b : Addr) : entryFrame m #[(.ref b), (.int (-1 : Int32)), (.int (0 : Int32))] 3 = mkF m 0 #[rv b, iv (-1 : Int32), iv (0 : Int32)] [] := by first | (simp [entryFrame, mkF, argsToLocals, Value.category]; done) | rfl
set_option maxRecDepth 65536 in
set_option maxHeartbeats 40000000 in
theorem own_at_0_0 (l : Launch) (Z : State) (a0 : Array Value) (hw : ∀ d ∈ tables_1, d.before a0 Z = true) (b : Addr) (x0 x1 x2 : Int32) (h : Heap) (n0 : Nat) (hn0 : Old Z n0 h) (A1 : La Z h b .int [.int x0, .int x1, .int x2]) :
    Con l Z (⟨"com/example/covertide/covertide/engine/SubsetsNext84PinLaw", "at", "([III)I"⟩ : MethodName) method_2_code 3 (some .int) ({ frames := 0, cells := 0, slots := 0, locals := 0 } : Room) #[(.ref b), (.int (-1 : Int32)), (.int (0 : Int32))] h n0 (fun v h' => v = some (.int x0) ∧ h = h') := by
  refine con_of hw (plainFor_of_name pn_com_example_covertide_covertide_engine_SubsetsNext84PinLaw) hn0 ?_
  intro p e s m below meth c T0 C X0
  refine Go.cast (congrArg T0.setTop (ef_own_at_0_0 m b)) ?_
  refine go_iloadN C X0 1 rfl d1_0 rfl ?_
  refine go_if_lt C X0 d1_1 (pc' := 4) (pc2 := 9) rfl (by decide) (by decide) (fun (c1 : (-1) < 0) => ?_) (fun (c1 : 0 ≤ (-1)) => False.elim (by first | omega | exact absurd c1 (by decide)))
  refine go_aloadN C X0 10 rfl d1_9 rfl rfl ?_
  refine go_iloadN C X0 11 rfl d1_10 rfl ?_
  refine go_iaload C X0 A1 (by decide) (v := (.int x0)) rfl (pc' := 12) rfl d1_11 ?_
  exact go_retI C X0 d1_12 ⟨rfl, rfl⟩ (by decide) (by decide)
theorem ef_own_at_0_1 (m : MethodId) (b : Addr) : entryFrame m #[(.ref b), (.int (-1 : Int32)), (.int (1 : Int32))] 3 = mkF m 0 #[rv b, iv (-1 : Int32), iv (1 : Int32)] [] := by first | (simp [entryFrame, mkF, argsToLocals, Value.category]; done) | rfl
set_option maxRecDepth 65536 in
set_option maxHeartbeats 40000000 in
theorem own_at_0_1 (l : Launch) (Z : State) (a0 : Array Value) (hw : ∀ d ∈ tables_1, d.before a0 Z = true) (b : Addr) (x0 x1 x2 : Int32) (h : Heap) (n0 : Nat) (hn0 : Old Z n0 h) (A1 : La Z h b .int [.int x0, .int x1, .int x2]) :
    Con l Z (⟨"com/example/covertide/covertide/engine/SubsetsNext84PinLaw", "at", "([III)I"⟩ : MethodName) method_2_code 3 (some .int) ({ frames := 0, cells := 0, slots := 0, locals := 0 } : Room) #[(.ref b), (.int (-1 : Int32)), (.int (1 : Int32))] h n0 (fun v h' => v = some (.int x1) ∧ h = h') := by
  refine con_of hw (plainFor_of_name pn_com_example_covertide_covertide_engine_SubsetsNext84PinLaw) hn0 ?_
  intro p e s m below meth c T0 C X0
  refine Go.cast (congrArg T0.setTop (ef_own_at_0_1 m b)) ?_
  refine go_iloadN C X0 1 rfl d1_0 rfl ?_
  refine go_if_lt C X0 d1_1 (pc' := 4) (pc2 := 9) rfl (by decide) (by decide) (fun (c1 : (-1) < 0) => ?_) (fun (c1 : 0 ≤ (-1)) => False.elim (by first | omega | exact absurd c1 (by decide)))
  refine go_aloadN C X0 10 rfl d1_9 rfl rfl ?_
  refine go_iloadN C X0 11 rfl d1_10 rfl ?_
  refine go_iaload C X0 A1 (by decide) (v := (.int x1)) rfl (pc' := 12) rfl d1_11 ?_
  exact go_retI C X0 d1_12 ⟨rfl, rfl⟩ (by decide) (by decide)
theorem ef_own_at_0_2 (m : MethodId) (b : Addr) : entryFrame m #[(.ref b), (.int (-1 : Int32)), (.int (2 : Int32))] 3 = mkF m 0 #[rv b, iv (-1 : Int32), iv (2 : Int32)] [] := by first | (simp [entryFrame, mkF, argsToLocals, Value.category]; done) | rfl
set_option maxRecDepth 65536 in
set_option maxHeartbeats 40000000 in
theorem own_at_0_2 (l : Launch) (Z : State) (a0 : Array Value) (hw : ∀ d ∈ tables_1, d.before a0 Z = true) (b : Addr) (x0 x1 x2 : Int32) (h : Heap) (n0 : Nat) (hn0 : Old Z n0 h) (A1 : La Z h b .int [.int x0, .int x1, .int x2]) :
    Con l Z (⟨"com/example/covertide/covertide/engine/SubsetsNext84PinLaw", "at", "([III)I"⟩ : MethodName) method_2_code 3 (some .int) ({ frames := 0, cells := 0, slots := 0, locals := 0 } : Room) #[(.ref b), (.int (-1 : Int32)), (.int (2 : Int32))] h n0 (fun v h' => v = some (.int x2) ∧ h = h') := by
  refine con_of hw (plainFor_of_name pn_com_example_covertide_covertide_engine_SubsetsNext84PinLaw) hn0 ?_
  intro p e s m below meth c T0 C X0
  refine Go.cast (congrArg T0.setTop (ef_own_at_0_2 m b)) ?_
  refine go_iloadN C X0 1 rfl d1_0 rfl ?_
  refine go_if_lt C X0 d1_1 (pc' := 4) (pc2 := 9) rfl (by decide) (by decide) (fun (c1 : (-1) < 0) => ?_) (fun (c1 : 0 ≤ (-1)) => False.elim (by first | omega | exact absurd c1 (by decide)))
  refine go_aloadN C X0 10 rfl d1_9 rfl rfl ?_
  refine go_iloadN C X0 11 rfl d1_10 rfl ?_
  refine go_iaload C X0 A1 (by decide) (v := (.int x2)) rfl (pc' := 12) rfl d1_11 ?_
  exact go_retI C X0 d1_12 ⟨rfl, rfl⟩ (by decide) (by decide)
theorem d1_4 : decode method_2_code 4 = .ok (.iload_n 2, 1) := by decide +kernel
theorem d1_5 : decode method_2_code 5 = .ok (.iload_n 1, 1) := by decide +kernel
theorem d1_6 : decode method_2_code 6 = .ok (.if_icmp .ge 7, 3) := by decide +kernel
theorem d1_13 : decode method_2_code 13 = .ok (.aload_n 0, 1) := by decide +kernel
theorem d1_14 : decode method_2_code 14 = .ok (.iload_n 1, 1) := by decide +kernel
theorem d1_15 : decode method_2_code 15 = .ok (.iaload, 1) := by decide +kernel
theorem d1_16 : decode method_2_code 16 = .ok (.iconst 1, 1) := by decide +kernel
theorem d1_17 : decode method_2_code 17 = .ok (.iadd, 1) := by decide +kernel
theorem d1_18 : decode method_2_code 18 = .ok (.iload_n 2, 1) := by decide +kernel
theorem d1_19 : decode method_2_code 19 = .ok (.iload_n 1, 1) := by decide +kernel
theorem d1_20 : decode method_2_code 20 = .ok (.isub, 1) := by decide +kernel
theorem d1_21 : decode method_2_code 21 = .ok (.iadd, 1) := by decide +kernel
theorem d1_22 : decode method_2_code 22 = .ok (.ireturn, 1) := by decide +kernel
theorem ef_own_at_1_0 (m : MethodId) (b : Addr) : entryFrame m #[(.ref b), (.int (0 : Int32)), (.int (0 : Int32))] 3 = mkF m 0 #[rv b, iv (0 : Int32), iv (0 : Int32)] [] := by first | (simp [entryFrame, mkF, argsToLocals, Value.category]; done) | rfl
set_option maxRecDepth 65536 in
set_option maxHeartbeats 40000000 in
theorem own_at_1_0 (l : Launch) (Z : State) (a0 : Array Value) (hw : ∀ d ∈ tables_1, d.before a0 Z = true) (b : Addr) (x0 x1 x2 : Int32) (h : Heap) (n0 : Nat) (hn0 : Old Z n0 h) (A1 : La Z h b .int [.int x0, .int x1, .int x2]) :
    Con l Z (⟨"com/example/covertide/covertide/engine/SubsetsNext84PinLaw", "at", "([III)I"⟩ : MethodName) method_2_code 3 (some .int) ({ frames := 0, cells := 0, slots := 0, locals := 0 } : Room) #[(.ref b), (.int (0 : Int32)), (.int (0 : Int32))] h n0 (fun v h' => v = some (.int (x0 + 1 + 0)) ∧ h = h') := by
  refine con_of hw (plainFor_of_name pn_com_example_covertide_covertide_engine_SubsetsNext84PinLaw) hn0 ?_
  intro p e s m below meth c T0 C X0
  refine Go.cast (congrArg T0.setTop (ef_own_at_1_0 m b)) ?_
  refine go_iloadN C X0 1 rfl d1_0 rfl ?_
  refine go_if_lt C X0 d1_1 (pc' := 4) (pc2 := 9) rfl (by decide) (by decide) (fun (c1 : 0 < 0) => False.elim (by first | omega | exact absurd c1 (by decide))) (fun (c1 : 0 ≤ 0) => ?_)
  refine go_iloadN C X0 5 rfl d1_4 rfl ?_
  refine go_iloadN C X0 6 rfl d1_5 rfl ?_
  refine go_icmp_ge C X0 d1_6 (pc' := 9) (pc2 := 13) rfl (by decide) (by decide) (fun (c6 : 0 ≤ 0) => ?_) (fun (c6 : 0 < 0) => False.elim (by first | omega | exact absurd c6 (by decide)))
  refine go_aloadN C X0 14 rfl d1_13 rfl rfl ?_
  refine go_iloadN C X0 15 rfl d1_14 rfl ?_
  refine go_iaload C X0 A1 (by decide) (v := (.int x0)) rfl (pc' := 16) rfl d1_15 ?_
  refine go_iconst C X0 17 rfl d1_16 (z := 1) rfl ?_
  refine go_iadd C X0 18 rfl d1_17 ?_
  refine go_iloadN C X0 19 rfl d1_18 rfl ?_
  refine go_iloadN C X0 20 rfl d1_19 rfl ?_
  refine go_isubL C X0 21 rfl d1_20 (z := (0)) rfl ?_
  refine go_iadd C X0 22 rfl d1_21 ?_
  exact go_retI C X0 d1_22 ⟨rfl, rfl⟩ (by decide) (by decide)
theorem ef_own_at_1_1 (m : MethodId) (b : Addr) : entryFrame m #[(.ref b), (.int (0 : Int32)), (.int (1 : Int32))] 3 = mkF m 0 #[rv b, iv (0 : Int32), iv (1 : Int32)] [] := by first | (simp [entryFrame, mkF, argsToLocals, Value.category]; done) | rfl
set_option maxRecDepth 65536 in
set_option maxHeartbeats 40000000 in
theorem own_at_1_1 (l : Launch) (Z : State) (a0 : Array Value) (hw : ∀ d ∈ tables_1, d.before a0 Z = true) (b : Addr) (x0 x1 x2 : Int32) (h : Heap) (n0 : Nat) (hn0 : Old Z n0 h) (A1 : La Z h b .int [.int x0, .int x1, .int x2]) :
    Con l Z (⟨"com/example/covertide/covertide/engine/SubsetsNext84PinLaw", "at", "([III)I"⟩ : MethodName) method_2_code 3 (some .int) ({ frames := 0, cells := 0, slots := 0, locals := 0 } : Room) #[(.ref b), (.int (0 : Int32)), (.int (1 : Int32))] h n0 (fun v h' => v = some (.int (x0 + 1 + 1)) ∧ h = h') := by
  refine con_of hw (plainFor_of_name pn_com_example_covertide_covertide_engine_SubsetsNext84PinLaw) hn0 ?_
  intro p e s m below meth c T0 C X0
  refine Go.cast (congrArg T0.setTop (ef_own_at_1_1 m b)) ?_
  refine go_iloadN C X0 1 rfl d1_0 rfl ?_
  refine go_if_lt C X0 d1_1 (pc' := 4) (pc2 := 9) rfl (by decide) (by decide) (fun (c1 : 0 < 0) => False.elim (by first | omega | exact absurd c1 (by decide))) (fun (c1 : 0 ≤ 0) => ?_)
  refine go_iloadN C X0 5 rfl d1_4 rfl ?_
  refine go_iloadN C X0 6 rfl d1_5 rfl ?_
  refine go_icmp_ge C X0 d1_6 (pc' := 9) (pc2 := 13) rfl (by decide) (by decide) (fun (c6 : 0 ≤ 1) => ?_) (fun (c6 : 1 < 0) => False.elim (by first | omega | exact absurd c6 (by decide)))
  refine go_aloadN C X0 14 rfl d1_13 rfl rfl ?_
  refine go_iloadN C X0 15 rfl d1_14 rfl ?_
  refine go_iaload C X0 A1 (by decide) (v := (.int x0)) rfl (pc' := 16) rfl d1_15 ?_
  refine go_iconst C X0 17 rfl d1_16 (z := 1) rfl ?_
  refine go_iadd C X0 18 rfl d1_17 ?_
  refine go_iloadN C X0 19 rfl d1_18 rfl ?_
  refine go_iloadN C X0 20 rfl d1_19 rfl ?_
  refine go_isubL C X0 21 rfl d1_20 (z := (1)) rfl ?_
  refine go_iadd C X0 22 rfl d1_21 ?_
  exact go_retI C X0 d1_22 ⟨rfl, rfl⟩ (by decide) (by decide)
theorem ef_own_at_1_2 (m : MethodId) (b : Addr) : entryFrame m #[(.ref b), (.int (0 : Int32)), (.int (2 : Int32))] 3 = mkF m 0 #[rv b, iv (0 : Int32), iv (2 : Int32)] [] := by first | (simp [entryFrame, mkF, argsToLocals, Value.category]; done) | rfl
set_option maxRecDepth 65536 in
set_option maxHeartbeats 40000000 in
theorem own_at_1_2 (l : Launch) (Z : State) (a0 : Array Value) (hw : ∀ d ∈ tables_1, d.before a0 Z = true) (b : Addr) (x0 x1 x2 : Int32) (h : Heap) (n0 : Nat) (hn0 : Old Z n0 h) (A1 : La Z h b .int [.int x0, .int x1, .int x2]) :
    Con l Z (⟨"com/example/covertide/covertide/engine/SubsetsNext84PinLaw", "at", "([III)I"⟩ : MethodName) method_2_code 3 (some .int) ({ frames := 0, cells := 0, slots := 0, locals := 0 } : Room) #[(.ref b), (.int (0 : Int32)), (.int (2 : Int32))] h n0 (fun v h' => v = some (.int (x0 + 1 + 2)) ∧ h = h') := by
  refine con_of hw (plainFor_of_name pn_com_example_covertide_covertide_engine_SubsetsNext84PinLaw) hn0 ?_
  intro p e s m below meth c T0 C X0
  refine Go.cast (congrArg T0.setTop (ef_own_at_1_2 m b)) ?_
  refine go_iloadN C X0 1 rfl d1_0 rfl ?_
  refine go_if_lt C X0 d1_1 (pc' := 4) (pc2 := 9) rfl (by decide) (by decide) (fun (c1 : 0 < 0) => False.elim (by first | omega | exact absurd c1 (by decide))) (fun (c1 : 0 ≤ 0) => ?_)
  refine go_iloadN C X0 5 rfl d1_4 rfl ?_
  refine go_iloadN C X0 6 rfl d1_5 rfl ?_
  refine go_icmp_ge C X0 d1_6 (pc' := 9) (pc2 := 13) rfl (by decide) (by decide) (fun (c6 : 0 ≤ 2) => ?_) (fun (c6 : 2 < 0) => False.elim (by first | omega | exact absurd c6 (by decide)))
  refine go_aloadN C X0 14 rfl d1_13 rfl rfl ?_
  refine go_iloadN C X0 15 rfl d1_14 rfl ?_
  refine go_iaload C X0 A1 (by decide) (v := (.int x0)) rfl (pc' := 16) rfl d1_15 ?_
  refine go_iconst C X0 17 rfl d1_16 (z := 1) rfl ?_
  refine go_iadd C X0 18 rfl d1_17 ?_
  refine go_iloadN C X0 19 rfl d1_18 rfl ?_
  refine go_iloadN C X0 20 rfl d1_19 rfl ?_
  refine go_isubL C X0 21 rfl d1_20 (z := (2)) rfl ?_
  refine go_iadd C X0 22 rfl d1_21 ?_
  exact go_retI C X0 d1_22 ⟨rfl, rfl⟩ (by decide) (by decide)
theorem ef_own_at_2_0 (m : MethodId) (b : Addr) : entryFrame m #[(.ref b), (.int (1 : Int32)), (.int (0 : Int32))] 3 = mkF m 0 #[rv b, iv (1 : Int32), iv (0 : Int32)] [] := by first | (simp [entryFrame, mkF, argsToLocals, Value.category]; done) | rfl
set_option maxRecDepth 65536 in
set_option maxHeartbeats 40000000 in
theorem own_at_2_0 (l : Launch) (Z : State) (a0 : Array Value) (hw : ∀ d ∈ tables_1, d.before a0 Z = true) (b : Addr) (x0 x1 x2 : Int32) (h : Heap) (n0 : Nat) (hn0 : Old Z n0 h) (A1 : La Z h b .int [.int x0, .int x1, .int x2]) :
    Con l Z (⟨"com/example/covertide/covertide/engine/SubsetsNext84PinLaw", "at", "([III)I"⟩ : MethodName) method_2_code 3 (some .int) ({ frames := 0, cells := 0, slots := 0, locals := 0 } : Room) #[(.ref b), (.int (1 : Int32)), (.int (0 : Int32))] h n0 (fun v h' => v = some (.int x0) ∧ h = h') := by
  refine con_of hw (plainFor_of_name pn_com_example_covertide_covertide_engine_SubsetsNext84PinLaw) hn0 ?_
  intro p e s m below meth c T0 C X0
  refine Go.cast (congrArg T0.setTop (ef_own_at_2_0 m b)) ?_
  refine go_iloadN C X0 1 rfl d1_0 rfl ?_
  refine go_if_lt C X0 d1_1 (pc' := 4) (pc2 := 9) rfl (by decide) (by decide) (fun (c1 : 1 < 0) => False.elim (by first | omega | exact absurd c1 (by decide))) (fun (c1 : 0 ≤ 1) => ?_)
  refine go_iloadN C X0 5 rfl d1_4 rfl ?_
  refine go_iloadN C X0 6 rfl d1_5 rfl ?_
  refine go_icmp_ge C X0 d1_6 (pc' := 9) (pc2 := 13) rfl (by decide) (by decide) (fun (c6 : 1 ≤ 0) => False.elim (by first | omega | exact absurd c6 (by decide))) (fun (c6 : 0 < 1) => ?_)
  refine go_aloadN C X0 10 rfl d1_9 rfl rfl ?_
  refine go_iloadN C X0 11 rfl d1_10 rfl ?_
  refine go_iaload C X0 A1 (by decide) (v := (.int x0)) rfl (pc' := 12) rfl d1_11 ?_
  exact go_retI C X0 d1_12 ⟨rfl, rfl⟩ (by decide) (by decide)
theorem ef_own_at_2_1 (m : MethodId) (b : Addr) : entryFrame m #[(.ref b), (.int (1 : Int32)), (.int (1 : Int32))] 3 = mkF m 0 #[rv b, iv (1 : Int32), iv (1 : Int32)] [] := by first | (simp [entryFrame, mkF, argsToLocals, Value.category]; done) | rfl
set_option maxRecDepth 65536 in
set_option maxHeartbeats 40000000 in
theorem own_at_2_1 (l : Launch) (Z : State) (a0 : Array Value) (hw : ∀ d ∈ tables_1, d.before a0 Z = true) (b : Addr) (x0 x1 x2 : Int32) (h : Heap) (n0 : Nat) (hn0 : Old Z n0 h) (A1 : La Z h b .int [.int x0, .int x1, .int x2]) :
    Con l Z (⟨"com/example/covertide/covertide/engine/SubsetsNext84PinLaw", "at", "([III)I"⟩ : MethodName) method_2_code 3 (some .int) ({ frames := 0, cells := 0, slots := 0, locals := 0 } : Room) #[(.ref b), (.int (1 : Int32)), (.int (1 : Int32))] h n0 (fun v h' => v = some (.int (x1 + 1 + 0)) ∧ h = h') := by
  refine con_of hw (plainFor_of_name pn_com_example_covertide_covertide_engine_SubsetsNext84PinLaw) hn0 ?_
  intro p e s m below meth c T0 C X0
  refine Go.cast (congrArg T0.setTop (ef_own_at_2_1 m b)) ?_
  refine go_iloadN C X0 1 rfl d1_0 rfl ?_
  refine go_if_lt C X0 d1_1 (pc' := 4) (pc2 := 9) rfl (by decide) (by decide) (fun (c1 : 1 < 0) => False.elim (by first | omega | exact absurd c1 (by decide))) (fun (c1 : 0 ≤ 1) => ?_)
  refine go_iloadN C X0 5 rfl d1_4 rfl ?_
  refine go_iloadN C X0 6 rfl d1_5 rfl ?_
  refine go_icmp_ge C X0 d1_6 (pc' := 9) (pc2 := 13) rfl (by decide) (by decide) (fun (c6 : 1 ≤ 1) => ?_) (fun (c6 : 1 < 1) => False.elim (by first | omega | exact absurd c6 (by decide)))
  refine go_aloadN C X0 14 rfl d1_13 rfl rfl ?_
  refine go_iloadN C X0 15 rfl d1_14 rfl ?_
  refine go_iaload C X0 A1 (by decide) (v := (.int x1)) rfl (pc' := 16) rfl d1_15 ?_
  refine go_iconst C X0 17 rfl d1_16 (z := 1) rfl ?_
  refine go_iadd C X0 18 rfl d1_17 ?_
  refine go_iloadN C X0 19 rfl d1_18 rfl ?_
  refine go_iloadN C X0 20 rfl d1_19 rfl ?_
  refine go_isubL C X0 21 rfl d1_20 (z := (0)) rfl ?_
  refine go_iadd C X0 22 rfl d1_21 ?_
  exact go_retI C X0 d1_22 ⟨rfl, rfl⟩ (by decide) (by decide)
theorem ef_own_at_2_2 (m : MethodId) (b : Addr) : entryFrame m #[(.ref b), (.int (1 : Int32)), (.int (2 : Int32))] 3 = mkF m 0 #[rv b, iv (1 : Int32), iv (2 : Int32)] [] := by first | (simp [entryFrame, mkF, argsToLocals, Value.category]; done) | rfl
set_option maxRecDepth 65536 in
set_option maxHeartbeats 40000000 in
theorem own_at_2_2 (l : Launch) (Z : State) (a0 : Array Value) (hw : ∀ d ∈ tables_1, d.before a0 Z = true) (b : Addr) (x0 x1 x2 : Int32) (h : Heap) (n0 : Nat) (hn0 : Old Z n0 h) (A1 : La Z h b .int [.int x0, .int x1, .int x2]) :
    Con l Z (⟨"com/example/covertide/covertide/engine/SubsetsNext84PinLaw", "at", "([III)I"⟩ : MethodName) method_2_code 3 (some .int) ({ frames := 0, cells := 0, slots := 0, locals := 0 } : Room) #[(.ref b), (.int (1 : Int32)), (.int (2 : Int32))] h n0 (fun v h' => v = some (.int (x1 + 1 + 1)) ∧ h = h') := by
  refine con_of hw (plainFor_of_name pn_com_example_covertide_covertide_engine_SubsetsNext84PinLaw) hn0 ?_
  intro p e s m below meth c T0 C X0
  refine Go.cast (congrArg T0.setTop (ef_own_at_2_2 m b)) ?_
  refine go_iloadN C X0 1 rfl d1_0 rfl ?_
  refine go_if_lt C X0 d1_1 (pc' := 4) (pc2 := 9) rfl (by decide) (by decide) (fun (c1 : 1 < 0) => False.elim (by first | omega | exact absurd c1 (by decide))) (fun (c1 : 0 ≤ 1) => ?_)
  refine go_iloadN C X0 5 rfl d1_4 rfl ?_
  refine go_iloadN C X0 6 rfl d1_5 rfl ?_
  refine go_icmp_ge C X0 d1_6 (pc' := 9) (pc2 := 13) rfl (by decide) (by decide) (fun (c6 : 1 ≤ 2) => ?_) (fun (c6 : 2 < 1) => False.elim (by first | omega | exact absurd c6 (by decide)))
  refine go_aloadN C X0 14 rfl d1_13 rfl rfl ?_
  refine go_iloadN C X0 15 rfl d1_14 rfl ?_
  refine go_iaload C X0 A1 (by decide) (v := (.int x1)) rfl (pc' := 16) rfl d1_15 ?_
  refine go_iconst C X0 17 rfl d1_16 (z := 1) rfl ?_
  refine go_iadd C X0 18 rfl d1_17 ?_
  refine go_iloadN C X0 19 rfl d1_18 rfl ?_
  refine go_iloadN C X0 20 rfl d1_19 rfl ?_
  refine go_isubL C X0 21 rfl d1_20 (z := (1)) rfl ?_
  refine go_iadd C X0 22 rfl d1_21 ?_
  exact go_retI C X0 d1_22 ⟨rfl, rfl⟩ (by decide) (by decide)
theorem ef_own_at_3_0 (m : MethodId) (b : Addr) : entryFrame m #[(.ref b), (.int (2 : Int32)), (.int (0 : Int32))] 3 = mkF m 0 #[rv b, iv (2 : Int32), iv (0 : Int32)] [] := by first | (simp [entryFrame, mkF, argsToLocals, Value.category]; done) | rfl
set_option maxRecDepth 65536 in
set_option maxHeartbeats 40000000 in
theorem own_at_3_0 (l : Launch) (Z : State) (a0 : Array Value) (hw : ∀ d ∈ tables_1, d.before a0 Z = true) (b : Addr) (x0 x1 x2 : Int32) (h : Heap) (n0 : Nat) (hn0 : Old Z n0 h) (A1 : La Z h b .int [.int x0, .int x1, .int x2]) :
    Con l Z (⟨"com/example/covertide/covertide/engine/SubsetsNext84PinLaw", "at", "([III)I"⟩ : MethodName) method_2_code 3 (some .int) ({ frames := 0, cells := 0, slots := 0, locals := 0 } : Room) #[(.ref b), (.int (2 : Int32)), (.int (0 : Int32))] h n0 (fun v h' => v = some (.int x0) ∧ h = h') := by
  refine con_of hw (plainFor_of_name pn_com_example_covertide_covertide_engine_SubsetsNext84PinLaw) hn0 ?_
  intro p e s m below meth c T0 C X0
  refine Go.cast (congrArg T0.setTop (ef_own_at_3_0 m b)) ?_
  refine go_iloadN C X0 1 rfl d1_0 rfl ?_
  refine go_if_lt C X0 d1_1 (pc' := 4) (pc2 := 9) rfl (by decide) (by decide) (fun (c1 : 2 < 0) => False.elim (by first | omega | exact absurd c1 (by decide))) (fun (c1 : 0 ≤ 2) => ?_)
  refine go_iloadN C X0 5 rfl d1_4 rfl ?_
  refine go_iloadN C X0 6 rfl d1_5 rfl ?_
  refine go_icmp_ge C X0 d1_6 (pc' := 9) (pc2 := 13) rfl (by decide) (by decide) (fun (c6 : 2 ≤ 0) => False.elim (by first | omega | exact absurd c6 (by decide))) (fun (c6 : 0 < 2) => ?_)
  refine go_aloadN C X0 10 rfl d1_9 rfl rfl ?_
  refine go_iloadN C X0 11 rfl d1_10 rfl ?_
  refine go_iaload C X0 A1 (by decide) (v := (.int x0)) rfl (pc' := 12) rfl d1_11 ?_
  exact go_retI C X0 d1_12 ⟨rfl, rfl⟩ (by decide) (by decide)
theorem ef_own_at_3_1 (m : MethodId) (b : Addr) : entryFrame m #[(.ref b), (.int (2 : Int32)), (.int (1 : Int32))] 3 = mkF m 0 #[rv b, iv (2 : Int32), iv (1 : Int32)] [] := by first | (simp [entryFrame, mkF, argsToLocals, Value.category]; done) | rfl
set_option maxRecDepth 65536 in
set_option maxHeartbeats 40000000 in
theorem own_at_3_1 (l : Launch) (Z : State) (a0 : Array Value) (hw : ∀ d ∈ tables_1, d.before a0 Z = true) (b : Addr) (x0 x1 x2 : Int32) (h : Heap) (n0 : Nat) (hn0 : Old Z n0 h) (A1 : La Z h b .int [.int x0, .int x1, .int x2]) :
    Con l Z (⟨"com/example/covertide/covertide/engine/SubsetsNext84PinLaw", "at", "([III)I"⟩ : MethodName) method_2_code 3 (some .int) ({ frames := 0, cells := 0, slots := 0, locals := 0 } : Room) #[(.ref b), (.int (2 : Int32)), (.int (1 : Int32))] h n0 (fun v h' => v = some (.int x1) ∧ h = h') := by
  refine con_of hw (plainFor_of_name pn_com_example_covertide_covertide_engine_SubsetsNext84PinLaw) hn0 ?_
  intro p e s m below meth c T0 C X0
  refine Go.cast (congrArg T0.setTop (ef_own_at_3_1 m b)) ?_
  refine go_iloadN C X0 1 rfl d1_0 rfl ?_
  refine go_if_lt C X0 d1_1 (pc' := 4) (pc2 := 9) rfl (by decide) (by decide) (fun (c1 : 2 < 0) => False.elim (by first | omega | exact absurd c1 (by decide))) (fun (c1 : 0 ≤ 2) => ?_)
  refine go_iloadN C X0 5 rfl d1_4 rfl ?_
  refine go_iloadN C X0 6 rfl d1_5 rfl ?_
  refine go_icmp_ge C X0 d1_6 (pc' := 9) (pc2 := 13) rfl (by decide) (by decide) (fun (c6 : 2 ≤ 1) => False.elim (by first | omega | exact absurd c6 (by decide))) (fun (c6 : 1 < 2) => ?_)
  refine go_aloadN C X0 10 rfl d1_9 rfl rfl ?_
  refine go_iloadN C X0 11 rfl d1_10 rfl ?_
  refine go_iaload C X0 A1 (by decide) (v := (.int x1)) rfl (pc' := 12) rfl d1_11 ?_
  exact go_retI C X0 d1_12 ⟨rfl, rfl⟩ (by decide) (by decide)
theorem ef_own_at_3_2 (m : MethodId) (b : Addr) : entryFrame m #[(.ref b), (.int (2 : Int32)), (.int (2 : Int32))] 3 = mkF m 0 #[rv b, iv (2 : Int32), iv (2 : Int32)] [] := by first | (simp [entryFrame, mkF, argsToLocals, Value.category]; done) | rfl
set_option maxRecDepth 65536 in
set_option maxHeartbeats 40000000 in
theorem own_at_3_2 (l : Launch) (Z : State) (a0 : Array Value) (hw : ∀ d ∈ tables_1, d.before a0 Z = true) (b : Addr) (x0 x1 x2 : Int32) (h : Heap) (n0 : Nat) (hn0 : Old Z n0 h) (A1 : La Z h b .int [.int x0, .int x1, .int x2]) :
    Con l Z (⟨"com/example/covertide/covertide/engine/SubsetsNext84PinLaw", "at", "([III)I"⟩ : MethodName) method_2_code 3 (some .int) ({ frames := 0, cells := 0, slots := 0, locals := 0 } : Room) #[(.ref b), (.int (2 : Int32)), (.int (2 : Int32))] h n0 (fun v h' => v = some (.int (x2 + 1 + 0)) ∧ h = h') := by
  refine con_of hw (plainFor_of_name pn_com_example_covertide_covertide_engine_SubsetsNext84PinLaw) hn0 ?_
  intro p e s m below meth c T0 C X0
  refine Go.cast (congrArg T0.setTop (ef_own_at_3_2 m b)) ?_
  refine go_iloadN C X0 1 rfl d1_0 rfl ?_
  refine go_if_lt C X0 d1_1 (pc' := 4) (pc2 := 9) rfl (by decide) (by decide) (fun (c1 : 2 < 0) => False.elim (by first | omega | exact absurd c1 (by decide))) (fun (c1 : 0 ≤ 2) => ?_)
  refine go_iloadN C X0 5 rfl d1_4 rfl ?_
  refine go_iloadN C X0 6 rfl d1_5 rfl ?_
  refine go_icmp_ge C X0 d1_6 (pc' := 9) (pc2 := 13) rfl (by decide) (by decide) (fun (c6 : 2 ≤ 2) => ?_) (fun (c6 : 2 < 2) => False.elim (by first | omega | exact absurd c6 (by decide)))
  refine go_aloadN C X0 14 rfl d1_13 rfl rfl ?_
  refine go_iloadN C X0 15 rfl d1_14 rfl ?_
  refine go_iaload C X0 A1 (by decide) (v := (.int x2)) rfl (pc' := 16) rfl d1_15 ?_
  refine go_iconst C X0 17 rfl d1_16 (z := 1) rfl ?_
  refine go_iadd C X0 18 rfl d1_17 ?_
  refine go_iloadN C X0 19 rfl d1_18 rfl ?_
  refine go_iloadN C X0 20 rfl d1_19 rfl ?_
  refine go_isubL C X0 21 rfl d1_20 (z := (0)) rfl ?_
  refine go_iadd C X0 22 rfl d1_21 ?_
  exact go_retI C X0 d1_22 ⟨rfl, rfl⟩ (by decide) (by decide)
theorem d2_0 : decode prog_11_method_3_code 0 = .ok (.aload_n 0, 1) := by decide +kernel
theorem d2_1 : decode prog_11_method_3_code 1 = .ok (.arraylength, 1) := by decide +kernel
theorem d2_2 : decode prog_11_method_3_code 2 = .ok (.iconst 1, 1) := by decide +kernel
theorem d2_3 : decode prog_11_method_3_code 3 = .ok (.isub, 1) := by decide +kernel
theorem d2_4 : decode prog_11_method_3_code 4 = .ok (.istore_n 2, 1) := by decide +kernel
theorem d2_5 : decode prog_11_method_3_code 5 = .ok (.iload_n 2, 1) := by decide +kernel
theorem d2_6 : decode prog_11_method_3_code 6 = .ok (.ifCond .lt 21, 3) := by decide +kernel
theorem d2_27 : decode prog_11_method_3_code 27 = .ok (.iload_n 2, 1) := by decide +kernel
theorem d2_28 : decode prog_11_method_3_code 28 = .ok (.ifCond .ge 5, 3) := by decide +kernel
theorem d2_31 : decode prog_11_method_3_code 31 = .ok (.iconst 0, 1) := by decide +kernel
theorem d2_32 : decode prog_11_method_3_code 32 = .ok (.ireturn, 1) := by decide +kernel
theorem pn_com_example_covertide_covertide_engine_Subsets : plainName "com/example/covertide/covertide/engine/Subsets" = true := by first | (simp [plainName, overriddenIn]; done) | decide +kernel
theorem ef_own_next_0_0 (m : MethodId) (b : Addr) (n1 : Int32) : entryFrame m #[(.ref b), (.int n1)] 4 = mkF m 0 #[rv b, iv n1, un, un] [] := by first | (simp [entryFrame, mkF, argsToLocals, Value.category]; done) | rfl
set_option maxRecDepth 65536 in
set_option maxHeartbeats 40000000 in
theorem own_next_0_0 (l : Launch) (Z : State) (a0 : Array Value) (hw : ∀ d ∈ tables_1, d.before a0 Z = true) (b : Addr) (n1 : Int32)  (h : Heap) (n0 : Nat) (hn0 : Old Z n0 h) (A1 : La Z h b .int []) (gb : n0 ≤ b)  :
    Con l Z (⟨"com/example/covertide/covertide/engine/Subsets", "next", "([II)Z"⟩ : MethodName) prog_11_method_3_code 4 (some .boolean) ({ frames := 0, cells := 0, slots := 0, locals := 0 } : Room) #[(.ref b), (.int n1)] h n0 (fun v h' => v = some (.int 0) ∧ Keep h h' [b] ∧ La Z h' b .int []) := by
  refine con_of hw (plainFor_of_name pn_com_example_covertide_covertide_engine_Subsets) hn0 ?_
  intro p e s m below meth c T0 C X0
  refine Go.cast (congrArg T0.setTop (ef_own_next_0_0 m b n1)) ?_
  refine go_aloadN C X0 1 rfl d2_0 rfl rfl ?_
  refine go_alen C X0 A1 (z := (0 : Int32)) rfl (pc' := 2) rfl d2_1 ?_
  refine go_iconst C X0 3 rfl d2_2 (z := 1) rfl ?_
  refine go_isubL C X0 4 rfl d2_3 (z := (-1)) rfl ?_
  refine go_istoreN C X0 5 rfl d2_4 #[rv b, iv n1, iv (-1 : Int32), un] rfl ?_
  refine go_iloadN C X0 6 rfl d2_5 rfl ?_
  refine go_if_lt C X0 d2_6 (pc' := 9) (pc2 := 27) rfl (by decide) (by decide) (fun (c6 : (-1) < 0) => ?_) (fun (c6 : 0 ≤ (-1)) => False.elim (by first | omega | exact absurd c6 (by decide)))
  refine go_iloadN C X0 28 rfl d2_27 rfl ?_
  refine go_if_ge C X0 d2_28 (pc' := 31) (pc2 := 33) rfl (by decide) (by decide) (fun (c28 : 0 ≤ (-1)) => False.elim (by first | omega | exact absurd c28 (by decide))) (fun (c28 : (-1) < 0) => ?_)
  refine go_iconst C X0 32 rfl d2_31 (z := 0) rfl ?_
  exact go_retN C X0 (by simp) (z' := 0) rfl d2_32 ⟨rfl, (Keep.refl h [b]), A1⟩ (by decide) (by decide)
theorem d2_9 : decode prog_11_method_3_code 9 = .ok (.aload_n 0, 1) := by decide +kernel
theorem d2_10 : decode prog_11_method_3_code 10 = .ok (.iload_n 2, 1) := by decide +kernel
theorem d2_11 : decode prog_11_method_3_code 11 = .ok (.iaload, 1) := by decide +kernel
theorem d2_12 : decode prog_11_method_3_code 12 = .ok (.iload_n 1, 1) := by decide +kernel
theorem d2_13 : decode prog_11_method_3_code 13 = .ok (.aload_n 0, 1) := by decide +kernel
theorem d2_14 : decode prog_11_method_3_code 14 = .ok (.arraylength, 1) := by decide +kernel
theorem d2_15 : decode prog_11_method_3_code 15 = .ok (.isub, 1) := by decide +kernel
theorem d2_16 : decode prog_11_method_3_code 16 = .ok (.iload_n 2, 1) := by decide +kernel
theorem d2_17 : decode prog_11_method_3_code 17 = .ok (.iadd, 1) := by decide +kernel
theorem d2_18 : decode prog_11_method_3_code 18 = .ok (.if_icmp .ne 9, 3) := by decide +kernel
theorem d2_21 : decode prog_11_method_3_code 21 = .ok (.iinc 2 (-1), 3) := by decide +kernel
theorem d2_24 : decode prog_11_method_3_code 24 = .ok (.goto (-19), 3) := by decide +kernel
theorem ef_own_next_1_0 (m : MethodId) (b : Addr) (n1 : Int32) : entryFrame m #[(.ref b), (.int n1)] 4 = mkF m 0 #[rv b, iv n1, un, un] [] := by first | (simp [entryFrame, mkF, argsToLocals, Value.category]; done) | rfl
set_option maxRecDepth 65536 in
set_option maxHeartbeats 40000000 in
theorem own_next_1_0 (l : Launch) (Z : State) (a0 : Array Value) (hw : ∀ d ∈ tables_1, d.before a0 Z = true) (b : Addr) (n1 : Int32) (x0 : Int32) (h : Heap) (n0 : Nat) (hn0 : Old Z n0 h) (A1 : La Z h b .int [.int x0]) (gb : n0 ≤ b) (q0 : x0 = n1 - 1 + 0) :
    Con l Z (⟨"com/example/covertide/covertide/engine/Subsets", "next", "([II)Z"⟩ : MethodName) prog_11_method_3_code 4 (some .boolean) ({ frames := 0, cells := 0, slots := 0, locals := 0 } : Room) #[(.ref b), (.int n1)] h n0 (fun v h' => v = some (.int 0) ∧ Keep h h' [b] ∧ La Z h' b .int [.int x0]) := by
  refine con_of hw (plainFor_of_name pn_com_example_covertide_covertide_engine_Subsets) hn0 ?_
  intro p e s m below meth c T0 C X0
  refine Go.cast (congrArg T0.setTop (ef_own_next_1_0 m b n1)) ?_
  refine go_aloadN C X0 1 rfl d2_0 rfl rfl ?_
  refine go_alen C X0 A1 (z := (1 : Int32)) rfl (pc' := 2) rfl d2_1 ?_
  refine go_iconst C X0 3 rfl d2_2 (z := 1) rfl ?_
  refine go_isubL C X0 4 rfl d2_3 (z := (0)) rfl ?_
  refine go_istoreN C X0 5 rfl d2_4 #[rv b, iv n1, iv (0 : Int32), un] rfl ?_
  refine go_iloadN C X0 6 rfl d2_5 rfl ?_
  refine go_if_lt C X0 d2_6 (pc' := 9) (pc2 := 27) rfl (by decide) (by decide) (fun (c6 : 0 < 0) => False.elim (by first | omega | exact absurd c6 (by decide))) (fun (c6 : 0 ≤ 0) => ?_)
  refine go_aloadN C X0 10 rfl d2_9 rfl rfl ?_
  refine go_iloadN C X0 11 rfl d2_10 rfl ?_
  refine go_iaload C X0 A1 (by decide) (v := (.int x0)) rfl (pc' := 12) rfl d2_11 ?_
  refine go_iloadN C X0 13 rfl d2_12 rfl ?_
  refine go_aloadN C X0 14 rfl d2_13 rfl rfl ?_
  refine go_alen C X0 A1 (z := (1 : Int32)) rfl (pc' := 15) rfl d2_14 ?_
  refine go_isub C X0 16 rfl d2_15 ?_
  refine go_iloadN C X0 17 rfl d2_16 rfl ?_
  refine go_iadd C X0 18 rfl d2_17 ?_
  refine go_icmp_ne C X0 d2_18 (pc' := 21) (pc2 := 27) rfl (by decide) (by decide) (fun (c18 : ¬ x0 = ((n1 - (1 : Int32)) + (0 : Int32))) => False.elim (c18 q0)) (fun (c18 : x0 = ((n1 - (1 : Int32)) + (0 : Int32))) => ?_)
  refine go_iinc C X0 24 rfl d2_21 rfl (z := (-1)) rfl #[rv b, iv n1, iv (-1 : Int32), un] rfl ?_
  refine go_goto C X0 d2_24 (pc' := 5) (by decide) (by decide) ?_
  refine go_iloadN C X0 6 rfl d2_5 rfl ?_
  refine go_if_lt C X0 d2_6 (pc' := 9) (pc2 := 27) rfl (by decide) (by decide) (fun (c6 : (-1) < 0) => ?_) (fun (c6 : 0 ≤ (-1)) => False.elim (by first | omega | exact absurd c6 (by decide)))
  refine go_iloadN C X0 28 rfl d2_27 rfl ?_
  refine go_if_ge C X0 d2_28 (pc' := 31) (pc2 := 33) rfl (by decide) (by decide) (fun (c28 : 0 ≤ (-1)) => False.elim (by first | omega | exact absurd c28 (by decide))) (fun (c28 : (-1) < 0) => ?_)
  refine go_iconst C X0 32 rfl d2_31 (z := 0) rfl ?_
  exact go_retN C X0 (by simp) (z' := 0) rfl d2_32 ⟨rfl, (Keep.refl h [b]), A1⟩ (by decide) (by decide)
theorem d2_33 : decode prog_11_method_3_code 33 = .ok (.aload_n 0, 1) := by decide +kernel
theorem d2_34 : decode prog_11_method_3_code 34 = .ok (.iload_n 2, 1) := by decide +kernel
theorem d2_35 : decode prog_11_method_3_code 35 = .ok (.dup2, 1) := by decide +kernel
theorem d2_36 : decode prog_11_method_3_code 36 = .ok (.iaload, 1) := by decide +kernel
theorem d2_37 : decode prog_11_method_3_code 37 = .ok (.iconst 1, 1) := by decide +kernel
theorem d2_38 : decode prog_11_method_3_code 38 = .ok (.iadd, 1) := by decide +kernel
theorem d2_39 : decode prog_11_method_3_code 39 = .ok (.iastore, 1) := by decide +kernel
theorem d2_40 : decode prog_11_method_3_code 40 = .ok (.iload_n 2, 1) := by decide +kernel
theorem d2_41 : decode prog_11_method_3_code 41 = .ok (.iconst 1, 1) := by decide +kernel
theorem d2_42 : decode prog_11_method_3_code 42 = .ok (.iadd, 1) := by decide +kernel
theorem d2_43 : decode prog_11_method_3_code 43 = .ok (.istore_n 3, 1) := by decide +kernel
theorem d2_44 : decode prog_11_method_3_code 44 = .ok (.iload_n 3, 1) := by decide +kernel
theorem d2_45 : decode prog_11_method_3_code 45 = .ok (.aload_n 0, 1) := by decide +kernel
theorem d2_46 : decode prog_11_method_3_code 46 = .ok (.arraylength, 1) := by decide +kernel
theorem d2_47 : decode prog_11_method_3_code 47 = .ok (.if_icmp .ge 19, 3) := by decide +kernel
theorem d2_66 : decode prog_11_method_3_code 66 = .ok (.iconst 1, 1) := by decide +kernel
theorem d2_67 : decode prog_11_method_3_code 67 = .ok (.ireturn, 1) := by decide +kernel
theorem ef_own_next_1_1 (m : MethodId) (b : Addr) (n1 : Int32) : entryFrame m #[(.ref b), (.int n1)] 4 = mkF m 0 #[rv b, iv n1, un, un] [] := by first | (simp [entryFrame, mkF, argsToLocals, Value.category]; done) | rfl
set_option maxRecDepth 65536 in
set_option maxHeartbeats 40000000 in
theorem own_next_1_1 (l : Launch) (Z : State) (a0 : Array Value) (hw : ∀ d ∈ tables_1, d.before a0 Z = true) (b : Addr) (n1 : Int32) (x0 : Int32) (h : Heap) (n0 : Nat) (hn0 : Old Z n0 h) (A1 : La Z h b .int [.int x0]) (gb : n0 ≤ b) (q0 : ¬ x0 = n1 - 1 + 0) :
    Con l Z (⟨"com/example/covertide/covertide/engine/Subsets", "next", "([II)Z"⟩ : MethodName) prog_11_method_3_code 4 (some .boolean) ({ frames := 0, cells := 0, slots := 0, locals := 0 } : Room) #[(.ref b), (.int n1)] h n0 (fun v h' => v = some (.int 1) ∧ Keep h h' [b] ∧ La Z h' b .int [.int (x0 + 1)]) := by
  refine con_of hw (plainFor_of_name pn_com_example_covertide_covertide_engine_Subsets) hn0 ?_
  intro p e s m below meth c T0 C X0
  refine Go.cast (congrArg T0.setTop (ef_own_next_1_1 m b n1)) ?_
  refine go_aloadN C X0 1 rfl d2_0 rfl rfl ?_
  refine go_alen C X0 A1 (z := (1 : Int32)) rfl (pc' := 2) rfl d2_1 ?_
  refine go_iconst C X0 3 rfl d2_2 (z := 1) rfl ?_
  refine go_isubL C X0 4 rfl d2_3 (z := (0)) rfl ?_
  refine go_istoreN C X0 5 rfl d2_4 #[rv b, iv n1, iv (0 : Int32), un] rfl ?_
  refine go_iloadN C X0 6 rfl d2_5 rfl ?_
  refine go_if_lt C X0 d2_6 (pc' := 9) (pc2 := 27) rfl (by decide) (by decide) (fun (c6 : 0 < 0) => False.elim (by first | omega | exact absurd c6 (by decide))) (fun (c6 : 0 ≤ 0) => ?_)
  refine go_aloadN C X0 10 rfl d2_9 rfl rfl ?_
  refine go_iloadN C X0 11 rfl d2_10 rfl ?_
  refine go_iaload C X0 A1 (by decide) (v := (.int x0)) rfl (pc' := 12) rfl d2_11 ?_
  refine go_iloadN C X0 13 rfl d2_12 rfl ?_
  refine go_aloadN C X0 14 rfl d2_13 rfl rfl ?_
  refine go_alen C X0 A1 (z := (1 : Int32)) rfl (pc' := 15) rfl d2_14 ?_
  refine go_isub C X0 16 rfl d2_15 ?_
  refine go_iloadN C X0 17 rfl d2_16 rfl ?_
  refine go_iadd C X0 18 rfl d2_17 ?_
  refine go_icmp_ne C X0 d2_18 (pc' := 21) (pc2 := 27) rfl (by decide) (by decide) (fun (c18 : ¬ x0 = ((n1 - (1 : Int32)) + (0 : Int32))) => ?_) (fun (c18 : x0 = ((n1 - (1 : Int32)) + (0 : Int32))) => False.elim (q0 c18))
  refine go_iloadN C X0 28 rfl d2_27 rfl ?_
  refine go_if_ge C X0 d2_28 (pc' := 31) (pc2 := 33) rfl (by decide) (by decide) (fun (c28 : 0 ≤ 0) => ?_) (fun (c28 : 0 < 0) => False.elim (by first | omega | exact absurd c28 (by decide)))
  refine go_aloadN C X0 34 rfl d2_33 rfl rfl ?_
  refine go_iloadN C X0 35 rfl d2_34 rfl ?_
  refine go_dup2 C X0 36 rfl d2_35 rfl rfl ?_
  refine go_iaload C X0 A1 (by decide) (v := (.int x0)) rfl (pc' := 37) rfl d2_36 ?_
  refine go_iconst C X0 38 rfl d2_37 (z := 1) rfl ?_
  refine go_iadd C X0 39 rfl d2_38 ?_
  refine go_iastore C X0 A1 (by decide) (by show _ < (1 : Int); decide) gb (pc' := 40) rfl d2_39 (fun T1 h3 W4 A5 X2 => ?_)
  have K6 := (Keep.refl h [b]).wr W4 (Or.inl (List.mem_of_getElem? (i := 0) rfl))
  replace A5 : La Z h3 b .int ([(.int (x0 + (1 : Int32)))]) := A5
  refine go_iloadN C X2 41 rfl d2_40 rfl ?_
  refine go_iconst C X2 42 rfl d2_41 (z := 1) rfl ?_
  refine go_iaddL C X2 43 rfl d2_42 (z := (1)) rfl ?_
  refine go_istoreN C X2 44 rfl d2_43 #[rv b, iv n1, iv (0 : Int32), iv (1 : Int32)] rfl ?_
  refine go_iloadN C X2 45 rfl d2_44 rfl ?_
  refine go_aloadN C X2 46 rfl d2_45 rfl rfl ?_
  refine go_alen C X2 A5 (z := (1 : Int32)) rfl (pc' := 47) rfl d2_46 ?_
  refine go_icmp_ge C X2 d2_47 (pc' := 50) (pc2 := 66) rfl (by decide) (by decide) (fun (c47 : 1 ≤ 1) => ?_) (fun (c47 : 1 < 1) => False.elim (by first | omega | exact absurd c47 (by decide)))
  refine go_iconst C X2 67 rfl d2_66 (z := 1) rfl ?_
  exact go_retN C X2 (by simp) (z' := 1) rfl d2_67 ⟨rfl, K6, A5⟩ (by decide) (by decide)
theorem ef_own_next_2_0 (m : MethodId) (b : Addr) (n1 : Int32) : entryFrame m #[(.ref b), (.int n1)] 4 = mkF m 0 #[rv b, iv n1, un, un] [] := by first | (simp [entryFrame, mkF, argsToLocals, Value.category]; done) | rfl
set_option maxRecDepth 65536 in
set_option maxHeartbeats 40000000 in
theorem own_next_2_0 (l : Launch) (Z : State) (a0 : Array Value) (hw : ∀ d ∈ tables_1, d.before a0 Z = true) (b : Addr) (n1 : Int32) (x0 x1 : Int32) (h : Heap) (n0 : Nat) (hn0 : Old Z n0 h) (A1 : La Z h b .int [.int x0, .int x1]) (gb : n0 ≤ b) (q0 : x0 = n1 - 2 + 0) (q1 : x1 = n1 - 2 + 1) :
    Con l Z (⟨"com/example/covertide/covertide/engine/Subsets", "next", "([II)Z"⟩ : MethodName) prog_11_method_3_code 4 (some .boolean) ({ frames := 0, cells := 0, slots := 0, locals := 0 } : Room) #[(.ref b), (.int n1)] h n0 (fun v h' => v = some (.int 0) ∧ Keep h h' [b] ∧ La Z h' b .int [.int x0, .int x1]) := by
  refine con_of hw (plainFor_of_name pn_com_example_covertide_covertide_engine_Subsets) hn0 ?_
  intro p e s m below meth c T0 C X0
  refine Go.cast (congrArg T0.setTop (ef_own_next_2_0 m b n1)) ?_
  refine go_aloadN C X0 1 rfl d2_0 rfl rfl ?_
  refine go_alen C X0 A1 (z := (2 : Int32)) rfl (pc' := 2) rfl d2_1 ?_
  refine go_iconst C X0 3 rfl d2_2 (z := 1) rfl ?_
  refine go_isubL C X0 4 rfl d2_3 (z := (1)) rfl ?_
  refine go_istoreN C X0 5 rfl d2_4 #[rv b, iv n1, iv (1 : Int32), un] rfl ?_
  refine go_iloadN C X0 6 rfl d2_5 rfl ?_
  refine go_if_lt C X0 d2_6 (pc' := 9) (pc2 := 27) rfl (by decide) (by decide) (fun (c6 : 1 < 0) => False.elim (by first | omega | exact absurd c6 (by decide))) (fun (c6 : 0 ≤ 1) => ?_)
  refine go_aloadN C X0 10 rfl d2_9 rfl rfl ?_
  refine go_iloadN C X0 11 rfl d2_10 rfl ?_
  refine go_iaload C X0 A1 (by decide) (v := (.int x1)) rfl (pc' := 12) rfl d2_11 ?_
  refine go_iloadN C X0 13 rfl d2_12 rfl ?_
  refine go_aloadN C X0 14 rfl d2_13 rfl rfl ?_
  refine go_alen C X0 A1 (z := (2 : Int32)) rfl (pc' := 15) rfl d2_14 ?_
  refine go_isub C X0 16 rfl d2_15 ?_
  refine go_iloadN C X0 17 rfl d2_16 rfl ?_
  refine go_iadd C X0 18 rfl d2_17 ?_
  refine go_icmp_ne C X0 d2_18 (pc' := 21) (pc2 := 27) rfl (by decide) (by decide) (fun (c18 : ¬ x1 = ((n1 - (2 : Int32)) + (1 : Int32))) => False.elim (c18 q1)) (fun (c18 : x1 = ((n1 - (2 : Int32)) + (1 : Int32))) => ?_)
  refine go_iinc C X0 24 rfl d2_21 rfl (z := (-1)) rfl #[rv b, iv n1, iv (0 : Int32), un] rfl ?_
  refine go_goto C X0 d2_24 (pc' := 5) (by decide) (by decide) ?_
  refine go_iloadN C X0 6 rfl d2_5 rfl ?_
  refine go_if_lt C X0 d2_6 (pc' := 9) (pc2 := 27) rfl (by decide) (by decide) (fun (c6 : 0 < 0) => False.elim (by first | omega | exact absurd c6 (by decide))) (fun (c6 : 0 ≤ 0) => ?_)
  refine go_aloadN C X0 10 rfl d2_9 rfl rfl ?_
  refine go_iloadN C X0 11 rfl d2_10 rfl ?_
  refine go_iaload C X0 A1 (by decide) (v := (.int x0)) rfl (pc' := 12) rfl d2_11 ?_
  refine go_iloadN C X0 13 rfl d2_12 rfl ?_
  refine go_aloadN C X0 14 rfl d2_13 rfl rfl ?_
  refine go_alen C X0 A1 (z := (2 : Int32)) rfl (pc' := 15) rfl d2_14 ?_
  refine go_isub C X0 16 rfl d2_15 ?_
  refine go_iloadN C X0 17 rfl d2_16 rfl ?_
  refine go_iadd C X0 18 rfl d2_17 ?_
  refine go_icmp_ne C X0 d2_18 (pc' := 21) (pc2 := 27) rfl (by decide) (by decide) (fun (c18 : ¬ x0 = ((n1 - (2 : Int32)) + (0 : Int32))) => False.elim (c18 q0)) (fun (c18 : x0 = ((n1 - (2 : Int32)) + (0 : Int32))) => ?_)
  refine go_iinc C X0 24 rfl d2_21 rfl (z := (-1)) rfl #[rv b, iv n1, iv (-1 : Int32), un] rfl ?_
  refine go_goto C X0 d2_24 (pc' := 5) (by decide) (by decide) ?_
  refine go_iloadN C X0 6 rfl d2_5 rfl ?_
  refine go_if_lt C X0 d2_6 (pc' := 9) (pc2 := 27) rfl (by decide) (by decide) (fun (c6 : (-1) < 0) => ?_) (fun (c6 : 0 ≤ (-1)) => False.elim (by first | omega | exact absurd c6 (by decide)))
  refine go_iloadN C X0 28 rfl d2_27 rfl ?_
  refine go_if_ge C X0 d2_28 (pc' := 31) (pc2 := 33) rfl (by decide) (by decide) (fun (c28 : 0 ≤ (-1)) => False.elim (by first | omega | exact absurd c28 (by decide))) (fun (c28 : (-1) < 0) => ?_)
  refine go_iconst C X0 32 rfl d2_31 (z := 0) rfl ?_
  exact go_retN C X0 (by simp) (z' := 0) rfl d2_32 ⟨rfl, (Keep.refl h [b]), A1⟩ (by decide) (by decide)
theorem d2_50 : decode prog_11_method_3_code 50 = .ok (.aload_n 0, 1) := by decide +kernel
theorem d2_51 : decode prog_11_method_3_code 51 = .ok (.iload_n 3, 1) := by decide +kernel
theorem d2_52 : decode prog_11_method_3_code 52 = .ok (.aload_n 0, 1) := by decide +kernel
theorem d2_53 : decode prog_11_method_3_code 53 = .ok (.iload_n 3, 1) := by decide +kernel
theorem d2_54 : decode prog_11_method_3_code 54 = .ok (.iconst 1, 1) := by decide +kernel
theorem d2_55 : decode prog_11_method_3_code 55 = .ok (.isub, 1) := by decide +kernel
theorem d2_56 : decode prog_11_method_3_code 56 = .ok (.iaload, 1) := by decide +kernel
theorem d2_57 : decode prog_11_method_3_code 57 = .ok (.iconst 1, 1) := by decide +kernel
theorem d2_58 : decode prog_11_method_3_code 58 = .ok (.iadd, 1) := by decide +kernel
theorem d2_59 : decode prog_11_method_3_code 59 = .ok (.iastore, 1) := by decide +kernel
theorem d2_60 : decode prog_11_method_3_code 60 = .ok (.iinc 3 1, 3) := by decide +kernel
theorem d2_63 : decode prog_11_method_3_code 63 = .ok (.goto (-19), 3) := by decide +kernel
theorem ef_own_next_2_1 (m : MethodId) (b : Addr) (n1 : Int32) : entryFrame m #[(.ref b), (.int n1)] 4 = mkF m 0 #[rv b, iv n1, un, un] [] := by first | (simp [entryFrame, mkF, argsToLocals, Value.category]; done) | rfl
set_option maxRecDepth 65536 in
set_option maxHeartbeats 40000000 in
theorem own_next_2_1 (l : Launch) (Z : State) (a0 : Array Value) (hw : ∀ d ∈ tables_1, d.before a0 Z = true) (b : Addr) (n1 : Int32) (x0 x1 : Int32) (h : Heap) (n0 : Nat) (hn0 : Old Z n0 h) (A1 : La Z h b .int [.int x0, .int x1]) (gb : n0 ≤ b) (q0 : ¬ x0 = n1 - 2 + 0) (q1 : x1 = n1 - 2 + 1) :
    Con l Z (⟨"com/example/covertide/covertide/engine/Subsets", "next", "([II)Z"⟩ : MethodName) prog_11_method_3_code 4 (some .boolean) ({ frames := 0, cells := 0, slots := 0, locals := 0 } : Room) #[(.ref b), (.int n1)] h n0 (fun v h' => v = some (.int 1) ∧ Keep h h' [b] ∧ La Z h' b .int [.int (x0 + 1), .int ((x0 + 1) + 1)]) := by
  refine con_of hw (plainFor_of_name pn_com_example_covertide_covertide_engine_Subsets) hn0 ?_
  intro p e s m below meth c T0 C X0
  refine Go.cast (congrArg T0.setTop (ef_own_next_2_1 m b n1)) ?_
  refine go_aloadN C X0 1 rfl d2_0 rfl rfl ?_
  refine go_alen C X0 A1 (z := (2 : Int32)) rfl (pc' := 2) rfl d2_1 ?_
  refine go_iconst C X0 3 rfl d2_2 (z := 1) rfl ?_
  refine go_isubL C X0 4 rfl d2_3 (z := (1)) rfl ?_
  refine go_istoreN C X0 5 rfl d2_4 #[rv b, iv n1, iv (1 : Int32), un] rfl ?_
  refine go_iloadN C X0 6 rfl d2_5 rfl ?_
  refine go_if_lt C X0 d2_6 (pc' := 9) (pc2 := 27) rfl (by decide) (by decide) (fun (c6 : 1 < 0) => False.elim (by first | omega | exact absurd c6 (by decide))) (fun (c6 : 0 ≤ 1) => ?_)
  refine go_aloadN C X0 10 rfl d2_9 rfl rfl ?_
  refine go_iloadN C X0 11 rfl d2_10 rfl ?_
  refine go_iaload C X0 A1 (by decide) (v := (.int x1)) rfl (pc' := 12) rfl d2_11 ?_
  refine go_iloadN C X0 13 rfl d2_12 rfl ?_
  refine go_aloadN C X0 14 rfl d2_13 rfl rfl ?_
  refine go_alen C X0 A1 (z := (2 : Int32)) rfl (pc' := 15) rfl d2_14 ?_
  refine go_isub C X0 16 rfl d2_15 ?_
  refine go_iloadN C X0 17 rfl d2_16 rfl ?_
  refine go_iadd C X0 18 rfl d2_17 ?_
  refine go_icmp_ne C X0 d2_18 (pc' := 21) (pc2 := 27) rfl (by decide) (by decide) (fun (c18 : ¬ x1 = ((n1 - (2 : Int32)) + (1 : Int32))) => False.elim (c18 q1)) (fun (c18 : x1 = ((n1 - (2 : Int32)) + (1 : Int32))) => ?_)
  refine go_iinc C X0 24 rfl d2_21 rfl (z := (-1)) rfl #[rv b, iv n1, iv (0 : Int32), un] rfl ?_
  refine go_goto C X0 d2_24 (pc' := 5) (by decide) (by decide) ?_
  refine go_iloadN C X0 6 rfl d2_5 rfl ?_
  refine go_if_lt C X0 d2_6 (pc' := 9) (pc2 := 27) rfl (by decide) (by decide) (fun (c6 : 0 < 0) => False.elim (by first | omega | exact absurd c6 (by decide))) (fun (c6 : 0 ≤ 0) => ?_)
  refine go_aloadN C X0 10 rfl d2_9 rfl rfl ?_
  refine go_iloadN C X0 11 rfl d2_10 rfl ?_
  refine go_iaload C X0 A1 (by decide) (v := (.int x0)) rfl (pc' := 12) rfl d2_11 ?_
  refine go_iloadN C X0 13 rfl d2_12 rfl ?_
  refine go_aloadN C X0 14 rfl d2_13 rfl rfl ?_
  refine go_alen C X0 A1 (z := (2 : Int32)) rfl (pc' := 15) rfl d2_14 ?_
  refine go_isub C X0 16 rfl d2_15 ?_
  refine go_iloadN C X0 17 rfl d2_16 rfl ?_
  refine go_iadd C X0 18 rfl d2_17 ?_
  refine go_icmp_ne C X0 d2_18 (pc' := 21) (pc2 := 27) rfl (by decide) (by decide) (fun (c18 : ¬ x0 = ((n1 - (2 : Int32)) + (0 : Int32))) => ?_) (fun (c18 : x0 = ((n1 - (2 : Int32)) + (0 : Int32))) => False.elim (q0 c18))
  refine go_iloadN C X0 28 rfl d2_27 rfl ?_
  refine go_if_ge C X0 d2_28 (pc' := 31) (pc2 := 33) rfl (by decide) (by decide) (fun (c28 : 0 ≤ 0) => ?_) (fun (c28 : 0 < 0) => False.elim (by first | omega | exact absurd c28 (by decide)))
  refine go_aloadN C X0 34 rfl d2_33 rfl rfl ?_
  refine go_iloadN C X0 35 rfl d2_34 rfl ?_
  refine go_dup2 C X0 36 rfl d2_35 rfl rfl ?_
  refine go_iaload C X0 A1 (by decide) (v := (.int x0)) rfl (pc' := 37) rfl d2_36 ?_
  refine go_iconst C X0 38 rfl d2_37 (z := 1) rfl ?_
  refine go_iadd C X0 39 rfl d2_38 ?_
  refine go_iastore C X0 A1 (by decide) (by show _ < (2 : Int); decide) gb (pc' := 40) rfl d2_39 (fun T1 h3 W4 A5 X2 => ?_)
  have K6 := (Keep.refl h [b]).wr W4 (Or.inl (List.mem_of_getElem? (i := 0) rfl))
  replace A5 : La Z h3 b .int ([(.int (x0 + (1 : Int32))), (.int x1)]) := A5
  refine go_iloadN C X2 41 rfl d2_40 rfl ?_
  refine go_iconst C X2 42 rfl d2_41 (z := 1) rfl ?_
  refine go_iaddL C X2 43 rfl d2_42 (z := (1)) rfl ?_
  refine go_istoreN C X2 44 rfl d2_43 #[rv b, iv n1, iv (0 : Int32), iv (1 : Int32)] rfl ?_
  refine go_iloadN C X2 45 rfl d2_44 rfl ?_
  refine go_aloadN C X2 46 rfl d2_45 rfl rfl ?_
  refine go_alen C X2 A5 (z := (2 : Int32)) rfl (pc' := 47) rfl d2_46 ?_
  refine go_icmp_ge C X2 d2_47 (pc' := 50) (pc2 := 66) rfl (by decide) (by decide) (fun (c47 : 2 ≤ 1) => False.elim (by first | omega | exact absurd c47 (by decide))) (fun (c47 : 1 < 2) => ?_)
  refine go_aloadN C X2 51 rfl d2_50 rfl rfl ?_
  refine go_iloadN C X2 52 rfl d2_51 rfl ?_
  refine go_aloadN C X2 53 rfl d2_52 rfl rfl ?_
  refine go_iloadN C X2 54 rfl d2_53 rfl ?_
  refine go_iconst C X2 55 rfl d2_54 (z := 1) rfl ?_
  refine go_isubL C X2 56 rfl d2_55 (z := (0)) rfl ?_
  refine go_iaload C X2 A5 (by decide) (v := (.int (x0 + (1 : Int32)))) rfl (pc' := 57) rfl d2_56 ?_
  refine go_iconst C X2 58 rfl d2_57 (z := 1) rfl ?_
  refine go_iadd C X2 59 rfl d2_58 ?_
  refine go_iastore C X2 A5 (by decide) (by show _ < (2 : Int); decide) gb (pc' := 60) rfl d2_59 (fun T7 h9 W10 A11 X8 => ?_)
  have K12 := K6.wr W10 (Or.inl (List.mem_of_getElem? (i := 0) rfl))
  replace A11 : La Z h9 b .int ([(.int (x0 + (1 : Int32))), (.int ((x0 + (1 : Int32)) + (1 : Int32)))]) := A11
  refine go_iinc C X8 63 rfl d2_60 rfl (z := 1) rfl #[rv b, iv n1, iv (0 : Int32), iv (2 : Int32)] rfl ?_
  refine go_goto C X8 d2_63 (pc' := 44) (by decide) (by decide) ?_
  refine go_iloadN C X8 45 rfl d2_44 rfl ?_
  refine go_aloadN C X8 46 rfl d2_45 rfl rfl ?_
  refine go_alen C X8 A11 (z := (2 : Int32)) rfl (pc' := 47) rfl d2_46 ?_
  refine go_icmp_ge C X8 d2_47 (pc' := 50) (pc2 := 66) rfl (by decide) (by decide) (fun (c47 : 2 ≤ 2) => ?_) (fun (c47 : 2 < 2) => False.elim (by first | omega | exact absurd c47 (by decide)))
  refine go_iconst C X8 67 rfl d2_66 (z := 1) rfl ?_
  exact go_retN C X8 (by simp) (z' := 1) rfl d2_67 ⟨rfl, K12, A11⟩ (by decide) (by decide)
theorem ef_own_next_2_2 (m : MethodId) (b : Addr) (n1 : Int32) : entryFrame m #[(.ref b), (.int n1)] 4 = mkF m 0 #[rv b, iv n1, un, un] [] := by first | (simp [entryFrame, mkF, argsToLocals, Value.category]; done) | rfl
set_option maxRecDepth 65536 in
set_option maxHeartbeats 40000000 in
theorem own_next_2_2 (l : Launch) (Z : State) (a0 : Array Value) (hw : ∀ d ∈ tables_1, d.before a0 Z = true) (b : Addr) (n1 : Int32) (x0 x1 : Int32) (h : Heap) (n0 : Nat) (hn0 : Old Z n0 h) (A1 : La Z h b .int [.int x0, .int x1]) (gb : n0 ≤ b) (q1 : ¬ x1 = n1 - 2 + 1) :
    Con l Z (⟨"com/example/covertide/covertide/engine/Subsets", "next", "([II)Z"⟩ : MethodName) prog_11_method_3_code 4 (some .boolean) ({ frames := 0, cells := 0, slots := 0, locals := 0 } : Room) #[(.ref b), (.int n1)] h n0 (fun v h' => v = some (.int 1) ∧ Keep h h' [b] ∧ La Z h' b .int [.int x0, .int (x1 + 1)]) := by
  refine con_of hw (plainFor_of_name pn_com_example_covertide_covertide_engine_Subsets) hn0 ?_
  intro p e s m below meth c T0 C X0
  refine Go.cast (congrArg T0.setTop (ef_own_next_2_2 m b n1)) ?_
  refine go_aloadN C X0 1 rfl d2_0 rfl rfl ?_
  refine go_alen C X0 A1 (z := (2 : Int32)) rfl (pc' := 2) rfl d2_1 ?_
  refine go_iconst C X0 3 rfl d2_2 (z := 1) rfl ?_
  refine go_isubL C X0 4 rfl d2_3 (z := (1)) rfl ?_
  refine go_istoreN C X0 5 rfl d2_4 #[rv b, iv n1, iv (1 : Int32), un] rfl ?_
  refine go_iloadN C X0 6 rfl d2_5 rfl ?_
  refine go_if_lt C X0 d2_6 (pc' := 9) (pc2 := 27) rfl (by decide) (by decide) (fun (c6 : 1 < 0) => False.elim (by first | omega | exact absurd c6 (by decide))) (fun (c6 : 0 ≤ 1) => ?_)
  refine go_aloadN C X0 10 rfl d2_9 rfl rfl ?_
  refine go_iloadN C X0 11 rfl d2_10 rfl ?_
  refine go_iaload C X0 A1 (by decide) (v := (.int x1)) rfl (pc' := 12) rfl d2_11 ?_
  refine go_iloadN C X0 13 rfl d2_12 rfl ?_
  refine go_aloadN C X0 14 rfl d2_13 rfl rfl ?_
  refine go_alen C X0 A1 (z := (2 : Int32)) rfl (pc' := 15) rfl d2_14 ?_
  refine go_isub C X0 16 rfl d2_15 ?_
  refine go_iloadN C X0 17 rfl d2_16 rfl ?_
  refine go_iadd C X0 18 rfl d2_17 ?_
  refine go_icmp_ne C X0 d2_18 (pc' := 21) (pc2 := 27) rfl (by decide) (by decide) (fun (c18 : ¬ x1 = ((n1 - (2 : Int32)) + (1 : Int32))) => ?_) (fun (c18 : x1 = ((n1 - (2 : Int32)) + (1 : Int32))) => False.elim (q1 c18))
  refine go_iloadN C X0 28 rfl d2_27 rfl ?_
  refine go_if_ge C X0 d2_28 (pc' := 31) (pc2 := 33) rfl (by decide) (by decide) (fun (c28 : 0 ≤ 1) => ?_) (fun (c28 : 1 < 0) => False.elim (by first | omega | exact absurd c28 (by decide)))
  refine go_aloadN C X0 34 rfl d2_33 rfl rfl ?_
  refine go_iloadN C X0 35 rfl d2_34 rfl ?_
  refine go_dup2 C X0 36 rfl d2_35 rfl rfl ?_
  refine go_iaload C X0 A1 (by decide) (v := (.int x1)) rfl (pc' := 37) rfl d2_36 ?_
  refine go_iconst C X0 38 rfl d2_37 (z := 1) rfl ?_
  refine go_iadd C X0 39 rfl d2_38 ?_
  refine go_iastore C X0 A1 (by decide) (by show _ < (2 : Int); decide) gb (pc' := 40) rfl d2_39 (fun T1 h3 W4 A5 X2 => ?_)
  have K6 := (Keep.refl h [b]).wr W4 (Or.inl (List.mem_of_getElem? (i := 0) rfl))
  replace A5 : La Z h3 b .int ([(.int x0), (.int (x1 + (1 : Int32)))]) := A5
  refine go_iloadN C X2 41 rfl d2_40 rfl ?_
  refine go_iconst C X2 42 rfl d2_41 (z := 1) rfl ?_
  refine go_iaddL C X2 43 rfl d2_42 (z := (2)) rfl ?_
  refine go_istoreN C X2 44 rfl d2_43 #[rv b, iv n1, iv (1 : Int32), iv (2 : Int32)] rfl ?_
  refine go_iloadN C X2 45 rfl d2_44 rfl ?_
  refine go_aloadN C X2 46 rfl d2_45 rfl rfl ?_
  refine go_alen C X2 A5 (z := (2 : Int32)) rfl (pc' := 47) rfl d2_46 ?_
  refine go_icmp_ge C X2 d2_47 (pc' := 50) (pc2 := 66) rfl (by decide) (by decide) (fun (c47 : 2 ≤ 2) => ?_) (fun (c47 : 2 < 2) => False.elim (by first | omega | exact absurd c47 (by decide)))
  refine go_iconst C X2 67 rfl d2_66 (z := 1) rfl ?_
  exact go_retN C X2 (by simp) (z' := 1) rfl d2_67 ⟨rfl, K6, A5⟩ (by decide) (by decide)
theorem ef_own_next_3_0 (m : MethodId) (b : Addr) (n1 : Int32) : entryFrame m #[(.ref b), (.int n1)] 4 = mkF m 0 #[rv b, iv n1, un, un] [] := by first | (simp [entryFrame, mkF, argsToLocals, Value.category]; done) | rfl
set_option maxRecDepth 65536 in
set_option maxHeartbeats 40000000 in
theorem own_next_3_0 (l : Launch) (Z : State) (a0 : Array Value) (hw : ∀ d ∈ tables_1, d.before a0 Z = true) (b : Addr) (n1 : Int32) (x0 x1 x2 : Int32) (h : Heap) (n0 : Nat) (hn0 : Old Z n0 h) (A1 : La Z h b .int [.int x0, .int x1, .int x2]) (gb : n0 ≤ b) (q0 : x0 = n1 - 3 + 0) (q1 : x1 = n1 - 3 + 1) (q2 : x2 = n1 - 3 + 2) :
    Con l Z (⟨"com/example/covertide/covertide/engine/Subsets", "next", "([II)Z"⟩ : MethodName) prog_11_method_3_code 4 (some .boolean) ({ frames := 0, cells := 0, slots := 0, locals := 0 } : Room) #[(.ref b), (.int n1)] h n0 (fun v h' => v = some (.int 0) ∧ Keep h h' [b] ∧ La Z h' b .int [.int x0, .int x1, .int x2]) := by
  refine con_of hw (plainFor_of_name pn_com_example_covertide_covertide_engine_Subsets) hn0 ?_
  intro p e s m below meth c T0 C X0
  refine Go.cast (congrArg T0.setTop (ef_own_next_3_0 m b n1)) ?_
  refine go_aloadN C X0 1 rfl d2_0 rfl rfl ?_
  refine go_alen C X0 A1 (z := (3 : Int32)) rfl (pc' := 2) rfl d2_1 ?_
  refine go_iconst C X0 3 rfl d2_2 (z := 1) rfl ?_
  refine go_isubL C X0 4 rfl d2_3 (z := (2)) rfl ?_
  refine go_istoreN C X0 5 rfl d2_4 #[rv b, iv n1, iv (2 : Int32), un] rfl ?_
  refine go_iloadN C X0 6 rfl d2_5 rfl ?_
  refine go_if_lt C X0 d2_6 (pc' := 9) (pc2 := 27) rfl (by decide) (by decide) (fun (c6 : 2 < 0) => False.elim (by first | omega | exact absurd c6 (by decide))) (fun (c6 : 0 ≤ 2) => ?_)
  refine go_aloadN C X0 10 rfl d2_9 rfl rfl ?_
  refine go_iloadN C X0 11 rfl d2_10 rfl ?_
  refine go_iaload C X0 A1 (by decide) (v := (.int x2)) rfl (pc' := 12) rfl d2_11 ?_
  refine go_iloadN C X0 13 rfl d2_12 rfl ?_
  refine go_aloadN C X0 14 rfl d2_13 rfl rfl ?_
  refine go_alen C X0 A1 (z := (3 : Int32)) rfl (pc' := 15) rfl d2_14 ?_
  refine go_isub C X0 16 rfl d2_15 ?_
  refine go_iloadN C X0 17 rfl d2_16 rfl ?_
  refine go_iadd C X0 18 rfl d2_17 ?_
  refine go_icmp_ne C X0 d2_18 (pc' := 21) (pc2 := 27) rfl (by decide) (by decide) (fun (c18 : ¬ x2 = ((n1 - (3 : Int32)) + (2 : Int32))) => False.elim (c18 q2)) (fun (c18 : x2 = ((n1 - (3 : Int32)) + (2 : Int32))) => ?_)
  refine go_iinc C X0 24 rfl d2_21 rfl (z := (-1)) rfl #[rv b, iv n1, iv (1 : Int32), un] rfl ?_
  refine go_goto C X0 d2_24 (pc' := 5) (by decide) (by decide) ?_
  refine go_iloadN C X0 6 rfl d2_5 rfl ?_
  refine go_if_lt C X0 d2_6 (pc' := 9) (pc2 := 27) rfl (by decide) (by decide) (fun (c6 : 1 < 0) => False.elim (by first | omega | exact absurd c6 (by decide))) (fun (c6 : 0 ≤ 1) => ?_)
  refine go_aloadN C X0 10 rfl d2_9 rfl rfl ?_
  refine go_iloadN C X0 11 rfl d2_10 rfl ?_
  refine go_iaload C X0 A1 (by decide) (v := (.int x1)) rfl (pc' := 12) rfl d2_11 ?_
  refine go_iloadN C X0 13 rfl d2_12 rfl ?_
  refine go_aloadN C X0 14 rfl d2_13 rfl rfl ?_
  refine go_alen C X0 A1 (z := (3 : Int32)) rfl (pc' := 15) rfl d2_14 ?_
  refine go_isub C X0 16 rfl d2_15 ?_
  refine go_iloadN C X0 17 rfl d2_16 rfl ?_
  refine go_iadd C X0 18 rfl d2_17 ?_
  refine go_icmp_ne C X0 d2_18 (pc' := 21) (pc2 := 27) rfl (by decide) (by decide) (fun (c18 : ¬ x1 = ((n1 - (3 : Int32)) + (1 : Int32))) => False.elim (c18 q1)) (fun (c18 : x1 = ((n1 - (3 : Int32)) + (1 : Int32))) => ?_)
  refine go_iinc C X0 24 rfl d2_21 rfl (z := (-1)) rfl #[rv b, iv n1, iv (0 : Int32), un] rfl ?_
  refine go_goto C X0 d2_24 (pc' := 5) (by decide) (by decide) ?_
  refine go_iloadN C X0 6 rfl d2_5 rfl ?_
  refine go_if_lt C X0 d2_6 (pc' := 9) (pc2 := 27) rfl (by decide) (by decide) (fun (c6 : 0 < 0) => False.elim (by first | omega | exact absurd c6 (by decide))) (fun (c6 : 0 ≤ 0) => ?_)
  refine go_aloadN C X0 10 rfl d2_9 rfl rfl ?_
  refine go_iloadN C X0 11 rfl d2_10 rfl ?_
  refine go_iaload C X0 A1 (by decide) (v := (.int x0)) rfl (pc' := 12) rfl d2_11 ?_
  refine go_iloadN C X0 13 rfl d2_12 rfl ?_
  refine go_aloadN C X0 14 rfl d2_13 rfl rfl ?_
  refine go_alen C X0 A1 (z := (3 : Int32)) rfl (pc' := 15) rfl d2_14 ?_
  refine go_isub C X0 16 rfl d2_15 ?_
  refine go_iloadN C X0 17 rfl d2_16 rfl ?_
  refine go_iadd C X0 18 rfl d2_17 ?_
  refine go_icmp_ne C X0 d2_18 (pc' := 21) (pc2 := 27) rfl (by decide) (by decide) (fun (c18 : ¬ x0 = ((n1 - (3 : Int32)) + (0 : Int32))) => False.elim (c18 q0)) (fun (c18 : x0 = ((n1 - (3 : Int32)) + (0 : Int32))) => ?_)
  refine go_iinc C X0 24 rfl d2_21 rfl (z := (-1)) rfl #[rv b, iv n1, iv (-1 : Int32), un] rfl ?_
  refine go_goto C X0 d2_24 (pc' := 5) (by decide) (by decide) ?_
  refine go_iloadN C X0 6 rfl d2_5 rfl ?_
  refine go_if_lt C X0 d2_6 (pc' := 9) (pc2 := 27) rfl (by decide) (by decide) (fun (c6 : (-1) < 0) => ?_) (fun (c6 : 0 ≤ (-1)) => False.elim (by first | omega | exact absurd c6 (by decide)))
  refine go_iloadN C X0 28 rfl d2_27 rfl ?_
  refine go_if_ge C X0 d2_28 (pc' := 31) (pc2 := 33) rfl (by decide) (by decide) (fun (c28 : 0 ≤ (-1)) => False.elim (by first | omega | exact absurd c28 (by decide))) (fun (c28 : (-1) < 0) => ?_)
  refine go_iconst C X0 32 rfl d2_31 (z := 0) rfl ?_
  exact go_retN C X0 (by simp) (z' := 0) rfl d2_32 ⟨rfl, (Keep.refl h [b]), A1⟩ (by decide) (by decide)
theorem ef_own_next_3_1 (m : MethodId) (b : Addr) (n1 : Int32) : entryFrame m #[(.ref b), (.int n1)] 4 = mkF m 0 #[rv b, iv n1, un, un] [] := by first | (simp [entryFrame, mkF, argsToLocals, Value.category]; done) | rfl
set_option maxRecDepth 65536 in
set_option maxHeartbeats 40000000 in
theorem own_next_3_1 (l : Launch) (Z : State) (a0 : Array Value) (hw : ∀ d ∈ tables_1, d.before a0 Z = true) (b : Addr) (n1 : Int32) (x0 x1 x2 : Int32) (h : Heap) (n0 : Nat) (hn0 : Old Z n0 h) (A1 : La Z h b .int [.int x0, .int x1, .int x2]) (gb : n0 ≤ b) (q0 : ¬ x0 = n1 - 3 + 0) (q1 : x1 = n1 - 3 + 1) (q2 : x2 = n1 - 3 + 2) :
    Con l Z (⟨"com/example/covertide/covertide/engine/Subsets", "next", "([II)Z"⟩ : MethodName) prog_11_method_3_code 4 (some .boolean) ({ frames := 0, cells := 0, slots := 0, locals := 0 } : Room) #[(.ref b), (.int n1)] h n0 (fun v h' => v = some (.int 1) ∧ Keep h h' [b] ∧ La Z h' b .int [.int (x0 + 1), .int ((x0 + 1) + 1), .int (((x0 + 1) + 1) + 1)]) := by
  refine con_of hw (plainFor_of_name pn_com_example_covertide_covertide_engine_Subsets) hn0 ?_
  intro p e s m below meth c T0 C X0
  refine Go.cast (congrArg T0.setTop (ef_own_next_3_1 m b n1)) ?_
  refine go_aloadN C X0 1 rfl d2_0 rfl rfl ?_
  refine go_alen C X0 A1 (z := (3 : Int32)) rfl (pc' := 2) rfl d2_1 ?_
  refine go_iconst C X0 3 rfl d2_2 (z := 1) rfl ?_
  refine go_isubL C X0 4 rfl d2_3 (z := (2)) rfl ?_
  refine go_istoreN C X0 5 rfl d2_4 #[rv b, iv n1, iv (2 : Int32), un] rfl ?_
  refine go_iloadN C X0 6 rfl d2_5 rfl ?_
  refine go_if_lt C X0 d2_6 (pc' := 9) (pc2 := 27) rfl (by decide) (by decide) (fun (c6 : 2 < 0) => False.elim (by first | omega | exact absurd c6 (by decide))) (fun (c6 : 0 ≤ 2) => ?_)
  refine go_aloadN C X0 10 rfl d2_9 rfl rfl ?_
  refine go_iloadN C X0 11 rfl d2_10 rfl ?_
  refine go_iaload C X0 A1 (by decide) (v := (.int x2)) rfl (pc' := 12) rfl d2_11 ?_
  refine go_iloadN C X0 13 rfl d2_12 rfl ?_
  refine go_aloadN C X0 14 rfl d2_13 rfl rfl ?_
  refine go_alen C X0 A1 (z := (3 : Int32)) rfl (pc' := 15) rfl d2_14 ?_
  refine go_isub C X0 16 rfl d2_15 ?_
  refine go_iloadN C X0 17 rfl d2_16 rfl ?_
  refine go_iadd C X0 18 rfl d2_17 ?_
  refine go_icmp_ne C X0 d2_18 (pc' := 21) (pc2 := 27) rfl (by decide) (by decide) (fun (c18 : ¬ x2 = ((n1 - (3 : Int32)) + (2 : Int32))) => False.elim (c18 q2)) (fun (c18 : x2 = ((n1 - (3 : Int32)) + (2 : Int32))) => ?_)
  refine go_iinc C X0 24 rfl d2_21 rfl (z := (-1)) rfl #[rv b, iv n1, iv (1 : Int32), un] rfl ?_
  refine go_goto C X0 d2_24 (pc' := 5) (by decide) (by decide) ?_
  refine go_iloadN C X0 6 rfl d2_5 rfl ?_
  refine go_if_lt C X0 d2_6 (pc' := 9) (pc2 := 27) rfl (by decide) (by decide) (fun (c6 : 1 < 0) => False.elim (by first | omega | exact absurd c6 (by decide))) (fun (c6 : 0 ≤ 1) => ?_)
  refine go_aloadN C X0 10 rfl d2_9 rfl rfl ?_
  refine go_iloadN C X0 11 rfl d2_10 rfl ?_
  refine go_iaload C X0 A1 (by decide) (v := (.int x1)) rfl (pc' := 12) rfl d2_11 ?_
  refine go_iloadN C X0 13 rfl d2_12 rfl ?_
  refine go_aloadN C X0 14 rfl d2_13 rfl rfl ?_
  refine go_alen C X0 A1 (z := (3 : Int32)) rfl (pc' := 15) rfl d2_14 ?_
  refine go_isub C X0 16 rfl d2_15 ?_
  refine go_iloadN C X0 17 rfl d2_16 rfl ?_
  refine go_iadd C X0 18 rfl d2_17 ?_
  refine go_icmp_ne C X0 d2_18 (pc' := 21) (pc2 := 27) rfl (by decide) (by decide) (fun (c18 : ¬ x1 = ((n1 - (3 : Int32)) + (1 : Int32))) => False.elim (c18 q1)) (fun (c18 : x1 = ((n1 - (3 : Int32)) + (1 : Int32))) => ?_)
  refine go_iinc C X0 24 rfl d2_21 rfl (z := (-1)) rfl #[rv b, iv n1, iv (0 : Int32), un] rfl ?_
  refine go_goto C X0 d2_24 (pc' := 5) (by decide) (by decide) ?_
  refine go_iloadN C X0 6 rfl d2_5 rfl ?_
  refine go_if_lt C X0 d2_6 (pc' := 9) (pc2 := 27) rfl (by decide) (by decide) (fun (c6 : 0 < 0) => False.elim (by first | omega | exact absurd c6 (by decide))) (fun (c6 : 0 ≤ 0) => ?_)
  refine go_aloadN C X0 10 rfl d2_9 rfl rfl ?_
  refine go_iloadN C X0 11 rfl d2_10 rfl ?_
  refine go_iaload C X0 A1 (by decide) (v := (.int x0)) rfl (pc' := 12) rfl d2_11 ?_
  refine go_iloadN C X0 13 rfl d2_12 rfl ?_
  refine go_aloadN C X0 14 rfl d2_13 rfl rfl ?_
  refine go_alen C X0 A1 (z := (3 : Int32)) rfl (pc' := 15) rfl d2_14 ?_
  refine go_isub C X0 16 rfl d2_15 ?_
  refine go_iloadN C X0 17 rfl d2_16 rfl ?_
  refine go_iadd C X0 18 rfl d2_17 ?_
  refine go_icmp_ne C X0 d2_18 (pc' := 21) (pc2 := 27) rfl (by decide) (by decide) (fun (c18 : ¬ x0 = ((n1 - (3 : Int32)) + (0 : Int32))) => ?_) (fun (c18 : x0 = ((n1 - (3 : Int32)) + (0 : Int32))) => False.elim (q0 c18))
  refine go_iloadN C X0 28 rfl d2_27 rfl ?_
  refine go_if_ge C X0 d2_28 (pc' := 31) (pc2 := 33) rfl (by decide) (by decide) (fun (c28 : 0 ≤ 0) => ?_) (fun (c28 : 0 < 0) => False.elim (by first | omega | exact absurd c28 (by decide)))
  refine go_aloadN C X0 34 rfl d2_33 rfl rfl ?_
  refine go_iloadN C X0 35 rfl d2_34 rfl ?_
  refine go_dup2 C X0 36 rfl d2_35 rfl rfl ?_
  refine go_iaload C X0 A1 (by decide) (v := (.int x0)) rfl (pc' := 37) rfl d2_36 ?_
  refine go_iconst C X0 38 rfl d2_37 (z := 1) rfl ?_
  refine go_iadd C X0 39 rfl d2_38 ?_
  refine go_iastore C X0 A1 (by decide) (by show _ < (3 : Int); decide) gb (pc' := 40) rfl d2_39 (fun T1 h3 W4 A5 X2 => ?_)
  have K6 := (Keep.refl h [b]).wr W4 (Or.inl (List.mem_of_getElem? (i := 0) rfl))
  replace A5 : La Z h3 b .int ([(.int (x0 + (1 : Int32))), (.int x1), (.int x2)]) := A5
  refine go_iloadN C X2 41 rfl d2_40 rfl ?_
  refine go_iconst C X2 42 rfl d2_41 (z := 1) rfl ?_
  refine go_iaddL C X2 43 rfl d2_42 (z := (1)) rfl ?_
  refine go_istoreN C X2 44 rfl d2_43 #[rv b, iv n1, iv (0 : Int32), iv (1 : Int32)] rfl ?_
  refine go_iloadN C X2 45 rfl d2_44 rfl ?_
  refine go_aloadN C X2 46 rfl d2_45 rfl rfl ?_
  refine go_alen C X2 A5 (z := (3 : Int32)) rfl (pc' := 47) rfl d2_46 ?_
  refine go_icmp_ge C X2 d2_47 (pc' := 50) (pc2 := 66) rfl (by decide) (by decide) (fun (c47 : 3 ≤ 1) => False.elim (by first | omega | exact absurd c47 (by decide))) (fun (c47 : 1 < 3) => ?_)
  refine go_aloadN C X2 51 rfl d2_50 rfl rfl ?_
  refine go_iloadN C X2 52 rfl d2_51 rfl ?_
  refine go_aloadN C X2 53 rfl d2_52 rfl rfl ?_
  refine go_iloadN C X2 54 rfl d2_53 rfl ?_
  refine go_iconst C X2 55 rfl d2_54 (z := 1) rfl ?_
  refine go_isubL C X2 56 rfl d2_55 (z := (0)) rfl ?_
  refine go_iaload C X2 A5 (by decide) (v := (.int (x0 + (1 : Int32)))) rfl (pc' := 57) rfl d2_56 ?_
  refine go_iconst C X2 58 rfl d2_57 (z := 1) rfl ?_
  refine go_iadd C X2 59 rfl d2_58 ?_
  refine go_iastore C X2 A5 (by decide) (by show _ < (3 : Int); decide) gb (pc' := 60) rfl d2_59 (fun T7 h9 W10 A11 X8 => ?_)
  have K12 := K6.wr W10 (Or.inl (List.mem_of_getElem? (i := 0) rfl))
  replace A11 : La Z h9 b .int ([(.int (x0 + (1 : Int32))), (.int ((x0 + (1 : Int32)) + (1 : Int32))), (.int x2)]) := A11
  refine go_iinc C X8 63 rfl d2_60 rfl (z := 1) rfl #[rv b, iv n1, iv (0 : Int32), iv (2 : Int32)] rfl ?_
  refine go_goto C X8 d2_63 (pc' := 44) (by decide) (by decide) ?_
  refine go_iloadN C X8 45 rfl d2_44 rfl ?_
  refine go_aloadN C X8 46 rfl d2_45 rfl rfl ?_
  refine go_alen C X8 A11 (z := (3 : Int32)) rfl (pc' := 47) rfl d2_46 ?_
  refine go_icmp_ge C X8 d2_47 (pc' := 50) (pc2 := 66) rfl (by decide) (by decide) (fun (c47 : 3 ≤ 2) => False.elim (by first | omega | exact absurd c47 (by decide))) (fun (c47 : 2 < 3) => ?_)
  refine go_aloadN C X8 51 rfl d2_50 rfl rfl ?_
  refine go_iloadN C X8 52 rfl d2_51 rfl ?_
  refine go_aloadN C X8 53 rfl d2_52 rfl rfl ?_
  refine go_iloadN C X8 54 rfl d2_53 rfl ?_
  refine go_iconst C X8 55 rfl d2_54 (z := 1) rfl ?_
  refine go_isubL C X8 56 rfl d2_55 (z := (1)) rfl ?_
  refine go_iaload C X8 A11 (by decide) (v := (.int ((x0 + (1 : Int32)) + (1 : Int32)))) rfl (pc' := 57) rfl d2_56 ?_
  refine go_iconst C X8 58 rfl d2_57 (z := 1) rfl ?_
  refine go_iadd C X8 59 rfl d2_58 ?_
  refine go_iastore C X8 A11 (by decide) (by show _ < (3 : Int); decide) gb (pc' := 60) rfl d2_59 (fun T13 h15 W16 A17 X14 => ?_)
  have K18 := K12.wr W16 (Or.inl (List.mem_of_getElem? (i := 0) rfl))
  replace A17 : La Z h15 b .int ([(.int (x0 + (1 : Int32))), (.int ((x0 + (1 : Int32)) + (1 : Int32))), (.int (((x0 + (1 : Int32)) + (1 : Int32)) + (1 : Int32)))]) := A17
  refine go_iinc C X14 63 rfl d2_60 rfl (z := 1) rfl #[rv b, iv n1, iv (0 : Int32), iv (3 : Int32)] rfl ?_
  refine go_goto C X14 d2_63 (pc' := 44) (by decide) (by decide) ?_
  refine go_iloadN C X14 45 rfl d2_44 rfl ?_
  refine go_aloadN C X14 46 rfl d2_45 rfl rfl ?_
  refine go_alen C X14 A17 (z := (3 : Int32)) rfl (pc' := 47) rfl d2_46 ?_
  refine go_icmp_ge C X14 d2_47 (pc' := 50) (pc2 := 66) rfl (by decide) (by decide) (fun (c47 : 3 ≤ 3) => ?_) (fun (c47 : 3 < 3) => False.elim (by first | omega | exact absurd c47 (by decide)))
  refine go_iconst C X14 67 rfl d2_66 (z := 1) rfl ?_
  exact go_retN C X14 (by simp) (z' := 1) rfl d2_67 ⟨rfl, K18, A17⟩ (by decide) (by decide)
theorem ef_own_next_3_2 (m : MethodId) (b : Addr) (n1 : Int32) : entryFrame m #[(.ref b), (.int n1)] 4 = mkF m 0 #[rv b, iv n1, un, un] [] := by first | (simp [entryFrame, mkF, argsToLocals, Value.category]; done) | rfl
set_option maxRecDepth 65536 in
set_option maxHeartbeats 40000000 in
theorem own_next_3_2 (l : Launch) (Z : State) (a0 : Array Value) (hw : ∀ d ∈ tables_1, d.before a0 Z = true) (b : Addr) (n1 : Int32) (x0 x1 x2 : Int32) (h : Heap) (n0 : Nat) (hn0 : Old Z n0 h) (A1 : La Z h b .int [.int x0, .int x1, .int x2]) (gb : n0 ≤ b) (q1 : ¬ x1 = n1 - 3 + 1) (q2 : x2 = n1 - 3 + 2) :
    Con l Z (⟨"com/example/covertide/covertide/engine/Subsets", "next", "([II)Z"⟩ : MethodName) prog_11_method_3_code 4 (some .boolean) ({ frames := 0, cells := 0, slots := 0, locals := 0 } : Room) #[(.ref b), (.int n1)] h n0 (fun v h' => v = some (.int 1) ∧ Keep h h' [b] ∧ La Z h' b .int [.int x0, .int (x1 + 1), .int ((x1 + 1) + 1)]) := by
  refine con_of hw (plainFor_of_name pn_com_example_covertide_covertide_engine_Subsets) hn0 ?_
  intro p e s m below meth c T0 C X0
  refine Go.cast (congrArg T0.setTop (ef_own_next_3_2 m b n1)) ?_
  refine go_aloadN C X0 1 rfl d2_0 rfl rfl ?_
  refine go_alen C X0 A1 (z := (3 : Int32)) rfl (pc' := 2) rfl d2_1 ?_
  refine go_iconst C X0 3 rfl d2_2 (z := 1) rfl ?_
  refine go_isubL C X0 4 rfl d2_3 (z := (2)) rfl ?_
  refine go_istoreN C X0 5 rfl d2_4 #[rv b, iv n1, iv (2 : Int32), un] rfl ?_
  refine go_iloadN C X0 6 rfl d2_5 rfl ?_
  refine go_if_lt C X0 d2_6 (pc' := 9) (pc2 := 27) rfl (by decide) (by decide) (fun (c6 : 2 < 0) => False.elim (by first | omega | exact absurd c6 (by decide))) (fun (c6 : 0 ≤ 2) => ?_)
  refine go_aloadN C X0 10 rfl d2_9 rfl rfl ?_
  refine go_iloadN C X0 11 rfl d2_10 rfl ?_
  refine go_iaload C X0 A1 (by decide) (v := (.int x2)) rfl (pc' := 12) rfl d2_11 ?_
  refine go_iloadN C X0 13 rfl d2_12 rfl ?_
  refine go_aloadN C X0 14 rfl d2_13 rfl rfl ?_
  refine go_alen C X0 A1 (z := (3 : Int32)) rfl (pc' := 15) rfl d2_14 ?_
  refine go_isub C X0 16 rfl d2_15 ?_
  refine go_iloadN C X0 17 rfl d2_16 rfl ?_
  refine go_iadd C X0 18 rfl d2_17 ?_
  refine go_icmp_ne C X0 d2_18 (pc' := 21) (pc2 := 27) rfl (by decide) (by decide) (fun (c18 : ¬ x2 = ((n1 - (3 : Int32)) + (2 : Int32))) => False.elim (c18 q2)) (fun (c18 : x2 = ((n1 - (3 : Int32)) + (2 : Int32))) => ?_)
  refine go_iinc C X0 24 rfl d2_21 rfl (z := (-1)) rfl #[rv b, iv n1, iv (1 : Int32), un] rfl ?_
  refine go_goto C X0 d2_24 (pc' := 5) (by decide) (by decide) ?_
  refine go_iloadN C X0 6 rfl d2_5 rfl ?_
  refine go_if_lt C X0 d2_6 (pc' := 9) (pc2 := 27) rfl (by decide) (by decide) (fun (c6 : 1 < 0) => False.elim (by first | omega | exact absurd c6 (by decide))) (fun (c6 : 0 ≤ 1) => ?_)
  refine go_aloadN C X0 10 rfl d2_9 rfl rfl ?_
  refine go_iloadN C X0 11 rfl d2_10 rfl ?_
  refine go_iaload C X0 A1 (by decide) (v := (.int x1)) rfl (pc' := 12) rfl d2_11 ?_
  refine go_iloadN C X0 13 rfl d2_12 rfl ?_
  refine go_aloadN C X0 14 rfl d2_13 rfl rfl ?_
  refine go_alen C X0 A1 (z := (3 : Int32)) rfl (pc' := 15) rfl d2_14 ?_
  refine go_isub C X0 16 rfl d2_15 ?_
  refine go_iloadN C X0 17 rfl d2_16 rfl ?_
  refine go_iadd C X0 18 rfl d2_17 ?_
  refine go_icmp_ne C X0 d2_18 (pc' := 21) (pc2 := 27) rfl (by decide) (by decide) (fun (c18 : ¬ x1 = ((n1 - (3 : Int32)) + (1 : Int32))) => ?_) (fun (c18 : x1 = ((n1 - (3 : Int32)) + (1 : Int32))) => False.elim (q1 c18))
  refine go_iloadN C X0 28 rfl d2_27 rfl ?_
  refine go_if_ge C X0 d2_28 (pc' := 31) (pc2 := 33) rfl (by decide) (by decide) (fun (c28 : 0 ≤ 1) => ?_) (fun (c28 : 1 < 0) => False.elim (by first | omega | exact absurd c28 (by decide)))
  refine go_aloadN C X0 34 rfl d2_33 rfl rfl ?_
  refine go_iloadN C X0 35 rfl d2_34 rfl ?_
  refine go_dup2 C X0 36 rfl d2_35 rfl rfl ?_
  refine go_iaload C X0 A1 (by decide) (v := (.int x1)) rfl (pc' := 37) rfl d2_36 ?_
  refine go_iconst C X0 38 rfl d2_37 (z := 1) rfl ?_
  refine go_iadd C X0 39 rfl d2_38 ?_
  refine go_iastore C X0 A1 (by decide) (by show _ < (3 : Int); decide) gb (pc' := 40) rfl d2_39 (fun T1 h3 W4 A5 X2 => ?_)
  have K6 := (Keep.refl h [b]).wr W4 (Or.inl (List.mem_of_getElem? (i := 0) rfl))
  replace A5 : La Z h3 b .int ([(.int x0), (.int (x1 + (1 : Int32))), (.int x2)]) := A5
  refine go_iloadN C X2 41 rfl d2_40 rfl ?_
  refine go_iconst C X2 42 rfl d2_41 (z := 1) rfl ?_
  refine go_iaddL C X2 43 rfl d2_42 (z := (2)) rfl ?_
  refine go_istoreN C X2 44 rfl d2_43 #[rv b, iv n1, iv (1 : Int32), iv (2 : Int32)] rfl ?_
  refine go_iloadN C X2 45 rfl d2_44 rfl ?_
  refine go_aloadN C X2 46 rfl d2_45 rfl rfl ?_
  refine go_alen C X2 A5 (z := (3 : Int32)) rfl (pc' := 47) rfl d2_46 ?_
  refine go_icmp_ge C X2 d2_47 (pc' := 50) (pc2 := 66) rfl (by decide) (by decide) (fun (c47 : 3 ≤ 2) => False.elim (by first | omega | exact absurd c47 (by decide))) (fun (c47 : 2 < 3) => ?_)
  refine go_aloadN C X2 51 rfl d2_50 rfl rfl ?_
  refine go_iloadN C X2 52 rfl d2_51 rfl ?_
  refine go_aloadN C X2 53 rfl d2_52 rfl rfl ?_
  refine go_iloadN C X2 54 rfl d2_53 rfl ?_
  refine go_iconst C X2 55 rfl d2_54 (z := 1) rfl ?_
  refine go_isubL C X2 56 rfl d2_55 (z := (1)) rfl ?_
  refine go_iaload C X2 A5 (by decide) (v := (.int (x1 + (1 : Int32)))) rfl (pc' := 57) rfl d2_56 ?_
  refine go_iconst C X2 58 rfl d2_57 (z := 1) rfl ?_
  refine go_iadd C X2 59 rfl d2_58 ?_
  refine go_iastore C X2 A5 (by decide) (by show _ < (3 : Int); decide) gb (pc' := 60) rfl d2_59 (fun T7 h9 W10 A11 X8 => ?_)
  have K12 := K6.wr W10 (Or.inl (List.mem_of_getElem? (i := 0) rfl))
  replace A11 : La Z h9 b .int ([(.int x0), (.int (x1 + (1 : Int32))), (.int ((x1 + (1 : Int32)) + (1 : Int32)))]) := A11
  refine go_iinc C X8 63 rfl d2_60 rfl (z := 1) rfl #[rv b, iv n1, iv (1 : Int32), iv (3 : Int32)] rfl ?_
  refine go_goto C X8 d2_63 (pc' := 44) (by decide) (by decide) ?_
  refine go_iloadN C X8 45 rfl d2_44 rfl ?_
  refine go_aloadN C X8 46 rfl d2_45 rfl rfl ?_
  refine go_alen C X8 A11 (z := (3 : Int32)) rfl (pc' := 47) rfl d2_46 ?_
  refine go_icmp_ge C X8 d2_47 (pc' := 50) (pc2 := 66) rfl (by decide) (by decide) (fun (c47 : 3 ≤ 3) => ?_) (fun (c47 : 3 < 3) => False.elim (by first | omega | exact absurd c47 (by decide)))
  refine go_iconst C X8 67 rfl d2_66 (z := 1) rfl ?_
  exact go_retN C X8 (by simp) (z' := 1) rfl d2_67 ⟨rfl, K12, A11⟩ (by decide) (by decide)
theorem ef_own_next_3_3 (m : MethodId) (b : Addr) (n1 : Int32) : entryFrame m #[(.ref b), (.int n1)] 4 = mkF m 0 #[rv b, iv n1, un, un] [] := by first | (simp [entryFrame, mkF, argsToLocals, Value.category]; done) | rfl
set_option maxRecDepth 65536 in
set_option maxHeartbeats 40000000 in
theorem own_next_3_3 (l : Launch) (Z : State) (a0 : Array Value) (hw : ∀ d ∈ tables_1, d.before a0 Z = true) (b : Addr) (n1 : Int32) (x0 x1 x2 : Int32) (h : Heap) (n0 : Nat) (hn0 : Old Z n0 h) (A1 : La Z h b .int [.int x0, .int x1, .int x2]) (gb : n0 ≤ b) (q2 : ¬ x2 = n1 - 3 + 2) :
    Con l Z (⟨"com/example/covertide/covertide/engine/Subsets", "next", "([II)Z"⟩ : MethodName) prog_11_method_3_code 4 (some .boolean) ({ frames := 0, cells := 0, slots := 0, locals := 0 } : Room) #[(.ref b), (.int n1)] h n0 (fun v h' => v = some (.int 1) ∧ Keep h h' [b] ∧ La Z h' b .int [.int x0, .int x1, .int (x2 + 1)]) := by
  refine con_of hw (plainFor_of_name pn_com_example_covertide_covertide_engine_Subsets) hn0 ?_
  intro p e s m below meth c T0 C X0
  refine Go.cast (congrArg T0.setTop (ef_own_next_3_3 m b n1)) ?_
  refine go_aloadN C X0 1 rfl d2_0 rfl rfl ?_
  refine go_alen C X0 A1 (z := (3 : Int32)) rfl (pc' := 2) rfl d2_1 ?_
  refine go_iconst C X0 3 rfl d2_2 (z := 1) rfl ?_
  refine go_isubL C X0 4 rfl d2_3 (z := (2)) rfl ?_
  refine go_istoreN C X0 5 rfl d2_4 #[rv b, iv n1, iv (2 : Int32), un] rfl ?_
  refine go_iloadN C X0 6 rfl d2_5 rfl ?_
  refine go_if_lt C X0 d2_6 (pc' := 9) (pc2 := 27) rfl (by decide) (by decide) (fun (c6 : 2 < 0) => False.elim (by first | omega | exact absurd c6 (by decide))) (fun (c6 : 0 ≤ 2) => ?_)
  refine go_aloadN C X0 10 rfl d2_9 rfl rfl ?_
  refine go_iloadN C X0 11 rfl d2_10 rfl ?_
  refine go_iaload C X0 A1 (by decide) (v := (.int x2)) rfl (pc' := 12) rfl d2_11 ?_
  refine go_iloadN C X0 13 rfl d2_12 rfl ?_
  refine go_aloadN C X0 14 rfl d2_13 rfl rfl ?_
  refine go_alen C X0 A1 (z := (3 : Int32)) rfl (pc' := 15) rfl d2_14 ?_
  refine go_isub C X0 16 rfl d2_15 ?_
  refine go_iloadN C X0 17 rfl d2_16 rfl ?_
  refine go_iadd C X0 18 rfl d2_17 ?_
  refine go_icmp_ne C X0 d2_18 (pc' := 21) (pc2 := 27) rfl (by decide) (by decide) (fun (c18 : ¬ x2 = ((n1 - (3 : Int32)) + (2 : Int32))) => ?_) (fun (c18 : x2 = ((n1 - (3 : Int32)) + (2 : Int32))) => False.elim (q2 c18))
  refine go_iloadN C X0 28 rfl d2_27 rfl ?_
  refine go_if_ge C X0 d2_28 (pc' := 31) (pc2 := 33) rfl (by decide) (by decide) (fun (c28 : 0 ≤ 2) => ?_) (fun (c28 : 2 < 0) => False.elim (by first | omega | exact absurd c28 (by decide)))
  refine go_aloadN C X0 34 rfl d2_33 rfl rfl ?_
  refine go_iloadN C X0 35 rfl d2_34 rfl ?_
  refine go_dup2 C X0 36 rfl d2_35 rfl rfl ?_
  refine go_iaload C X0 A1 (by decide) (v := (.int x2)) rfl (pc' := 37) rfl d2_36 ?_
  refine go_iconst C X0 38 rfl d2_37 (z := 1) rfl ?_
  refine go_iadd C X0 39 rfl d2_38 ?_
  refine go_iastore C X0 A1 (by decide) (by show _ < (3 : Int); decide) gb (pc' := 40) rfl d2_39 (fun T1 h3 W4 A5 X2 => ?_)
  have K6 := (Keep.refl h [b]).wr W4 (Or.inl (List.mem_of_getElem? (i := 0) rfl))
  replace A5 : La Z h3 b .int ([(.int x0), (.int x1), (.int (x2 + (1 : Int32)))]) := A5
  refine go_iloadN C X2 41 rfl d2_40 rfl ?_
  refine go_iconst C X2 42 rfl d2_41 (z := 1) rfl ?_
  refine go_iaddL C X2 43 rfl d2_42 (z := (3)) rfl ?_
  refine go_istoreN C X2 44 rfl d2_43 #[rv b, iv n1, iv (2 : Int32), iv (3 : Int32)] rfl ?_
  refine go_iloadN C X2 45 rfl d2_44 rfl ?_
  refine go_aloadN C X2 46 rfl d2_45 rfl rfl ?_
  refine go_alen C X2 A5 (z := (3 : Int32)) rfl (pc' := 47) rfl d2_46 ?_
  refine go_icmp_ge C X2 d2_47 (pc' := 50) (pc2 := 66) rfl (by decide) (by decide) (fun (c47 : 3 ≤ 3) => ?_) (fun (c47 : 3 < 3) => False.elim (by first | omega | exact absurd c47 (by decide)))
  refine go_iconst C X2 67 rfl d2_66 (z := 1) rfl ?_
  exact go_retN C X2 (by simp) (z' := 1) rfl d2_67 ⟨rfl, K6, A5⟩ (by decide) (by decide)
theorem d3_0 : decode method_3_code 0 = .ok (.iload 4, 2) := by decide +kernel
theorem d3_2 : decode method_3_code 2 = .ok (.iconst 1, 1) := by decide +kernel
theorem d3_3 : decode method_3_code 3 = .ok (.if_icmp .lt 10, 3) := by decide +kernel
theorem d3_13 : decode method_3_code 13 = .ok (.iload 4, 2) := by decide +kernel
theorem d3_15 : decode method_3_code 15 = .ok (.iconst 2, 1) := by decide +kernel
theorem d3_16 : decode method_3_code 16 = .ok (.if_icmp .lt 10, 3) := by decide +kernel
theorem d3_26 : decode method_3_code 26 = .ok (.iload 4, 2) := by decide +kernel
theorem d3_28 : decode method_3_code 28 = .ok (.iconst 3, 1) := by decide +kernel
theorem d3_29 : decode method_3_code 29 = .ok (.if_icmp .lt 10, 3) := by decide +kernel
theorem d3_39 : decode method_3_code 39 = .ok (.iconst 1, 1) := by decide +kernel
theorem d3_40 : decode method_3_code 40 = .ok (.goto 4, 3) := by decide +kernel
theorem d3_44 : decode method_3_code 44 = .ok (.ireturn, 1) := by decide +kernel
theorem ef_own_same_0 (m : MethodId) (b : Addr) (w0 : Int32) (w1 : Int32) (w2 : Int32) : entryFrame m #[(.ref b), (.int w0), (.int w1), (.int w2), (.int (0 : Int32))] 5 = mkF m 0 #[rv b, iv w0, iv w1, iv w2, iv (0 : Int32)] [] := by first | (simp [entryFrame, mkF, argsToLocals, Value.category]; done) | rfl
set_option maxRecDepth 65536 in
set_option maxHeartbeats 40000000 in
theorem own_same_0 (l : Launch) (Z : State) (a0 : Array Value) (hw : ∀ d ∈ tables_1, d.before a0 Z = true) (b : Addr) (w0 : Int32) (w1 : Int32) (w2 : Int32)  (h : Heap) (n0 : Nat) (hn0 : Old Z n0 h) (A1 : La Z h b .int [])  :
    Con l Z (⟨"com/example/covertide/covertide/engine/SubsetsNext84PinLaw", "same", "([IIIII)Z"⟩ : MethodName) method_3_code 5 (some .boolean) ({ frames := 0, cells := 0, slots := 0, locals := 0 } : Room) #[(.ref b), (.int w0), (.int w1), (.int w2), (.int (0 : Int32))] h n0 (fun v h' => v = some (.int 1) ∧ h = h') := by
  refine con_of hw (plainFor_of_name pn_com_example_covertide_covertide_engine_SubsetsNext84PinLaw) hn0 ?_
  intro p e s m below meth c T0 C X0
  refine Go.cast (congrArg T0.setTop (ef_own_same_0 m b w0 w1 w2)) ?_
  refine go_iload C X0 2 rfl d3_0 rfl ?_
  refine go_iconst C X0 3 rfl d3_2 (z := 1) rfl ?_
  refine go_icmp_lt C X0 d3_3 (pc' := 6) (pc2 := 13) rfl (by decide) (by decide) (fun (c3 : 0 < 1) => ?_) (fun (c3 : 1 ≤ 0) => False.elim (by first | omega | exact absurd c3 (by decide)))
  refine go_iload C X0 15 rfl d3_13 rfl ?_
  refine go_iconst C X0 16 rfl d3_15 (z := 2) rfl ?_
  refine go_icmp_lt C X0 d3_16 (pc' := 19) (pc2 := 26) rfl (by decide) (by decide) (fun (c16 : 0 < 2) => ?_) (fun (c16 : 2 ≤ 0) => False.elim (by first | omega | exact absurd c16 (by decide)))
  refine go_iload C X0 28 rfl d3_26 rfl ?_
  refine go_iconst C X0 29 rfl d3_28 (z := 3) rfl ?_
  refine go_icmp_lt C X0 d3_29 (pc' := 32) (pc2 := 39) rfl (by decide) (by decide) (fun (c29 : 0 < 3) => ?_) (fun (c29 : 3 ≤ 0) => False.elim (by first | omega | exact absurd c29 (by decide)))
  refine go_iconst C X0 40 rfl d3_39 (z := 1) rfl ?_
  refine go_goto C X0 d3_40 (pc' := 44) (by decide) (by decide) ?_
  exact go_retN C X0 (by simp) (z' := 1) rfl d3_44 ⟨rfl, rfl⟩ (by decide) (by decide)
theorem d3_6 : decode method_3_code 6 = .ok (.aload_n 0, 1) := by decide +kernel
theorem d3_7 : decode method_3_code 7 = .ok (.iconst 0, 1) := by decide +kernel
theorem d3_8 : decode method_3_code 8 = .ok (.iaload, 1) := by decide +kernel
theorem d3_9 : decode method_3_code 9 = .ok (.iload_n 1, 1) := by decide +kernel
theorem d3_10 : decode method_3_code 10 = .ok (.if_icmp .ne 33, 3) := by decide +kernel
theorem ef_own_same_1 (m : MethodId) (b : Addr) (w0 : Int32) (w1 : Int32) (w2 : Int32) : entryFrame m #[(.ref b), (.int w0), (.int w1), (.int w2), (.int (1 : Int32))] 5 = mkF m 0 #[rv b, iv w0, iv w1, iv w2, iv (1 : Int32)] [] := by first | (simp [entryFrame, mkF, argsToLocals, Value.category]; done) | rfl
set_option maxRecDepth 65536 in
set_option maxHeartbeats 40000000 in
theorem own_same_1 (l : Launch) (Z : State) (a0 : Array Value) (hw : ∀ d ∈ tables_1, d.before a0 Z = true) (b : Addr) (w0 : Int32) (w1 : Int32) (w2 : Int32) (x0 : Int32) (h : Heap) (n0 : Nat) (hn0 : Old Z n0 h) (A1 : La Z h b .int [.int x0]) (e0 : x0 = w0) :
    Con l Z (⟨"com/example/covertide/covertide/engine/SubsetsNext84PinLaw", "same", "([IIIII)Z"⟩ : MethodName) method_3_code 5 (some .boolean) ({ frames := 0, cells := 0, slots := 0, locals := 0 } : Room) #[(.ref b), (.int w0), (.int w1), (.int w2), (.int (1 : Int32))] h n0 (fun v h' => v = some (.int 1) ∧ h = h') := by
  refine con_of hw (plainFor_of_name pn_com_example_covertide_covertide_engine_SubsetsNext84PinLaw) hn0 ?_
  intro p e s m below meth c T0 C X0
  refine Go.cast (congrArg T0.setTop (ef_own_same_1 m b w0 w1 w2)) ?_
  refine go_iload C X0 2 rfl d3_0 rfl ?_
  refine go_iconst C X0 3 rfl d3_2 (z := 1) rfl ?_
  refine go_icmp_lt C X0 d3_3 (pc' := 6) (pc2 := 13) rfl (by decide) (by decide) (fun (c3 : 1 < 1) => False.elim (by first | omega | exact absurd c3 (by decide))) (fun (c3 : 1 ≤ 1) => ?_)
  refine go_aloadN C X0 7 rfl d3_6 rfl rfl ?_
  refine go_iconst C X0 8 rfl d3_7 (z := 0) rfl ?_
  refine go_iaload C X0 A1 (by decide) (v := (.int x0)) rfl (pc' := 9) rfl d3_8 ?_
  refine go_iloadN C X0 10 rfl d3_9 rfl ?_
  refine go_icmp_ne C X0 d3_10 (pc' := 13) (pc2 := 43) rfl (by decide) (by decide) (fun (c10 : ¬ x0 = w0) => False.elim (c10 e0)) (fun (c10 : x0 = w0) => ?_)
  refine go_iload C X0 15 rfl d3_13 rfl ?_
  refine go_iconst C X0 16 rfl d3_15 (z := 2) rfl ?_
  refine go_icmp_lt C X0 d3_16 (pc' := 19) (pc2 := 26) rfl (by decide) (by decide) (fun (c16 : 1 < 2) => ?_) (fun (c16 : 2 ≤ 1) => False.elim (by first | omega | exact absurd c16 (by decide)))
  refine go_iload C X0 28 rfl d3_26 rfl ?_
  refine go_iconst C X0 29 rfl d3_28 (z := 3) rfl ?_
  refine go_icmp_lt C X0 d3_29 (pc' := 32) (pc2 := 39) rfl (by decide) (by decide) (fun (c29 : 1 < 3) => ?_) (fun (c29 : 3 ≤ 1) => False.elim (by first | omega | exact absurd c29 (by decide)))
  refine go_iconst C X0 40 rfl d3_39 (z := 1) rfl ?_
  refine go_goto C X0 d3_40 (pc' := 44) (by decide) (by decide) ?_
  exact go_retN C X0 (by simp) (z' := 1) rfl d3_44 ⟨rfl, rfl⟩ (by decide) (by decide)
theorem d3_19 : decode method_3_code 19 = .ok (.aload_n 0, 1) := by decide +kernel
theorem d3_20 : decode method_3_code 20 = .ok (.iconst 1, 1) := by decide +kernel
theorem d3_21 : decode method_3_code 21 = .ok (.iaload, 1) := by decide +kernel
theorem d3_22 : decode method_3_code 22 = .ok (.iload_n 2, 1) := by decide +kernel
theorem d3_23 : decode method_3_code 23 = .ok (.if_icmp .ne 20, 3) := by decide +kernel
theorem ef_own_same_2 (m : MethodId) (b : Addr) (w0 : Int32) (w1 : Int32) (w2 : Int32) : entryFrame m #[(.ref b), (.int w0), (.int w1), (.int w2), (.int (2 : Int32))] 5 = mkF m 0 #[rv b, iv w0, iv w1, iv w2, iv (2 : Int32)] [] := by first | (simp [entryFrame, mkF, argsToLocals, Value.category]; done) | rfl
set_option maxRecDepth 65536 in
set_option maxHeartbeats 40000000 in
theorem own_same_2 (l : Launch) (Z : State) (a0 : Array Value) (hw : ∀ d ∈ tables_1, d.before a0 Z = true) (b : Addr) (w0 : Int32) (w1 : Int32) (w2 : Int32) (x0 x1 : Int32) (h : Heap) (n0 : Nat) (hn0 : Old Z n0 h) (A1 : La Z h b .int [.int x0, .int x1]) (e0 : x0 = w0) (e1 : x1 = w1) :
    Con l Z (⟨"com/example/covertide/covertide/engine/SubsetsNext84PinLaw", "same", "([IIIII)Z"⟩ : MethodName) method_3_code 5 (some .boolean) ({ frames := 0, cells := 0, slots := 0, locals := 0 } : Room) #[(.ref b), (.int w0), (.int w1), (.int w2), (.int (2 : Int32))] h n0 (fun v h' => v = some (.int 1) ∧ h = h') := by
  refine con_of hw (plainFor_of_name pn_com_example_covertide_covertide_engine_SubsetsNext84PinLaw) hn0 ?_
  intro p e s m below meth c T0 C X0
  refine Go.cast (congrArg T0.setTop (ef_own_same_2 m b w0 w1 w2)) ?_
  refine go_iload C X0 2 rfl d3_0 rfl ?_
  refine go_iconst C X0 3 rfl d3_2 (z := 1) rfl ?_
  refine go_icmp_lt C X0 d3_3 (pc' := 6) (pc2 := 13) rfl (by decide) (by decide) (fun (c3 : 2 < 1) => False.elim (by first | omega | exact absurd c3 (by decide))) (fun (c3 : 1 ≤ 2) => ?_)
  refine go_aloadN C X0 7 rfl d3_6 rfl rfl ?_
  refine go_iconst C X0 8 rfl d3_7 (z := 0) rfl ?_
  refine go_iaload C X0 A1 (by decide) (v := (.int x0)) rfl (pc' := 9) rfl d3_8 ?_
  refine go_iloadN C X0 10 rfl d3_9 rfl ?_
  refine go_icmp_ne C X0 d3_10 (pc' := 13) (pc2 := 43) rfl (by decide) (by decide) (fun (c10 : ¬ x0 = w0) => False.elim (c10 e0)) (fun (c10 : x0 = w0) => ?_)
  refine go_iload C X0 15 rfl d3_13 rfl ?_
  refine go_iconst C X0 16 rfl d3_15 (z := 2) rfl ?_
  refine go_icmp_lt C X0 d3_16 (pc' := 19) (pc2 := 26) rfl (by decide) (by decide) (fun (c16 : 2 < 2) => False.elim (by first | omega | exact absurd c16 (by decide))) (fun (c16 : 2 ≤ 2) => ?_)
  refine go_aloadN C X0 20 rfl d3_19 rfl rfl ?_
  refine go_iconst C X0 21 rfl d3_20 (z := 1) rfl ?_
  refine go_iaload C X0 A1 (by decide) (v := (.int x1)) rfl (pc' := 22) rfl d3_21 ?_
  refine go_iloadN C X0 23 rfl d3_22 rfl ?_
  refine go_icmp_ne C X0 d3_23 (pc' := 26) (pc2 := 43) rfl (by decide) (by decide) (fun (c23 : ¬ x1 = w1) => False.elim (c23 e1)) (fun (c23 : x1 = w1) => ?_)
  refine go_iload C X0 28 rfl d3_26 rfl ?_
  refine go_iconst C X0 29 rfl d3_28 (z := 3) rfl ?_
  refine go_icmp_lt C X0 d3_29 (pc' := 32) (pc2 := 39) rfl (by decide) (by decide) (fun (c29 : 2 < 3) => ?_) (fun (c29 : 3 ≤ 2) => False.elim (by first | omega | exact absurd c29 (by decide)))
  refine go_iconst C X0 40 rfl d3_39 (z := 1) rfl ?_
  refine go_goto C X0 d3_40 (pc' := 44) (by decide) (by decide) ?_
  exact go_retN C X0 (by simp) (z' := 1) rfl d3_44 ⟨rfl, rfl⟩ (by decide) (by decide)
theorem d3_32 : decode method_3_code 32 = .ok (.aload_n 0, 1) := by decide +kernel
theorem d3_33 : decode method_3_code 33 = .ok (.iconst 2, 1) := by decide +kernel
theorem d3_34 : decode method_3_code 34 = .ok (.iaload, 1) := by decide +kernel
theorem d3_35 : decode method_3_code 35 = .ok (.iload_n 3, 1) := by decide +kernel
theorem d3_36 : decode method_3_code 36 = .ok (.if_icmp .ne 7, 3) := by decide +kernel
theorem ef_own_same_3 (m : MethodId) (b : Addr) (w0 : Int32) (w1 : Int32) (w2 : Int32) : entryFrame m #[(.ref b), (.int w0), (.int w1), (.int w2), (.int (3 : Int32))] 5 = mkF m 0 #[rv b, iv w0, iv w1, iv w2, iv (3 : Int32)] [] := by first | (simp [entryFrame, mkF, argsToLocals, Value.category]; done) | rfl
set_option maxRecDepth 65536 in
set_option maxHeartbeats 40000000 in
theorem own_same_3 (l : Launch) (Z : State) (a0 : Array Value) (hw : ∀ d ∈ tables_1, d.before a0 Z = true) (b : Addr) (w0 : Int32) (w1 : Int32) (w2 : Int32) (x0 x1 x2 : Int32) (h : Heap) (n0 : Nat) (hn0 : Old Z n0 h) (A1 : La Z h b .int [.int x0, .int x1, .int x2]) (e0 : x0 = w0) (e1 : x1 = w1) (e2 : x2 = w2) :
    Con l Z (⟨"com/example/covertide/covertide/engine/SubsetsNext84PinLaw", "same", "([IIIII)Z"⟩ : MethodName) method_3_code 5 (some .boolean) ({ frames := 0, cells := 0, slots := 0, locals := 0 } : Room) #[(.ref b), (.int w0), (.int w1), (.int w2), (.int (3 : Int32))] h n0 (fun v h' => v = some (.int 1) ∧ h = h') := by
  refine con_of hw (plainFor_of_name pn_com_example_covertide_covertide_engine_SubsetsNext84PinLaw) hn0 ?_
  intro p e s m below meth c T0 C X0
  refine Go.cast (congrArg T0.setTop (ef_own_same_3 m b w0 w1 w2)) ?_
  refine go_iload C X0 2 rfl d3_0 rfl ?_
  refine go_iconst C X0 3 rfl d3_2 (z := 1) rfl ?_
  refine go_icmp_lt C X0 d3_3 (pc' := 6) (pc2 := 13) rfl (by decide) (by decide) (fun (c3 : 3 < 1) => False.elim (by first | omega | exact absurd c3 (by decide))) (fun (c3 : 1 ≤ 3) => ?_)
  refine go_aloadN C X0 7 rfl d3_6 rfl rfl ?_
  refine go_iconst C X0 8 rfl d3_7 (z := 0) rfl ?_
  refine go_iaload C X0 A1 (by decide) (v := (.int x0)) rfl (pc' := 9) rfl d3_8 ?_
  refine go_iloadN C X0 10 rfl d3_9 rfl ?_
  refine go_icmp_ne C X0 d3_10 (pc' := 13) (pc2 := 43) rfl (by decide) (by decide) (fun (c10 : ¬ x0 = w0) => False.elim (c10 e0)) (fun (c10 : x0 = w0) => ?_)
  refine go_iload C X0 15 rfl d3_13 rfl ?_
  refine go_iconst C X0 16 rfl d3_15 (z := 2) rfl ?_
  refine go_icmp_lt C X0 d3_16 (pc' := 19) (pc2 := 26) rfl (by decide) (by decide) (fun (c16 : 3 < 2) => False.elim (by first | omega | exact absurd c16 (by decide))) (fun (c16 : 2 ≤ 3) => ?_)
  refine go_aloadN C X0 20 rfl d3_19 rfl rfl ?_
  refine go_iconst C X0 21 rfl d3_20 (z := 1) rfl ?_
  refine go_iaload C X0 A1 (by decide) (v := (.int x1)) rfl (pc' := 22) rfl d3_21 ?_
  refine go_iloadN C X0 23 rfl d3_22 rfl ?_
  refine go_icmp_ne C X0 d3_23 (pc' := 26) (pc2 := 43) rfl (by decide) (by decide) (fun (c23 : ¬ x1 = w1) => False.elim (c23 e1)) (fun (c23 : x1 = w1) => ?_)
  refine go_iload C X0 28 rfl d3_26 rfl ?_
  refine go_iconst C X0 29 rfl d3_28 (z := 3) rfl ?_
  refine go_icmp_lt C X0 d3_29 (pc' := 32) (pc2 := 39) rfl (by decide) (by decide) (fun (c29 : 3 < 3) => False.elim (by first | omega | exact absurd c29 (by decide))) (fun (c29 : 3 ≤ 3) => ?_)
  refine go_aloadN C X0 33 rfl d3_32 rfl rfl ?_
  refine go_iconst C X0 34 rfl d3_33 (z := 2) rfl ?_
  refine go_iaload C X0 A1 (by decide) (v := (.int x2)) rfl (pc' := 35) rfl d3_34 ?_
  refine go_iloadN C X0 36 rfl d3_35 rfl ?_
  refine go_icmp_ne C X0 d3_36 (pc' := 39) (pc2 := 43) rfl (by decide) (by decide) (fun (c36 : ¬ x2 = w2) => False.elim (c36 e2)) (fun (c36 : x2 = w2) => ?_)
  refine go_iconst C X0 40 rfl d3_39 (z := 1) rfl ?_
  refine go_goto C X0 d3_40 (pc' := 44) (by decide) (by decide) ?_
  exact go_retN C X0 (by simp) (z' := 1) rfl d3_44 ⟨rfl, rfl⟩ (by decide) (by decide)
theorem own_rg (u v : Int32) (h : u = v ∨ (∃ x : Int32, u = x + 1 ∧ v = x + 1 + 0) ∨ ∃ x : Int32, u = x + 1 + 1 + 1 ∧ v = x + 1 + 2) : u = v := by
  rcases h with h | ⟨x, rfl, rfl⟩ | ⟨x, rfl, rfl⟩
  · exact h
  · exact (Int32.add_zero _).symm
  · rw [Int32.add_assoc (x + 1) 1 1]; rfl
theorem own_m28 (x : Int32) : 0 ≤ (x &&& 268435455).toInt ∧ (x &&& 268435455).toInt < 268435456 := by have := c_mask x 268435455 28 (by decide) (by decide); omega
theorem own_t {n : Int32} {N : Int} (hn : n.toInt = N) (h0 : 0 ≤ N) (h1 : N < 2000000000) (k i : Int32) (hk : 0 ≤ k.toInt ∧ k.toInt < 10) (hi : 0 ≤ i.toInt ∧ i.toInt < 10) : (n - k + i).toInt = N - k.toInt + i.toInt := i_add (i_sub hn rfl (by omega) (by omega)) rfl (by omega) (by omega)
theorem pd_0 : parseMethodDescriptor "([III)I" = some ⟨[(.array .int), .int, .int], some .int⟩ := by decide +kernel
theorem pd_1 : parseMethodDescriptor "([II)Z" = some ⟨[(.array .int), .int], some .boolean⟩ := by decide +kernel
theorem pd_2 : parseMethodDescriptor "([IIIII)Z" = some ⟨[(.array .int), .int, .int, .int, .int], some .boolean⟩ := by decide +kernel
theorem ef_own_law (m : MethodId) (a : Int32) (g0 : Int32) (g1 : Int32) (g2 : Int32) (g3 : Int32) : entryFrame m #[(.int a), (.int g0), (.int g1), (.int g2), (.int g3)] maxLocals = mkF m 0 #[iv a, iv g0, iv g1, iv g2, iv g3, un, un, un, un, un, un, un, un, un, un, un, un, un, un, un, un] [] := by first | (simp [entryFrame, mkF, argsToLocals, Value.category, maxLocals]; done) | rfl
set_option maxRecDepth 65536 in
set_option maxHeartbeats 40000000 in
theorem own_law (l : Launch) (Z : State) (a0 : Array Value) (hw : ∀ d ∈ tables_1, d.before a0 Z = true) (a : Int32) (g0 : Int32) (g1 : Int32) (g2 : Int32) (g3 : Int32)  (h : Heap) (n0 : Nat) (hn0 : Old Z n0 h)  :
    Con l Z x code maxLocals ret room_1 #[(.int a), (.int g0), (.int g1), (.int g2), (.int g3)] h n0 (fun v h' => v = some (.int 1)) := by
  refine con_of hw (plainFor_of_name pn_com_example_covertide_covertide_engine_SubsetsNext84PinLaw) hn0 ?_
  intro p e s m below meth c T0 C X0
  refine Go.cast (congrArg T0.setTop (ef_own_law m a g0 g1 g2 g3)) ?_
  refine go_iloadN C X0 1 rfl at_0 rfl ?_
  refine go_iconst C X0 2 rfl at_1 (z := 3) rfl ?_
  refine go_iand C X0 3 rfl at_2 ?_
  refine go_istore C X0 5 rfl at_3 #[iv a, iv g0, iv g1, iv g2, iv g3, iv (a &&& (3 : Int32)), un, un, un, un, un, un, un, un, un, un, un, un, un, un, un] rfl ?_
  refine go_iloadN C X0 6 rfl at_5 rfl ?_
  refine go_ldcInt C X0 (C.w 0 rfl) (pc' := 8) rfl at_6 ?_
  refine go_iand C X0 9 rfl at_8 ?_
  refine go_istore C X0 11 rfl at_9 #[iv a, iv g0, iv g1, iv g2, iv g3, iv (a &&& (3 : Int32)), iv (g0 &&& (268435455 : Int32)), un, un, un, un, un, un, un, un, un, un, un, un, un, un] rfl ?_
  refine go_iloadN C X0 12 rfl at_11 rfl ?_
  refine go_ldcInt C X0 (C.w 0 rfl) (pc' := 14) rfl at_12 ?_
  refine go_iand C X0 15 rfl at_14 ?_
  refine go_istore C X0 17 rfl at_15 #[iv a, iv g0, iv g1, iv g2, iv g3, iv (a &&& (3 : Int32)), iv (g0 &&& (268435455 : Int32)), iv (g1 &&& (268435455 : Int32)), un, un, un, un, un, un, un, un, un, un, un, un, un] rfl ?_
  refine go_iloadN C X0 18 rfl at_17 rfl ?_
  refine go_ldcInt C X0 (C.w 0 rfl) (pc' := 20) rfl at_18 ?_
  refine go_iand C X0 21 rfl at_20 ?_
  refine go_istore C X0 23 rfl at_21 #[iv a, iv g0, iv g1, iv g2, iv g3, iv (a &&& (3 : Int32)), iv (g0 &&& (268435455 : Int32)), iv (g1 &&& (268435455 : Int32)), iv (g2 &&& (268435455 : Int32)), un, un, un, un, un, un, un, un, un, un, un, un] rfl ?_
  refine go_iload C X0 25 rfl at_23 rfl ?_
  refine go_ldcInt C X0 (C.w 0 rfl) (pc' := 27) rfl at_25 ?_
  refine go_iand C X0 28 rfl at_27 ?_
  refine go_istore C X0 30 rfl at_28 #[iv a, iv g0, iv g1, iv g2, iv g3, iv (a &&& (3 : Int32)), iv (g0 &&& (268435455 : Int32)), iv (g1 &&& (268435455 : Int32)), iv (g2 &&& (268435455 : Int32)), iv (g3 &&& (268435455 : Int32)), un, un, un, un, un, un, un, un, un, un, un] rfl ?_
  refine go_iload C X0 32 rfl at_30 rfl ?_
  refine go_istore C X0 34 rfl at_32 #[iv a, iv g0, iv g1, iv g2, iv g3, iv (a &&& (3 : Int32)), iv (g0 &&& (268435455 : Int32)), iv (g1 &&& (268435455 : Int32)), iv (g2 &&& (268435455 : Int32)), iv (g3 &&& (268435455 : Int32)), iv (g0 &&& (268435455 : Int32)), un, un, un, un, un, un, un, un, un, un] rfl ?_
  refine go_iload C X0 36 rfl at_34 rfl ?_
  refine go_iconst C X0 37 rfl at_36 (z := 1) rfl ?_
  refine go_iadd C X0 38 rfl at_37 ?_
  refine go_iload C X0 40 rfl at_38 rfl ?_
  refine go_iadd C X0 41 rfl at_40 ?_
  refine go_istore C X0 43 rfl at_41 #[iv a, iv g0, iv g1, iv g2, iv g3, iv (a &&& (3 : Int32)), iv (g0 &&& (268435455 : Int32)), iv (g1 &&& (268435455 : Int32)), iv (g2 &&& (268435455 : Int32)), iv (g3 &&& (268435455 : Int32)), iv (g0 &&& (268435455 : Int32)), iv (((g0 &&& (268435455 : Int32)) + (1 : Int32)) + (g1 &&& (268435455 : Int32))), un, un, un, un, un, un, un, un, un] rfl ?_
  refine go_iload C X0 45 rfl at_43 rfl ?_
  refine go_iconst C X0 46 rfl at_45 (z := 1) rfl ?_
  refine go_iadd C X0 47 rfl at_46 ?_
  refine go_iload C X0 49 rfl at_47 rfl ?_
  refine go_iadd C X0 50 rfl at_49 ?_
  refine go_istore C X0 52 rfl at_50 #[iv a, iv g0, iv g1, iv g2, iv g3, iv (a &&& (3 : Int32)), iv (g0 &&& (268435455 : Int32)), iv (g1 &&& (268435455 : Int32)), iv (g2 &&& (268435455 : Int32)), iv (g3 &&& (268435455 : Int32)), iv (g0 &&& (268435455 : Int32)), iv (((g0 &&& (268435455 : Int32)) + (1 : Int32)) + (g1 &&& (268435455 : Int32))), iv (((((g0 &&& (268435455 : Int32)) + (1 : Int32)) + (g1 &&& (268435455 : Int32))) + (1 : Int32)) + (g2 &&& (268435455 : Int32))), un, un, un, un, un, un, un, un] rfl ?_
  have m0 := own_m28 g0
  generalize eH0 : (g0 &&& (268435455 : Int32)) = H0
  rw [eH0] at m0
  have m1 := own_m28 g1
  generalize eH1 : (g1 &&& (268435455 : Int32)) = H1
  rw [eH1] at m1
  have m2 := own_m28 g2
  generalize eH2 : (g2 &&& (268435455 : Int32)) = H2
  rw [eH2] at m2
  have m3 := own_m28 g3
  generalize eH3 : (g3 &&& (268435455 : Int32)) = H3
  rw [eH3] at m3
  have u1 := i_add (b := H1) (i_add (a := H0) (b := 1) (y := 1) rfl rfl (by omega) (by omega)) rfl (by omega) (by omega)
  generalize es1 : ((H0 + (1 : Int32)) + H1) = s1
  rw [es1] at u1
  have u2 := i_add (b := H2) (i_add (b := 1) (y := 1) u1 rfl (by omega) (by omega)) rfl (by omega) (by omega)
  generalize es2 : ((s1 + (1 : Int32)) + H2) = s2
  rw [es2] at u2
  refine go_iconst C X0 53 rfl at_52 (z := 3) rfl ?_
  refine go_newarr C X0 (C.w 1 rfl) (cap := 3) (by decide) (by decide) (by decide) (by decide) (by decide) (pc' := 55) rfl at_53 (fun T1 h3 sb ha_sb ga_sb E4 A5  X2 => ?_)
  replace A5 : La Z h3 sb .int ([(.int (0 : Int32)), (.int (0 : Int32)), (.int (0 : Int32))]) := A5
  refine go_astore C X2 57 rfl at_55 rfl #[iv a, iv g0, iv g1, iv g2, iv g3, iv (a &&& (3 : Int32)), iv H0, iv H1, iv H2, iv H3, iv H0, iv s1, iv s2, rv sb, un, un, un, un, un, un, un] rfl ?_
  refine go_aload C X2 59 rfl at_57 rfl rfl ?_
  refine go_iconst C X2 60 rfl at_59 (z := 0) rfl ?_
  refine go_iload C X2 62 rfl at_60 rfl ?_
  refine go_iastore C X2 A5 (by decide) (by show _ < (3 : Int); decide) ga_sb (pc' := 63) rfl at_62 (fun T6 h8 W9 A10 X7 => ?_)
  replace A10 : La Z h8 sb .int ([(.int H0), (.int (0 : Int32)), (.int (0 : Int32))]) := A10
  refine go_aload C X7 65 rfl at_63 rfl rfl ?_
  refine go_iconst C X7 66 rfl at_65 (z := 1) rfl ?_
  refine go_iload C X7 68 rfl at_66 rfl ?_
  refine go_iastore C X7 A10 (by decide) (by show _ < (3 : Int); decide) ga_sb (pc' := 69) rfl at_68 (fun T11 h13 W14 A15 X12 => ?_)
  replace A15 : La Z h13 sb .int ([(.int H0), (.int s1), (.int (0 : Int32))]) := A15
  refine go_aload C X12 71 rfl at_69 rfl rfl ?_
  refine go_iconst C X12 72 rfl at_71 (z := 2) rfl ?_
  refine go_iload C X12 74 rfl at_72 rfl ?_
  refine go_iastore C X12 A15 (by decide) (by show _ < (3 : Int); decide) ga_sb (pc' := 75) rfl at_74 (fun T16 h18 W19 A20 X17 => ?_)
  replace A20 : La Z h18 sb .int ([(.int H0), (.int s1), (.int s2)]) := A20
  have kc : (a &&& 3) = 0 ∨ (a &&& 3) = 1 ∨ (a &&& 3) = 2 ∨ (a &&& 3) = 3 := by
    have := c_mask a 3 2 (by decide) (by decide)
    rcases (by omega : (a &&& 3).toInt = 0 ∨ (a &&& 3).toInt = 1 ∨ (a &&& 3).toInt = 2 ∨ (a &&& 3).toInt = 3) with q | q | q | q
    · exact Or.inl (i_eq q)
    · exact Or.inr (Or.inl (i_eq q))
    · exact Or.inr (Or.inr (Or.inl (i_eq q)))
    · exact Or.inr (Or.inr (Or.inr (i_eq q)))
  generalize ekk : (a &&& (3 : Int32)) = kk
  rw [ekk] at kc
  clear ekk
  rcases kc with rfl | rfl | rfl | rfl
  · refine go_iload C X17 77 rfl at_75 rfl ?_
    refine go_if_ne C X17 at_77 (pc' := 80) (pc2 := 87) rfl (by decide) (by decide) (fun (c77 : ¬ (0 : Int32) = (0 : Int32)) => False.elim (by first | omega | exact absurd c77 (by decide))) (fun (c77 : (0 : Int32) = (0 : Int32)) => ?_)
    refine go_iload C X17 82 rfl at_80 rfl ?_
    refine go_istore C X17 84 rfl at_82 #[iv a, iv g0, iv g1, iv g2, iv g3, iv (0 : Int32), iv H0, iv H1, iv H2, iv H3, iv H0, iv s1, iv s2, rv sb, iv H0, un, un, un, un, un, un] rfl ?_
    refine go_goto C X17 at_84 (pc' := 132) (by decide) (by decide) ?_
    have unn : H0.toInt = H0.toInt := rfl
    generalize enn : H0 = nn
    rw [enn] at unn
    refine go_iload C X17 134 rfl at_132 rfl ?_
    refine go_newarr C X17 (C.w 1 rfl) (cap := 0) (by decide) (by decide) (by decide) (by decide) (by decide) (pc' := 136) rfl at_134 (fun T21 h23 ub ha_ub ga_ub E24 A25  X22 => ?_)
    have ne_sb_ub : sb ≠ ub := Nat.ne_of_lt (Nat.lt_of_lt_of_le A20.lt (Nat.le_of_eq ha_ub.symm))
    have A26 := A20.ext E24
    replace A25 : La Z h23 ub .int ([]) := A25
    refine go_astore C X22 138 rfl at_136 rfl #[iv a, iv g0, iv g1, iv g2, iv g3, iv (0 : Int32), iv nn, iv H1, iv H2, iv H3, iv nn, iv s1, iv s2, rv sb, iv nn, rv ub, un, un, un, un, un] rfl ?_
    refine go_iload C X22 140 rfl at_138 rfl ?_
    refine go_iconst C X22 141 rfl at_140 (z := 1) rfl ?_
    refine go_icmp_lt C X22 at_141 (pc' := 144) (pc2 := 150) rfl (by decide) (by decide) (fun (c141 : 0 < 1) => ?_) (fun (c141 : 1 ≤ 0) => False.elim (by first | omega | exact absurd c141 (by decide)))
    refine go_iload C X22 152 rfl at_150 rfl ?_
    refine go_iconst C X22 153 rfl at_152 (z := 2) rfl ?_
    refine go_icmp_lt C X22 at_153 (pc' := 156) (pc2 := 162) rfl (by decide) (by decide) (fun (c153 : 0 < 2) => ?_) (fun (c153 : 2 ≤ 0) => False.elim (by first | omega | exact absurd c153 (by decide)))
    refine go_iload C X22 164 rfl at_162 rfl ?_
    refine go_iconst C X22 165 rfl at_164 (z := 3) rfl ?_
    refine go_icmp_lt C X22 at_165 (pc' := 168) (pc2 := 174) rfl (by decide) (by decide) (fun (c165 : 0 < 3) => ?_) (fun (c165 : 3 ≤ 0) => False.elim (by first | omega | exact absurd c165 (by decide)))
    refine go_iload C X22 176 rfl at_174 rfl ?_
    refine go_iconst C X22 177 rfl at_176 (z := 3) rfl ?_
    refine go_icmp_lt C X22 at_177 (pc' := 180) (pc2 := 191) rfl (by decide) (by decide) (fun (c177 : 0 < 3) => ?_) (fun (c177 : 3 ≤ 0) => False.elim (by first | omega | exact absurd c177 (by decide)))
    refine go_iload C X22 193 rfl at_191 rfl ?_
    refine go_iconst C X22 194 rfl at_193 (z := 2) rfl ?_
    refine go_icmp_lt C X22 at_194 (pc' := 197) (pc2 := 208) rfl (by decide) (by decide) (fun (c194 : 0 < 2) => ?_) (fun (c194 : 2 ≤ 0) => False.elim (by first | omega | exact absurd c194 (by decide)))
    refine go_iload C X22 210 rfl at_208 rfl ?_
    refine go_iconst C X22 211 rfl at_210 (z := 1) rfl ?_
    refine go_icmp_lt C X22 at_211 (pc' := 214) (pc2 := 225) rfl (by decide) (by decide) (fun (c211 : 0 < 1) => ?_) (fun (c211 : 1 ≤ 0) => False.elim (by first | omega | exact absurd c211 (by decide)))
    refine go_iconst C X22 226 rfl at_225 (z := (-1)) rfl ?_
    refine go_istore C X22 228 rfl at_226 #[iv a, iv g0, iv g1, iv g2, iv g3, iv (0 : Int32), iv nn, iv H1, iv H2, iv H3, iv nn, iv s1, iv s2, rv sb, iv nn, rv ub, iv (-1 : Int32), un, un, un, un] rfl ?_
    refine go_aload C X22 230 rfl at_228 rfl rfl ?_
    refine go_iload C X22 232 rfl at_230 rfl ?_
    refine go_iconst C X22 233 rfl at_232 (z := 0) rfl ?_
    refine go_callS C X22 (C.w 2 rfl) (C.w 3 rfl) (C.w 4 rfl) (C.w 5 rfl) (own_at_0_0 l Z a0 C.ws sb H0 s1 s2 h23 n0 X22.old A26) (argsL := [(.ref sb), (.int (-1 : Int32)), (.int (0 : Int32))]) (rest := []) (lenOf pd_0 rfl) rfl (by decide) (by decide) (Nat.le_of_ble_eq_true rfl) (by decide) (by decide) rfl rfl (pc' := 236) rfl at_233 ?_
    rintro T27 _ _ ⟨rfl, rfl⟩ X28
    show Go p e below _ (T27.setTop (mkF m 236 #[iv a, iv g0, iv g1, iv g2, iv g3, iv (0 : Int32), iv nn, iv H1, iv H2, iv H3, iv nn, iv s1, iv s2, rv sb, iv nn, rv ub, iv (-1 : Int32), un, un, un, un] [(.int H0)]))
    refine go_istore C X28 238 rfl at_236 #[iv a, iv g0, iv g1, iv g2, iv g3, iv (0 : Int32), iv nn, iv H1, iv H2, iv H3, iv nn, iv s1, iv s2, rv sb, iv nn, rv ub, iv (-1 : Int32), iv H0, un, un, un] rfl ?_
    refine go_aload C X28 240 rfl at_238 rfl rfl ?_
    refine go_iload C X28 242 rfl at_240 rfl ?_
    refine go_iconst C X28 243 rfl at_242 (z := 1) rfl ?_
    refine go_callS C X28 (C.w 2 rfl) (C.w 3 rfl) (C.w 4 rfl) (C.w 5 rfl) (own_at_0_1 l Z a0 C.ws sb H0 s1 s2 h23 n0 X28.old A26) (argsL := [(.ref sb), (.int (-1 : Int32)), (.int (1 : Int32))]) (rest := []) (lenOf pd_0 rfl) rfl (by decide) (by decide) (Nat.le_of_ble_eq_true rfl) (by decide) (by decide) rfl rfl (pc' := 246) rfl at_243 ?_
    rintro T30 _ _ ⟨rfl, rfl⟩ X31
    show Go p e below _ (T30.setTop (mkF m 246 #[iv a, iv g0, iv g1, iv g2, iv g3, iv (0 : Int32), iv nn, iv H1, iv H2, iv H3, iv nn, iv s1, iv s2, rv sb, iv nn, rv ub, iv (-1 : Int32), iv H0, un, un, un] [(.int s1)]))
    refine go_istore C X31 248 rfl at_246 #[iv a, iv g0, iv g1, iv g2, iv g3, iv (0 : Int32), iv nn, iv H1, iv H2, iv H3, iv nn, iv s1, iv s2, rv sb, iv nn, rv ub, iv (-1 : Int32), iv H0, iv s1, un, un] rfl ?_
    refine go_aload C X31 250 rfl at_248 rfl rfl ?_
    refine go_iload C X31 252 rfl at_250 rfl ?_
    refine go_iconst C X31 253 rfl at_252 (z := 2) rfl ?_
    refine go_callS C X31 (C.w 2 rfl) (C.w 3 rfl) (C.w 4 rfl) (C.w 5 rfl) (own_at_0_2 l Z a0 C.ws sb H0 s1 s2 h23 n0 X31.old A26) (argsL := [(.ref sb), (.int (-1 : Int32)), (.int (2 : Int32))]) (rest := []) (lenOf pd_0 rfl) rfl (by decide) (by decide) (Nat.le_of_ble_eq_true rfl) (by decide) (by decide) rfl rfl (pc' := 256) rfl at_253 ?_
    rintro T33 _ _ ⟨rfl, rfl⟩ X34
    show Go p e below _ (T33.setTop (mkF m 256 #[iv a, iv g0, iv g1, iv g2, iv g3, iv (0 : Int32), iv nn, iv H1, iv H2, iv H3, iv nn, iv s1, iv s2, rv sb, iv nn, rv ub, iv (-1 : Int32), iv H0, iv s1, un, un] [(.int s2)]))
    refine go_istore C X34 258 rfl at_256 #[iv a, iv g0, iv g1, iv g2, iv g3, iv (0 : Int32), iv nn, iv H1, iv H2, iv H3, iv nn, iv s1, iv s2, rv sb, iv nn, rv ub, iv (-1 : Int32), iv H0, iv s1, iv s2, un] rfl ?_
    refine go_aload C X34 260 rfl at_258 rfl rfl ?_
    refine go_iload C X34 262 rfl at_260 rfl ?_
    refine go_callS C X34 (C.w 6 rfl) (C.w 7 rfl) (C.w 8 rfl) (C.w 9 rfl) (own_next_0_0 l Z a0 C.ws ub nn  h23 n0 X34.old A25 ga_ub ) (argsL := [(.ref ub), (.int nn)]) (rest := []) (lenOf pd_1 rfl) rfl (by decide) (by decide) (Nat.le_of_ble_eq_true rfl) (by decide) (by decide) rfl rfl (pc' := 265) rfl at_262 ?_
    rintro T36 h38 _ ⟨rfl, K9, A9⟩ X37
    show Go p e below _ (T36.setTop (mkF m 265 #[iv a, iv g0, iv g1, iv g2, iv g3, iv (0 : Int32), iv nn, iv H1, iv H2, iv H3, iv nn, iv s1, iv s2, rv sb, iv nn, rv ub, iv (-1 : Int32), iv H0, iv s1, iv s2, un] [(.int (0 : Int32))]))
    have A39 := A26.keep K9 (ninS ne_sb_ub nin0)
    refine go_istore C X37 267 rfl at_265 #[iv a, iv g0, iv g1, iv g2, iv g3, iv (0 : Int32), iv nn, iv H1, iv H2, iv H3, iv nn, iv s1, iv s2, rv sb, iv nn, rv ub, iv (-1 : Int32), iv H0, iv s1, iv s2, iv (0 : Int32)] rfl ?_
    refine go_iload C X37 269 rfl at_267 rfl ?_
    refine go_iload C X37 271 rfl at_269 rfl ?_
    refine go_if_lt C X37 at_271 (pc' := 274) (pc2 := 278) rfl (by decide) (by decide) (fun (c271 : (-1) < 0) => ?_) (fun (c271 : 0 ≤ (-1)) => False.elim (by first | omega | exact absurd c271 (by decide)))
    refine go_iconst C X37 279 rfl at_278 (z := 0) rfl ?_
    refine go_icmp_ne C X37 at_279 (pc' := 282) (pc2 := 302) rfl (by decide) (by decide) (fun (c279 : ¬ (0 : Int32) = (0 : Int32)) => False.elim (by first | omega | exact absurd c279 (by decide))) (fun (c279 : (0 : Int32) = (0 : Int32)) => ?_)
    refine go_aload C X37 284 rfl at_282 rfl rfl ?_
    refine go_iload C X37 286 rfl at_284 rfl ?_
    refine go_iload C X37 288 rfl at_286 rfl ?_
    refine go_iload C X37 290 rfl at_288 rfl ?_
    refine go_iload C X37 292 rfl at_290 rfl ?_
    refine go_callS C X37 (C.w 10 rfl) (C.w 11 rfl) (C.w 4 rfl) (C.w 12 rfl) (own_same_0 l Z a0 C.ws ub H0 s1 s2  h38 n0 X37.old A9 ) (argsL := [(.ref ub), (.int H0), (.int s1), (.int s2), (.int (0 : Int32))]) (rest := []) (lenOf pd_2 rfl) rfl (by decide) (by decide) (Nat.le_of_ble_eq_true rfl) (by decide) (by decide) rfl rfl (pc' := 295) rfl at_292 ?_
    rintro T40 _ _ ⟨rfl, rfl⟩ X41
    show Go p e below _ (T40.setTop (mkF m 295 #[iv a, iv g0, iv g1, iv g2, iv g3, iv (0 : Int32), iv nn, iv H1, iv H2, iv H3, iv nn, iv s1, iv s2, rv sb, iv nn, rv ub, iv (-1 : Int32), iv H0, iv s1, iv s2, iv (0 : Int32)] [(.int (1 : Int32))]))
    refine go_if_eq C X41 at_295 (pc' := 298) (pc2 := 302) rfl (by decide) (by decide) (fun (c295 : (1 : Int32) = (0 : Int32)) => False.elim (by first | omega | exact absurd c295 (by decide))) (fun (c295 : ¬ (1 : Int32) = (0 : Int32)) => ?_)
    refine go_iconst C X41 299 rfl at_298 (z := 1) rfl ?_
    refine go_goto C X41 at_299 (pc' := 303) (by decide) (by decide) ?_
    exact go_retN C X41 (by simp) (z' := 1) rfl at_303 rfl (by decide) (by decide)
  · refine go_iload C X17 77 rfl at_75 rfl ?_
    refine go_if_ne C X17 at_77 (pc' := 80) (pc2 := 87) rfl (by decide) (by decide) (fun (c77 : ¬ (1 : Int32) = (0 : Int32)) => ?_) (fun (c77 : (1 : Int32) = (0 : Int32)) => False.elim (by first | omega | exact absurd c77 (by decide)))
    refine go_iload C X17 89 rfl at_87 rfl ?_
    refine go_iconst C X17 90 rfl at_89 (z := 1) rfl ?_
    refine go_icmp_ne C X17 at_90 (pc' := 93) (pc2 := 105) rfl (by decide) (by decide) (fun (c90 : ¬ (1 : Int32) = (1 : Int32)) => False.elim (by first | omega | exact absurd c90 (by decide))) (fun (c90 : (1 : Int32) = (1 : Int32)) => ?_)
    refine go_iload C X17 95 rfl at_93 rfl ?_
    refine go_iconst C X17 96 rfl at_95 (z := 1) rfl ?_
    refine go_iadd C X17 97 rfl at_96 ?_
    refine go_iload C X17 99 rfl at_97 rfl ?_
    refine go_iadd C X17 100 rfl at_99 ?_
    refine go_istore C X17 102 rfl at_100 #[iv a, iv g0, iv g1, iv g2, iv g3, iv (1 : Int32), iv H0, iv H1, iv H2, iv H3, iv H0, iv s1, iv s2, rv sb, iv ((H0 + (1 : Int32)) + H1), un, un, un, un, un, un] rfl ?_
    refine go_goto C X17 at_102 (pc' := 132) (by decide) (by decide) ?_
    have unn := i_add (b := H1) (i_add (a := H0) (b := 1) (y := 1) rfl rfl (by omega) (by omega)) rfl (by omega) (by omega)
    generalize enn : ((H0 + (1 : Int32)) + H1) = nn
    rw [enn] at unn
    refine go_iload C X17 134 rfl at_132 rfl ?_
    refine go_newarr C X17 (C.w 1 rfl) (cap := 1) (by decide) (by decide) (by decide) (by decide) (by decide) (pc' := 136) rfl at_134 (fun T43 h45 ub ha_ub ga_ub E46 A47  X44 => ?_)
    have ne_sb_ub : sb ≠ ub := Nat.ne_of_lt (Nat.lt_of_lt_of_le A20.lt (Nat.le_of_eq ha_ub.symm))
    have A48 := A20.ext E46
    replace A47 : La Z h45 ub .int ([(.int (0 : Int32))]) := A47
    refine go_astore C X44 138 rfl at_136 rfl #[iv a, iv g0, iv g1, iv g2, iv g3, iv (1 : Int32), iv H0, iv H1, iv H2, iv H3, iv H0, iv s1, iv s2, rv sb, iv nn, rv ub, un, un, un, un, un] rfl ?_
    refine go_iload C X44 140 rfl at_138 rfl ?_
    refine go_iconst C X44 141 rfl at_140 (z := 1) rfl ?_
    refine go_icmp_lt C X44 at_141 (pc' := 144) (pc2 := 150) rfl (by decide) (by decide) (fun (c141 : 1 < 1) => False.elim (by first | omega | exact absurd c141 (by decide))) (fun (c141 : 1 ≤ 1) => ?_)
    refine go_aload C X44 146 rfl at_144 rfl rfl ?_
    refine go_iconst C X44 147 rfl at_146 (z := 0) rfl ?_
    refine go_iload C X44 149 rfl at_147 rfl ?_
    refine go_iastore C X44 A47 (by decide) (by show _ < (1 : Int); decide) ga_ub (pc' := 150) rfl at_149 (fun T49 h51 W52 A53 X50 => ?_)
    have A54 := A48.other W52 ne_sb_ub
    replace A53 : La Z h51 ub .int ([(.int H0)]) := A53
    refine go_iload C X50 152 rfl at_150 rfl ?_
    refine go_iconst C X50 153 rfl at_152 (z := 2) rfl ?_
    refine go_icmp_lt C X50 at_153 (pc' := 156) (pc2 := 162) rfl (by decide) (by decide) (fun (c153 : 1 < 2) => ?_) (fun (c153 : 2 ≤ 1) => False.elim (by first | omega | exact absurd c153 (by decide)))
    refine go_iload C X50 164 rfl at_162 rfl ?_
    refine go_iconst C X50 165 rfl at_164 (z := 3) rfl ?_
    refine go_icmp_lt C X50 at_165 (pc' := 168) (pc2 := 174) rfl (by decide) (by decide) (fun (c165 : 1 < 3) => ?_) (fun (c165 : 3 ≤ 1) => False.elim (by first | omega | exact absurd c165 (by decide)))
    refine go_iload C X50 176 rfl at_174 rfl ?_
    refine go_iconst C X50 177 rfl at_176 (z := 3) rfl ?_
    refine go_icmp_lt C X50 at_177 (pc' := 180) (pc2 := 191) rfl (by decide) (by decide) (fun (c177 : 1 < 3) => ?_) (fun (c177 : 3 ≤ 1) => False.elim (by first | omega | exact absurd c177 (by decide)))
    refine go_iload C X50 193 rfl at_191 rfl ?_
    refine go_iconst C X50 194 rfl at_193 (z := 2) rfl ?_
    refine go_icmp_lt C X50 at_194 (pc' := 197) (pc2 := 208) rfl (by decide) (by decide) (fun (c194 : 1 < 2) => ?_) (fun (c194 : 2 ≤ 1) => False.elim (by first | omega | exact absurd c194 (by decide)))
    refine go_iload C X50 210 rfl at_208 rfl ?_
    refine go_iconst C X50 211 rfl at_210 (z := 1) rfl ?_
    refine go_icmp_lt C X50 at_211 (pc' := 214) (pc2 := 225) rfl (by decide) (by decide) (fun (c211 : 1 < 1) => False.elim (by first | omega | exact absurd c211 (by decide))) (fun (c211 : 1 ≤ 1) => ?_)
    refine go_iload C X50 216 rfl at_214 rfl ?_
    refine go_if_eq C X50 at_216 (pc' := 219) (pc2 := 225) rfl (by decide) (by decide) (fun (c216 : H1 = (0 : Int32)) => ?_) (fun (c216 : ¬ H1 = (0 : Int32)) => ?_)
    · refine go_iconst C X50 226 rfl at_225 (z := (-1)) rfl ?_
      refine go_istore C X50 228 rfl at_226 #[iv a, iv g0, iv g1, iv g2, iv g3, iv (1 : Int32), iv H0, iv H1, iv H2, iv H3, iv H0, iv s1, iv s2, rv sb, iv nn, rv ub, iv (-1 : Int32), un, un, un, un] rfl ?_
      refine go_aload C X50 230 rfl at_228 rfl rfl ?_
      refine go_iload C X50 232 rfl at_230 rfl ?_
      refine go_iconst C X50 233 rfl at_232 (z := 0) rfl ?_
      refine go_callS C X50 (C.w 2 rfl) (C.w 3 rfl) (C.w 4 rfl) (C.w 5 rfl) (own_at_0_0 l Z a0 C.ws sb H0 s1 s2 h51 n0 X50.old A54) (argsL := [(.ref sb), (.int (-1 : Int32)), (.int (0 : Int32))]) (rest := []) (lenOf pd_0 rfl) rfl (by decide) (by decide) (Nat.le_of_ble_eq_true rfl) (by decide) (by decide) rfl rfl (pc' := 236) rfl at_233 ?_
      rintro T55 _ _ ⟨rfl, rfl⟩ X56
      show Go p e below _ (T55.setTop (mkF m 236 #[iv a, iv g0, iv g1, iv g2, iv g3, iv (1 : Int32), iv H0, iv H1, iv H2, iv H3, iv H0, iv s1, iv s2, rv sb, iv nn, rv ub, iv (-1 : Int32), un, un, un, un] [(.int H0)]))
      refine go_istore C X56 238 rfl at_236 #[iv a, iv g0, iv g1, iv g2, iv g3, iv (1 : Int32), iv H0, iv H1, iv H2, iv H3, iv H0, iv s1, iv s2, rv sb, iv nn, rv ub, iv (-1 : Int32), iv H0, un, un, un] rfl ?_
      refine go_aload C X56 240 rfl at_238 rfl rfl ?_
      refine go_iload C X56 242 rfl at_240 rfl ?_
      refine go_iconst C X56 243 rfl at_242 (z := 1) rfl ?_
      refine go_callS C X56 (C.w 2 rfl) (C.w 3 rfl) (C.w 4 rfl) (C.w 5 rfl) (own_at_0_1 l Z a0 C.ws sb H0 s1 s2 h51 n0 X56.old A54) (argsL := [(.ref sb), (.int (-1 : Int32)), (.int (1 : Int32))]) (rest := []) (lenOf pd_0 rfl) rfl (by decide) (by decide) (Nat.le_of_ble_eq_true rfl) (by decide) (by decide) rfl rfl (pc' := 246) rfl at_243 ?_
      rintro T58 _ _ ⟨rfl, rfl⟩ X59
      show Go p e below _ (T58.setTop (mkF m 246 #[iv a, iv g0, iv g1, iv g2, iv g3, iv (1 : Int32), iv H0, iv H1, iv H2, iv H3, iv H0, iv s1, iv s2, rv sb, iv nn, rv ub, iv (-1 : Int32), iv H0, un, un, un] [(.int s1)]))
      refine go_istore C X59 248 rfl at_246 #[iv a, iv g0, iv g1, iv g2, iv g3, iv (1 : Int32), iv H0, iv H1, iv H2, iv H3, iv H0, iv s1, iv s2, rv sb, iv nn, rv ub, iv (-1 : Int32), iv H0, iv s1, un, un] rfl ?_
      refine go_aload C X59 250 rfl at_248 rfl rfl ?_
      refine go_iload C X59 252 rfl at_250 rfl ?_
      refine go_iconst C X59 253 rfl at_252 (z := 2) rfl ?_
      refine go_callS C X59 (C.w 2 rfl) (C.w 3 rfl) (C.w 4 rfl) (C.w 5 rfl) (own_at_0_2 l Z a0 C.ws sb H0 s1 s2 h51 n0 X59.old A54) (argsL := [(.ref sb), (.int (-1 : Int32)), (.int (2 : Int32))]) (rest := []) (lenOf pd_0 rfl) rfl (by decide) (by decide) (Nat.le_of_ble_eq_true rfl) (by decide) (by decide) rfl rfl (pc' := 256) rfl at_253 ?_
      rintro T61 _ _ ⟨rfl, rfl⟩ X62
      show Go p e below _ (T61.setTop (mkF m 256 #[iv a, iv g0, iv g1, iv g2, iv g3, iv (1 : Int32), iv H0, iv H1, iv H2, iv H3, iv H0, iv s1, iv s2, rv sb, iv nn, rv ub, iv (-1 : Int32), iv H0, iv s1, un, un] [(.int s2)]))
      refine go_istore C X62 258 rfl at_256 #[iv a, iv g0, iv g1, iv g2, iv g3, iv (1 : Int32), iv H0, iv H1, iv H2, iv H3, iv H0, iv s1, iv s2, rv sb, iv nn, rv ub, iv (-1 : Int32), iv H0, iv s1, iv s2, un] rfl ?_
      refine go_aload C X62 260 rfl at_258 rfl rfl ?_
      refine go_iload C X62 262 rfl at_260 rfl ?_
      refine go_callS C X62 (C.w 6 rfl) (C.w 7 rfl) (C.w 8 rfl) (C.w 9 rfl) (own_next_1_0 l Z a0 C.ws ub nn H0 h51 n0 X62.old A53 ga_ub (by have z0 : (0 : Int32).toInt = 0 := rfl; have t := own_t unn (by omega) (by omega) 1 0 (by decide) (by decide); (first | have d182 := congrArg Int32.toInt c182 | skip); (first | have d199 := congrArg Int32.toInt c199 | skip); (first | have d216 := congrArg Int32.toInt c216 | skip); (first | have n182 := i_ne c182 | skip); (first | have n199 := i_ne c199 | skip); (first | have n216 := i_ne c216 | skip); have k9 : (1 : Int32).toInt = 1 := rfl; have i9 : (0 : Int32).toInt = 0 := rfl; first | exact i_eq (by omega) | exact fun q => (by have := congrArg Int32.toInt q; omega))) (argsL := [(.ref ub), (.int nn)]) (rest := []) (lenOf pd_1 rfl) rfl (by decide) (by decide) (Nat.le_of_ble_eq_true rfl) (by decide) (by decide) rfl rfl (pc' := 265) rfl at_262 ?_
      rintro T64 h66 _ ⟨rfl, K9, A9⟩ X65
      show Go p e below _ (T64.setTop (mkF m 265 #[iv a, iv g0, iv g1, iv g2, iv g3, iv (1 : Int32), iv H0, iv H1, iv H2, iv H3, iv H0, iv s1, iv s2, rv sb, iv nn, rv ub, iv (-1 : Int32), iv H0, iv s1, iv s2, un] [(.int (0 : Int32))]))
      have A67 := A54.keep K9 (ninS ne_sb_ub nin0)
      refine go_istore C X65 267 rfl at_265 #[iv a, iv g0, iv g1, iv g2, iv g3, iv (1 : Int32), iv H0, iv H1, iv H2, iv H3, iv H0, iv s1, iv s2, rv sb, iv nn, rv ub, iv (-1 : Int32), iv H0, iv s1, iv s2, iv (0 : Int32)] rfl ?_
      refine go_iload C X65 269 rfl at_267 rfl ?_
      refine go_iload C X65 271 rfl at_269 rfl ?_
      refine go_if_lt C X65 at_271 (pc' := 274) (pc2 := 278) rfl (by decide) (by decide) (fun (c271 : (-1) < 0) => ?_) (fun (c271 : 0 ≤ (-1)) => False.elim (by first | omega | exact absurd c271 (by decide)))
      refine go_iconst C X65 279 rfl at_278 (z := 0) rfl ?_
      refine go_icmp_ne C X65 at_279 (pc' := 282) (pc2 := 302) rfl (by decide) (by decide) (fun (c279 : ¬ (0 : Int32) = (0 : Int32)) => False.elim (by first | omega | exact absurd c279 (by decide))) (fun (c279 : (0 : Int32) = (0 : Int32)) => ?_)
      refine go_aload C X65 284 rfl at_282 rfl rfl ?_
      refine go_iload C X65 286 rfl at_284 rfl ?_
      refine go_iload C X65 288 rfl at_286 rfl ?_
      refine go_iload C X65 290 rfl at_288 rfl ?_
      refine go_iload C X65 292 rfl at_290 rfl ?_
      refine go_callS C X65 (C.w 10 rfl) (C.w 11 rfl) (C.w 4 rfl) (C.w 12 rfl) (own_same_1 l Z a0 C.ws ub H0 s1 s2 H0 h66 n0 X65.old A9 (own_rg _ _ (by first | exact Or.inl rfl | exact Or.inr (Or.inl ⟨_, rfl, rfl⟩) | exact Or.inr (Or.inr ⟨_, rfl, rfl⟩)))) (argsL := [(.ref ub), (.int H0), (.int s1), (.int s2), (.int (1 : Int32))]) (rest := []) (lenOf pd_2 rfl) rfl (by decide) (by decide) (Nat.le_of_ble_eq_true rfl) (by decide) (by decide) rfl rfl (pc' := 295) rfl at_292 ?_
      rintro T68 _ _ ⟨rfl, rfl⟩ X69
      show Go p e below _ (T68.setTop (mkF m 295 #[iv a, iv g0, iv g1, iv g2, iv g3, iv (1 : Int32), iv H0, iv H1, iv H2, iv H3, iv H0, iv s1, iv s2, rv sb, iv nn, rv ub, iv (-1 : Int32), iv H0, iv s1, iv s2, iv (0 : Int32)] [(.int (1 : Int32))]))
      refine go_if_eq C X69 at_295 (pc' := 298) (pc2 := 302) rfl (by decide) (by decide) (fun (c295 : (1 : Int32) = (0 : Int32)) => False.elim (by first | omega | exact absurd c295 (by decide))) (fun (c295 : ¬ (1 : Int32) = (0 : Int32)) => ?_)
      refine go_iconst C X69 299 rfl at_298 (z := 1) rfl ?_
      refine go_goto C X69 at_299 (pc' := 303) (by decide) (by decide) ?_
      exact go_retN C X69 (by simp) (z' := 1) rfl at_303 rfl (by decide) (by decide)
    · refine go_iconst C X50 220 rfl at_219 (z := 0) rfl ?_
      refine go_istore C X50 222 rfl at_220 #[iv a, iv g0, iv g1, iv g2, iv g3, iv (1 : Int32), iv H0, iv H1, iv H2, iv H3, iv H0, iv s1, iv s2, rv sb, iv nn, rv ub, iv (0 : Int32), un, un, un, un] rfl ?_
      refine go_goto C X50 at_222 (pc' := 228) (by decide) (by decide) ?_
      refine go_aload C X50 230 rfl at_228 rfl rfl ?_
      refine go_iload C X50 232 rfl at_230 rfl ?_
      refine go_iconst C X50 233 rfl at_232 (z := 0) rfl ?_
      refine go_callS C X50 (C.w 2 rfl) (C.w 3 rfl) (C.w 4 rfl) (C.w 5 rfl) (own_at_1_0 l Z a0 C.ws sb H0 s1 s2 h51 n0 X50.old A54) (argsL := [(.ref sb), (.int (0 : Int32)), (.int (0 : Int32))]) (rest := []) (lenOf pd_0 rfl) rfl (by decide) (by decide) (Nat.le_of_ble_eq_true rfl) (by decide) (by decide) rfl rfl (pc' := 236) rfl at_233 ?_
      rintro T71 _ _ ⟨rfl, rfl⟩ X72
      show Go p e below _ (T71.setTop (mkF m 236 #[iv a, iv g0, iv g1, iv g2, iv g3, iv (1 : Int32), iv H0, iv H1, iv H2, iv H3, iv H0, iv s1, iv s2, rv sb, iv nn, rv ub, iv (0 : Int32), un, un, un, un] [(.int (H0 + 1 + 0))]))
      refine go_istore C X72 238 rfl at_236 #[iv a, iv g0, iv g1, iv g2, iv g3, iv (1 : Int32), iv H0, iv H1, iv H2, iv H3, iv H0, iv s1, iv s2, rv sb, iv nn, rv ub, iv (0 : Int32), iv (H0 + 1 + 0), un, un, un] rfl ?_
      refine go_aload C X72 240 rfl at_238 rfl rfl ?_
      refine go_iload C X72 242 rfl at_240 rfl ?_
      refine go_iconst C X72 243 rfl at_242 (z := 1) rfl ?_
      refine go_callS C X72 (C.w 2 rfl) (C.w 3 rfl) (C.w 4 rfl) (C.w 5 rfl) (own_at_1_1 l Z a0 C.ws sb H0 s1 s2 h51 n0 X72.old A54) (argsL := [(.ref sb), (.int (0 : Int32)), (.int (1 : Int32))]) (rest := []) (lenOf pd_0 rfl) rfl (by decide) (by decide) (Nat.le_of_ble_eq_true rfl) (by decide) (by decide) rfl rfl (pc' := 246) rfl at_243 ?_
      rintro T74 _ _ ⟨rfl, rfl⟩ X75
      show Go p e below _ (T74.setTop (mkF m 246 #[iv a, iv g0, iv g1, iv g2, iv g3, iv (1 : Int32), iv H0, iv H1, iv H2, iv H3, iv H0, iv s1, iv s2, rv sb, iv nn, rv ub, iv (0 : Int32), iv (H0 + 1 + 0), un, un, un] [(.int (H0 + 1 + 1))]))
      refine go_istore C X75 248 rfl at_246 #[iv a, iv g0, iv g1, iv g2, iv g3, iv (1 : Int32), iv H0, iv H1, iv H2, iv H3, iv H0, iv s1, iv s2, rv sb, iv nn, rv ub, iv (0 : Int32), iv (H0 + 1 + 0), iv (H0 + 1 + 1), un, un] rfl ?_
      refine go_aload C X75 250 rfl at_248 rfl rfl ?_
      refine go_iload C X75 252 rfl at_250 rfl ?_
      refine go_iconst C X75 253 rfl at_252 (z := 2) rfl ?_
      refine go_callS C X75 (C.w 2 rfl) (C.w 3 rfl) (C.w 4 rfl) (C.w 5 rfl) (own_at_1_2 l Z a0 C.ws sb H0 s1 s2 h51 n0 X75.old A54) (argsL := [(.ref sb), (.int (0 : Int32)), (.int (2 : Int32))]) (rest := []) (lenOf pd_0 rfl) rfl (by decide) (by decide) (Nat.le_of_ble_eq_true rfl) (by decide) (by decide) rfl rfl (pc' := 256) rfl at_253 ?_
      rintro T77 _ _ ⟨rfl, rfl⟩ X78
      show Go p e below _ (T77.setTop (mkF m 256 #[iv a, iv g0, iv g1, iv g2, iv g3, iv (1 : Int32), iv H0, iv H1, iv H2, iv H3, iv H0, iv s1, iv s2, rv sb, iv nn, rv ub, iv (0 : Int32), iv (H0 + 1 + 0), iv (H0 + 1 + 1), un, un] [(.int (H0 + 1 + 2))]))
      refine go_istore C X78 258 rfl at_256 #[iv a, iv g0, iv g1, iv g2, iv g3, iv (1 : Int32), iv H0, iv H1, iv H2, iv H3, iv H0, iv s1, iv s2, rv sb, iv nn, rv ub, iv (0 : Int32), iv (H0 + 1 + 0), iv (H0 + 1 + 1), iv (H0 + 1 + 2), un] rfl ?_
      refine go_aload C X78 260 rfl at_258 rfl rfl ?_
      refine go_iload C X78 262 rfl at_260 rfl ?_
      refine go_callS C X78 (C.w 6 rfl) (C.w 7 rfl) (C.w 8 rfl) (C.w 9 rfl) (own_next_1_1 l Z a0 C.ws ub nn H0 h51 n0 X78.old A53 ga_ub (by have z0 : (0 : Int32).toInt = 0 := rfl; have t := own_t unn (by omega) (by omega) 1 0 (by decide) (by decide); (first | have d182 := congrArg Int32.toInt c182 | skip); (first | have d199 := congrArg Int32.toInt c199 | skip); (first | have d216 := congrArg Int32.toInt c216 | skip); (first | have n182 := i_ne c182 | skip); (first | have n199 := i_ne c199 | skip); (first | have n216 := i_ne c216 | skip); have k9 : (1 : Int32).toInt = 1 := rfl; have i9 : (0 : Int32).toInt = 0 := rfl; first | exact i_eq (by omega) | exact fun q => (by have := congrArg Int32.toInt q; omega))) (argsL := [(.ref ub), (.int nn)]) (rest := []) (lenOf pd_1 rfl) rfl (by decide) (by decide) (Nat.le_of_ble_eq_true rfl) (by decide) (by decide) rfl rfl (pc' := 265) rfl at_262 ?_
      rintro T80 h82 _ ⟨rfl, K9, A9⟩ X81
      show Go p e below _ (T80.setTop (mkF m 265 #[iv a, iv g0, iv g1, iv g2, iv g3, iv (1 : Int32), iv H0, iv H1, iv H2, iv H3, iv H0, iv s1, iv s2, rv sb, iv nn, rv ub, iv (0 : Int32), iv (H0 + 1 + 0), iv (H0 + 1 + 1), iv (H0 + 1 + 2), un] [(.int (1 : Int32))]))
      have A83 := A54.keep K9 (ninS ne_sb_ub nin0)
      refine go_istore C X81 267 rfl at_265 #[iv a, iv g0, iv g1, iv g2, iv g3, iv (1 : Int32), iv H0, iv H1, iv H2, iv H3, iv H0, iv s1, iv s2, rv sb, iv nn, rv ub, iv (0 : Int32), iv (H0 + 1 + 0), iv (H0 + 1 + 1), iv (H0 + 1 + 2), iv (1 : Int32)] rfl ?_
      refine go_iload C X81 269 rfl at_267 rfl ?_
      refine go_iload C X81 271 rfl at_269 rfl ?_
      refine go_if_lt C X81 at_271 (pc' := 274) (pc2 := 278) rfl (by decide) (by decide) (fun (c271 : 0 < 0) => False.elim (by first | omega | exact absurd c271 (by decide))) (fun (c271 : 0 ≤ 0) => ?_)
      refine go_iconst C X81 275 rfl at_274 (z := 1) rfl ?_
      refine go_goto C X81 at_275 (pc' := 279) (by decide) (by decide) ?_
      refine go_icmp_ne C X81 at_279 (pc' := 282) (pc2 := 302) rfl (by decide) (by decide) (fun (c279 : ¬ (1 : Int32) = (1 : Int32)) => False.elim (by first | omega | exact absurd c279 (by decide))) (fun (c279 : (1 : Int32) = (1 : Int32)) => ?_)
      refine go_aload C X81 284 rfl at_282 rfl rfl ?_
      refine go_iload C X81 286 rfl at_284 rfl ?_
      refine go_iload C X81 288 rfl at_286 rfl ?_
      refine go_iload C X81 290 rfl at_288 rfl ?_
      refine go_iload C X81 292 rfl at_290 rfl ?_
      refine go_callS C X81 (C.w 10 rfl) (C.w 11 rfl) (C.w 4 rfl) (C.w 12 rfl) (own_same_1 l Z a0 C.ws ub (H0 + 1 + 0) (H0 + 1 + 1) (H0 + 1 + 2) (H0 + 1) h82 n0 X81.old A9 (own_rg _ _ (by first | exact Or.inl rfl | exact Or.inr (Or.inl ⟨_, rfl, rfl⟩) | exact Or.inr (Or.inr ⟨_, rfl, rfl⟩)))) (argsL := [(.ref ub), (.int (H0 + 1 + 0)), (.int (H0 + 1 + 1)), (.int (H0 + 1 + 2)), (.int (1 : Int32))]) (rest := []) (lenOf pd_2 rfl) rfl (by decide) (by decide) (Nat.le_of_ble_eq_true rfl) (by decide) (by decide) rfl rfl (pc' := 295) rfl at_292 ?_
      rintro T84 _ _ ⟨rfl, rfl⟩ X85
      show Go p e below _ (T84.setTop (mkF m 295 #[iv a, iv g0, iv g1, iv g2, iv g3, iv (1 : Int32), iv H0, iv H1, iv H2, iv H3, iv H0, iv s1, iv s2, rv sb, iv nn, rv ub, iv (0 : Int32), iv (H0 + 1 + 0), iv (H0 + 1 + 1), iv (H0 + 1 + 2), iv (1 : Int32)] [(.int (1 : Int32))]))
      refine go_if_eq C X85 at_295 (pc' := 298) (pc2 := 302) rfl (by decide) (by decide) (fun (c295 : (1 : Int32) = (0 : Int32)) => False.elim (by first | omega | exact absurd c295 (by decide))) (fun (c295 : ¬ (1 : Int32) = (0 : Int32)) => ?_)
      refine go_iconst C X85 299 rfl at_298 (z := 1) rfl ?_
      refine go_goto C X85 at_299 (pc' := 303) (by decide) (by decide) ?_
      exact go_retN C X85 (by simp) (z' := 1) rfl at_303 rfl (by decide) (by decide)
  · refine go_iload C X17 77 rfl at_75 rfl ?_
    refine go_if_ne C X17 at_77 (pc' := 80) (pc2 := 87) rfl (by decide) (by decide) (fun (c77 : ¬ (2 : Int32) = (0 : Int32)) => ?_) (fun (c77 : (2 : Int32) = (0 : Int32)) => False.elim (by first | omega | exact absurd c77 (by decide)))
    refine go_iload C X17 89 rfl at_87 rfl ?_
    refine go_iconst C X17 90 rfl at_89 (z := 1) rfl ?_
    refine go_icmp_ne C X17 at_90 (pc' := 93) (pc2 := 105) rfl (by decide) (by decide) (fun (c90 : ¬ (2 : Int32) = (1 : Int32)) => ?_) (fun (c90 : (2 : Int32) = (1 : Int32)) => False.elim (by first | omega | exact absurd c90 (by decide)))
    refine go_iload C X17 107 rfl at_105 rfl ?_
    refine go_iconst C X17 108 rfl at_107 (z := 2) rfl ?_
    refine go_icmp_ne C X17 at_108 (pc' := 111) (pc2 := 123) rfl (by decide) (by decide) (fun (c108 : ¬ (2 : Int32) = (2 : Int32)) => False.elim (by first | omega | exact absurd c108 (by decide))) (fun (c108 : (2 : Int32) = (2 : Int32)) => ?_)
    refine go_iload C X17 113 rfl at_111 rfl ?_
    refine go_iconst C X17 114 rfl at_113 (z := 1) rfl ?_
    refine go_iadd C X17 115 rfl at_114 ?_
    refine go_iload C X17 117 rfl at_115 rfl ?_
    refine go_iadd C X17 118 rfl at_117 ?_
    refine go_istore C X17 120 rfl at_118 #[iv a, iv g0, iv g1, iv g2, iv g3, iv (2 : Int32), iv H0, iv H1, iv H2, iv H3, iv H0, iv s1, iv s2, rv sb, iv ((s1 + (1 : Int32)) + H2), un, un, un, un, un, un] rfl ?_
    refine go_goto C X17 at_120 (pc' := 132) (by decide) (by decide) ?_
    have unn := i_add (b := H2) (i_add (a := s1) (b := 1) (y := 1) u1 rfl (by omega) (by omega)) rfl (by omega) (by omega)
    generalize enn : ((s1 + (1 : Int32)) + H2) = nn
    rw [enn] at unn
    refine go_iload C X17 134 rfl at_132 rfl ?_
    refine go_newarr C X17 (C.w 1 rfl) (cap := 2) (by decide) (by decide) (by decide) (by decide) (by decide) (pc' := 136) rfl at_134 (fun T87 h89 ub ha_ub ga_ub E90 A91  X88 => ?_)
    have ne_sb_ub : sb ≠ ub := Nat.ne_of_lt (Nat.lt_of_lt_of_le A20.lt (Nat.le_of_eq ha_ub.symm))
    have A92 := A20.ext E90
    replace A91 : La Z h89 ub .int ([(.int (0 : Int32)), (.int (0 : Int32))]) := A91
    refine go_astore C X88 138 rfl at_136 rfl #[iv a, iv g0, iv g1, iv g2, iv g3, iv (2 : Int32), iv H0, iv H1, iv H2, iv H3, iv H0, iv s1, iv s2, rv sb, iv nn, rv ub, un, un, un, un, un] rfl ?_
    refine go_iload C X88 140 rfl at_138 rfl ?_
    refine go_iconst C X88 141 rfl at_140 (z := 1) rfl ?_
    refine go_icmp_lt C X88 at_141 (pc' := 144) (pc2 := 150) rfl (by decide) (by decide) (fun (c141 : 2 < 1) => False.elim (by first | omega | exact absurd c141 (by decide))) (fun (c141 : 1 ≤ 2) => ?_)
    refine go_aload C X88 146 rfl at_144 rfl rfl ?_
    refine go_iconst C X88 147 rfl at_146 (z := 0) rfl ?_
    refine go_iload C X88 149 rfl at_147 rfl ?_
    refine go_iastore C X88 A91 (by decide) (by show _ < (2 : Int); decide) ga_ub (pc' := 150) rfl at_149 (fun T93 h95 W96 A97 X94 => ?_)
    have A98 := A92.other W96 ne_sb_ub
    replace A97 : La Z h95 ub .int ([(.int H0), (.int (0 : Int32))]) := A97
    refine go_iload C X94 152 rfl at_150 rfl ?_
    refine go_iconst C X94 153 rfl at_152 (z := 2) rfl ?_
    refine go_icmp_lt C X94 at_153 (pc' := 156) (pc2 := 162) rfl (by decide) (by decide) (fun (c153 : 2 < 2) => False.elim (by first | omega | exact absurd c153 (by decide))) (fun (c153 : 2 ≤ 2) => ?_)
    refine go_aload C X94 158 rfl at_156 rfl rfl ?_
    refine go_iconst C X94 159 rfl at_158 (z := 1) rfl ?_
    refine go_iload C X94 161 rfl at_159 rfl ?_
    refine go_iastore C X94 A97 (by decide) (by show _ < (2 : Int); decide) ga_ub (pc' := 162) rfl at_161 (fun T99 h101 W102 A103 X100 => ?_)
    have A104 := A98.other W102 ne_sb_ub
    replace A103 : La Z h101 ub .int ([(.int H0), (.int s1)]) := A103
    refine go_iload C X100 164 rfl at_162 rfl ?_
    refine go_iconst C X100 165 rfl at_164 (z := 3) rfl ?_
    refine go_icmp_lt C X100 at_165 (pc' := 168) (pc2 := 174) rfl (by decide) (by decide) (fun (c165 : 2 < 3) => ?_) (fun (c165 : 3 ≤ 2) => False.elim (by first | omega | exact absurd c165 (by decide)))
    refine go_iload C X100 176 rfl at_174 rfl ?_
    refine go_iconst C X100 177 rfl at_176 (z := 3) rfl ?_
    refine go_icmp_lt C X100 at_177 (pc' := 180) (pc2 := 191) rfl (by decide) (by decide) (fun (c177 : 2 < 3) => ?_) (fun (c177 : 3 ≤ 2) => False.elim (by first | omega | exact absurd c177 (by decide)))
    refine go_iload C X100 193 rfl at_191 rfl ?_
    refine go_iconst C X100 194 rfl at_193 (z := 2) rfl ?_
    refine go_icmp_lt C X100 at_194 (pc' := 197) (pc2 := 208) rfl (by decide) (by decide) (fun (c194 : 2 < 2) => False.elim (by first | omega | exact absurd c194 (by decide))) (fun (c194 : 2 ≤ 2) => ?_)
    refine go_iload C X100 199 rfl at_197 rfl ?_
    refine go_if_eq C X100 at_199 (pc' := 202) (pc2 := 208) rfl (by decide) (by decide) (fun (c199 : H2 = (0 : Int32)) => ?_) (fun (c199 : ¬ H2 = (0 : Int32)) => ?_)
    · refine go_iload C X100 210 rfl at_208 rfl ?_
      refine go_iconst C X100 211 rfl at_210 (z := 1) rfl ?_
      refine go_icmp_lt C X100 at_211 (pc' := 214) (pc2 := 225) rfl (by decide) (by decide) (fun (c211 : 2 < 1) => False.elim (by first | omega | exact absurd c211 (by decide))) (fun (c211 : 1 ≤ 2) => ?_)
      refine go_iload C X100 216 rfl at_214 rfl ?_
      refine go_if_eq C X100 at_216 (pc' := 219) (pc2 := 225) rfl (by decide) (by decide) (fun (c216 : H1 = (0 : Int32)) => ?_) (fun (c216 : ¬ H1 = (0 : Int32)) => ?_)
      · refine go_iconst C X100 226 rfl at_225 (z := (-1)) rfl ?_
        refine go_istore C X100 228 rfl at_226 #[iv a, iv g0, iv g1, iv g2, iv g3, iv (2 : Int32), iv H0, iv H1, iv H2, iv H3, iv H0, iv s1, iv s2, rv sb, iv nn, rv ub, iv (-1 : Int32), un, un, un, un] rfl ?_
        refine go_aload C X100 230 rfl at_228 rfl rfl ?_
        refine go_iload C X100 232 rfl at_230 rfl ?_
        refine go_iconst C X100 233 rfl at_232 (z := 0) rfl ?_
        refine go_callS C X100 (C.w 2 rfl) (C.w 3 rfl) (C.w 4 rfl) (C.w 5 rfl) (own_at_0_0 l Z a0 C.ws sb H0 s1 s2 h101 n0 X100.old A104) (argsL := [(.ref sb), (.int (-1 : Int32)), (.int (0 : Int32))]) (rest := []) (lenOf pd_0 rfl) rfl (by decide) (by decide) (Nat.le_of_ble_eq_true rfl) (by decide) (by decide) rfl rfl (pc' := 236) rfl at_233 ?_
        rintro T105 _ _ ⟨rfl, rfl⟩ X106
        show Go p e below _ (T105.setTop (mkF m 236 #[iv a, iv g0, iv g1, iv g2, iv g3, iv (2 : Int32), iv H0, iv H1, iv H2, iv H3, iv H0, iv s1, iv s2, rv sb, iv nn, rv ub, iv (-1 : Int32), un, un, un, un] [(.int H0)]))
        refine go_istore C X106 238 rfl at_236 #[iv a, iv g0, iv g1, iv g2, iv g3, iv (2 : Int32), iv H0, iv H1, iv H2, iv H3, iv H0, iv s1, iv s2, rv sb, iv nn, rv ub, iv (-1 : Int32), iv H0, un, un, un] rfl ?_
        refine go_aload C X106 240 rfl at_238 rfl rfl ?_
        refine go_iload C X106 242 rfl at_240 rfl ?_
        refine go_iconst C X106 243 rfl at_242 (z := 1) rfl ?_
        refine go_callS C X106 (C.w 2 rfl) (C.w 3 rfl) (C.w 4 rfl) (C.w 5 rfl) (own_at_0_1 l Z a0 C.ws sb H0 s1 s2 h101 n0 X106.old A104) (argsL := [(.ref sb), (.int (-1 : Int32)), (.int (1 : Int32))]) (rest := []) (lenOf pd_0 rfl) rfl (by decide) (by decide) (Nat.le_of_ble_eq_true rfl) (by decide) (by decide) rfl rfl (pc' := 246) rfl at_243 ?_
        rintro T108 _ _ ⟨rfl, rfl⟩ X109
        show Go p e below _ (T108.setTop (mkF m 246 #[iv a, iv g0, iv g1, iv g2, iv g3, iv (2 : Int32), iv H0, iv H1, iv H2, iv H3, iv H0, iv s1, iv s2, rv sb, iv nn, rv ub, iv (-1 : Int32), iv H0, un, un, un] [(.int s1)]))
        refine go_istore C X109 248 rfl at_246 #[iv a, iv g0, iv g1, iv g2, iv g3, iv (2 : Int32), iv H0, iv H1, iv H2, iv H3, iv H0, iv s1, iv s2, rv sb, iv nn, rv ub, iv (-1 : Int32), iv H0, iv s1, un, un] rfl ?_
        refine go_aload C X109 250 rfl at_248 rfl rfl ?_
        refine go_iload C X109 252 rfl at_250 rfl ?_
        refine go_iconst C X109 253 rfl at_252 (z := 2) rfl ?_
        refine go_callS C X109 (C.w 2 rfl) (C.w 3 rfl) (C.w 4 rfl) (C.w 5 rfl) (own_at_0_2 l Z a0 C.ws sb H0 s1 s2 h101 n0 X109.old A104) (argsL := [(.ref sb), (.int (-1 : Int32)), (.int (2 : Int32))]) (rest := []) (lenOf pd_0 rfl) rfl (by decide) (by decide) (Nat.le_of_ble_eq_true rfl) (by decide) (by decide) rfl rfl (pc' := 256) rfl at_253 ?_
        rintro T111 _ _ ⟨rfl, rfl⟩ X112
        show Go p e below _ (T111.setTop (mkF m 256 #[iv a, iv g0, iv g1, iv g2, iv g3, iv (2 : Int32), iv H0, iv H1, iv H2, iv H3, iv H0, iv s1, iv s2, rv sb, iv nn, rv ub, iv (-1 : Int32), iv H0, iv s1, un, un] [(.int s2)]))
        refine go_istore C X112 258 rfl at_256 #[iv a, iv g0, iv g1, iv g2, iv g3, iv (2 : Int32), iv H0, iv H1, iv H2, iv H3, iv H0, iv s1, iv s2, rv sb, iv nn, rv ub, iv (-1 : Int32), iv H0, iv s1, iv s2, un] rfl ?_
        refine go_aload C X112 260 rfl at_258 rfl rfl ?_
        refine go_iload C X112 262 rfl at_260 rfl ?_
        refine go_callS C X112 (C.w 6 rfl) (C.w 7 rfl) (C.w 8 rfl) (C.w 9 rfl) (own_next_2_0 l Z a0 C.ws ub nn H0 s1 h101 n0 X112.old A103 ga_ub (by have z0 : (0 : Int32).toInt = 0 := rfl; have t := own_t unn (by omega) (by omega) 2 0 (by decide) (by decide); (first | have d182 := congrArg Int32.toInt c182 | skip); (first | have d199 := congrArg Int32.toInt c199 | skip); (first | have d216 := congrArg Int32.toInt c216 | skip); (first | have n182 := i_ne c182 | skip); (first | have n199 := i_ne c199 | skip); (first | have n216 := i_ne c216 | skip); have k9 : (2 : Int32).toInt = 2 := rfl; have i9 : (0 : Int32).toInt = 0 := rfl; first | exact i_eq (by omega) | exact fun q => (by have := congrArg Int32.toInt q; omega)) (by have z0 : (0 : Int32).toInt = 0 := rfl; have t := own_t unn (by omega) (by omega) 2 1 (by decide) (by decide); (first | have d182 := congrArg Int32.toInt c182 | skip); (first | have d199 := congrArg Int32.toInt c199 | skip); (first | have d216 := congrArg Int32.toInt c216 | skip); (first | have n182 := i_ne c182 | skip); (first | have n199 := i_ne c199 | skip); (first | have n216 := i_ne c216 | skip); have k9 : (2 : Int32).toInt = 2 := rfl; have i9 : (1 : Int32).toInt = 1 := rfl; first | exact i_eq (by omega) | exact fun q => (by have := congrArg Int32.toInt q; omega))) (argsL := [(.ref ub), (.int nn)]) (rest := []) (lenOf pd_1 rfl) rfl (by decide) (by decide) (Nat.le_of_ble_eq_true rfl) (by decide) (by decide) rfl rfl (pc' := 265) rfl at_262 ?_
        rintro T114 h116 _ ⟨rfl, K9, A9⟩ X115
        show Go p e below _ (T114.setTop (mkF m 265 #[iv a, iv g0, iv g1, iv g2, iv g3, iv (2 : Int32), iv H0, iv H1, iv H2, iv H3, iv H0, iv s1, iv s2, rv sb, iv nn, rv ub, iv (-1 : Int32), iv H0, iv s1, iv s2, un] [(.int (0 : Int32))]))
        have A117 := A104.keep K9 (ninS ne_sb_ub nin0)
        refine go_istore C X115 267 rfl at_265 #[iv a, iv g0, iv g1, iv g2, iv g3, iv (2 : Int32), iv H0, iv H1, iv H2, iv H3, iv H0, iv s1, iv s2, rv sb, iv nn, rv ub, iv (-1 : Int32), iv H0, iv s1, iv s2, iv (0 : Int32)] rfl ?_
        refine go_iload C X115 269 rfl at_267 rfl ?_
        refine go_iload C X115 271 rfl at_269 rfl ?_
        refine go_if_lt C X115 at_271 (pc' := 274) (pc2 := 278) rfl (by decide) (by decide) (fun (c271 : (-1) < 0) => ?_) (fun (c271 : 0 ≤ (-1)) => False.elim (by first | omega | exact absurd c271 (by decide)))
        refine go_iconst C X115 279 rfl at_278 (z := 0) rfl ?_
        refine go_icmp_ne C X115 at_279 (pc' := 282) (pc2 := 302) rfl (by decide) (by decide) (fun (c279 : ¬ (0 : Int32) = (0 : Int32)) => False.elim (by first | omega | exact absurd c279 (by decide))) (fun (c279 : (0 : Int32) = (0 : Int32)) => ?_)
        refine go_aload C X115 284 rfl at_282 rfl rfl ?_
        refine go_iload C X115 286 rfl at_284 rfl ?_
        refine go_iload C X115 288 rfl at_286 rfl ?_
        refine go_iload C X115 290 rfl at_288 rfl ?_
        refine go_iload C X115 292 rfl at_290 rfl ?_
        refine go_callS C X115 (C.w 10 rfl) (C.w 11 rfl) (C.w 4 rfl) (C.w 12 rfl) (own_same_2 l Z a0 C.ws ub H0 s1 s2 H0 s1 h116 n0 X115.old A9 (own_rg _ _ (by first | exact Or.inl rfl | exact Or.inr (Or.inl ⟨_, rfl, rfl⟩) | exact Or.inr (Or.inr ⟨_, rfl, rfl⟩))) (own_rg _ _ (by first | exact Or.inl rfl | exact Or.inr (Or.inl ⟨_, rfl, rfl⟩) | exact Or.inr (Or.inr ⟨_, rfl, rfl⟩)))) (argsL := [(.ref ub), (.int H0), (.int s1), (.int s2), (.int (2 : Int32))]) (rest := []) (lenOf pd_2 rfl) rfl (by decide) (by decide) (Nat.le_of_ble_eq_true rfl) (by decide) (by decide) rfl rfl (pc' := 295) rfl at_292 ?_
        rintro T118 _ _ ⟨rfl, rfl⟩ X119
        show Go p e below _ (T118.setTop (mkF m 295 #[iv a, iv g0, iv g1, iv g2, iv g3, iv (2 : Int32), iv H0, iv H1, iv H2, iv H3, iv H0, iv s1, iv s2, rv sb, iv nn, rv ub, iv (-1 : Int32), iv H0, iv s1, iv s2, iv (0 : Int32)] [(.int (1 : Int32))]))
        refine go_if_eq C X119 at_295 (pc' := 298) (pc2 := 302) rfl (by decide) (by decide) (fun (c295 : (1 : Int32) = (0 : Int32)) => False.elim (by first | omega | exact absurd c295 (by decide))) (fun (c295 : ¬ (1 : Int32) = (0 : Int32)) => ?_)
        refine go_iconst C X119 299 rfl at_298 (z := 1) rfl ?_
        refine go_goto C X119 at_299 (pc' := 303) (by decide) (by decide) ?_
        exact go_retN C X119 (by simp) (z' := 1) rfl at_303 rfl (by decide) (by decide)
      · refine go_iconst C X100 220 rfl at_219 (z := 0) rfl ?_
        refine go_istore C X100 222 rfl at_220 #[iv a, iv g0, iv g1, iv g2, iv g3, iv (2 : Int32), iv H0, iv H1, iv H2, iv H3, iv H0, iv s1, iv s2, rv sb, iv nn, rv ub, iv (0 : Int32), un, un, un, un] rfl ?_
        refine go_goto C X100 at_222 (pc' := 228) (by decide) (by decide) ?_
        refine go_aload C X100 230 rfl at_228 rfl rfl ?_
        refine go_iload C X100 232 rfl at_230 rfl ?_
        refine go_iconst C X100 233 rfl at_232 (z := 0) rfl ?_
        refine go_callS C X100 (C.w 2 rfl) (C.w 3 rfl) (C.w 4 rfl) (C.w 5 rfl) (own_at_1_0 l Z a0 C.ws sb H0 s1 s2 h101 n0 X100.old A104) (argsL := [(.ref sb), (.int (0 : Int32)), (.int (0 : Int32))]) (rest := []) (lenOf pd_0 rfl) rfl (by decide) (by decide) (Nat.le_of_ble_eq_true rfl) (by decide) (by decide) rfl rfl (pc' := 236) rfl at_233 ?_
        rintro T121 _ _ ⟨rfl, rfl⟩ X122
        show Go p e below _ (T121.setTop (mkF m 236 #[iv a, iv g0, iv g1, iv g2, iv g3, iv (2 : Int32), iv H0, iv H1, iv H2, iv H3, iv H0, iv s1, iv s2, rv sb, iv nn, rv ub, iv (0 : Int32), un, un, un, un] [(.int (H0 + 1 + 0))]))
        refine go_istore C X122 238 rfl at_236 #[iv a, iv g0, iv g1, iv g2, iv g3, iv (2 : Int32), iv H0, iv H1, iv H2, iv H3, iv H0, iv s1, iv s2, rv sb, iv nn, rv ub, iv (0 : Int32), iv (H0 + 1 + 0), un, un, un] rfl ?_
        refine go_aload C X122 240 rfl at_238 rfl rfl ?_
        refine go_iload C X122 242 rfl at_240 rfl ?_
        refine go_iconst C X122 243 rfl at_242 (z := 1) rfl ?_
        refine go_callS C X122 (C.w 2 rfl) (C.w 3 rfl) (C.w 4 rfl) (C.w 5 rfl) (own_at_1_1 l Z a0 C.ws sb H0 s1 s2 h101 n0 X122.old A104) (argsL := [(.ref sb), (.int (0 : Int32)), (.int (1 : Int32))]) (rest := []) (lenOf pd_0 rfl) rfl (by decide) (by decide) (Nat.le_of_ble_eq_true rfl) (by decide) (by decide) rfl rfl (pc' := 246) rfl at_243 ?_
        rintro T124 _ _ ⟨rfl, rfl⟩ X125
        show Go p e below _ (T124.setTop (mkF m 246 #[iv a, iv g0, iv g1, iv g2, iv g3, iv (2 : Int32), iv H0, iv H1, iv H2, iv H3, iv H0, iv s1, iv s2, rv sb, iv nn, rv ub, iv (0 : Int32), iv (H0 + 1 + 0), un, un, un] [(.int (H0 + 1 + 1))]))
        refine go_istore C X125 248 rfl at_246 #[iv a, iv g0, iv g1, iv g2, iv g3, iv (2 : Int32), iv H0, iv H1, iv H2, iv H3, iv H0, iv s1, iv s2, rv sb, iv nn, rv ub, iv (0 : Int32), iv (H0 + 1 + 0), iv (H0 + 1 + 1), un, un] rfl ?_
        refine go_aload C X125 250 rfl at_248 rfl rfl ?_
        refine go_iload C X125 252 rfl at_250 rfl ?_
        refine go_iconst C X125 253 rfl at_252 (z := 2) rfl ?_
        refine go_callS C X125 (C.w 2 rfl) (C.w 3 rfl) (C.w 4 rfl) (C.w 5 rfl) (own_at_1_2 l Z a0 C.ws sb H0 s1 s2 h101 n0 X125.old A104) (argsL := [(.ref sb), (.int (0 : Int32)), (.int (2 : Int32))]) (rest := []) (lenOf pd_0 rfl) rfl (by decide) (by decide) (Nat.le_of_ble_eq_true rfl) (by decide) (by decide) rfl rfl (pc' := 256) rfl at_253 ?_
        rintro T127 _ _ ⟨rfl, rfl⟩ X128
        show Go p e below _ (T127.setTop (mkF m 256 #[iv a, iv g0, iv g1, iv g2, iv g3, iv (2 : Int32), iv H0, iv H1, iv H2, iv H3, iv H0, iv s1, iv s2, rv sb, iv nn, rv ub, iv (0 : Int32), iv (H0 + 1 + 0), iv (H0 + 1 + 1), un, un] [(.int (H0 + 1 + 2))]))
        refine go_istore C X128 258 rfl at_256 #[iv a, iv g0, iv g1, iv g2, iv g3, iv (2 : Int32), iv H0, iv H1, iv H2, iv H3, iv H0, iv s1, iv s2, rv sb, iv nn, rv ub, iv (0 : Int32), iv (H0 + 1 + 0), iv (H0 + 1 + 1), iv (H0 + 1 + 2), un] rfl ?_
        refine go_aload C X128 260 rfl at_258 rfl rfl ?_
        refine go_iload C X128 262 rfl at_260 rfl ?_
        refine go_callS C X128 (C.w 6 rfl) (C.w 7 rfl) (C.w 8 rfl) (C.w 9 rfl) (own_next_2_1 l Z a0 C.ws ub nn H0 s1 h101 n0 X128.old A103 ga_ub (by have z0 : (0 : Int32).toInt = 0 := rfl; have t := own_t unn (by omega) (by omega) 2 0 (by decide) (by decide); (first | have d182 := congrArg Int32.toInt c182 | skip); (first | have d199 := congrArg Int32.toInt c199 | skip); (first | have d216 := congrArg Int32.toInt c216 | skip); (first | have n182 := i_ne c182 | skip); (first | have n199 := i_ne c199 | skip); (first | have n216 := i_ne c216 | skip); have k9 : (2 : Int32).toInt = 2 := rfl; have i9 : (0 : Int32).toInt = 0 := rfl; first | exact i_eq (by omega) | exact fun q => (by have := congrArg Int32.toInt q; omega)) (by have z0 : (0 : Int32).toInt = 0 := rfl; have t := own_t unn (by omega) (by omega) 2 1 (by decide) (by decide); (first | have d182 := congrArg Int32.toInt c182 | skip); (first | have d199 := congrArg Int32.toInt c199 | skip); (first | have d216 := congrArg Int32.toInt c216 | skip); (first | have n182 := i_ne c182 | skip); (first | have n199 := i_ne c199 | skip); (first | have n216 := i_ne c216 | skip); have k9 : (2 : Int32).toInt = 2 := rfl; have i9 : (1 : Int32).toInt = 1 := rfl; first | exact i_eq (by omega) | exact fun q => (by have := congrArg Int32.toInt q; omega))) (argsL := [(.ref ub), (.int nn)]) (rest := []) (lenOf pd_1 rfl) rfl (by decide) (by decide) (Nat.le_of_ble_eq_true rfl) (by decide) (by decide) rfl rfl (pc' := 265) rfl at_262 ?_
        rintro T130 h132 _ ⟨rfl, K9, A9⟩ X131
        show Go p e below _ (T130.setTop (mkF m 265 #[iv a, iv g0, iv g1, iv g2, iv g3, iv (2 : Int32), iv H0, iv H1, iv H2, iv H3, iv H0, iv s1, iv s2, rv sb, iv nn, rv ub, iv (0 : Int32), iv (H0 + 1 + 0), iv (H0 + 1 + 1), iv (H0 + 1 + 2), un] [(.int (1 : Int32))]))
        have A133 := A104.keep K9 (ninS ne_sb_ub nin0)
        refine go_istore C X131 267 rfl at_265 #[iv a, iv g0, iv g1, iv g2, iv g3, iv (2 : Int32), iv H0, iv H1, iv H2, iv H3, iv H0, iv s1, iv s2, rv sb, iv nn, rv ub, iv (0 : Int32), iv (H0 + 1 + 0), iv (H0 + 1 + 1), iv (H0 + 1 + 2), iv (1 : Int32)] rfl ?_
        refine go_iload C X131 269 rfl at_267 rfl ?_
        refine go_iload C X131 271 rfl at_269 rfl ?_
        refine go_if_lt C X131 at_271 (pc' := 274) (pc2 := 278) rfl (by decide) (by decide) (fun (c271 : 0 < 0) => False.elim (by first | omega | exact absurd c271 (by decide))) (fun (c271 : 0 ≤ 0) => ?_)
        refine go_iconst C X131 275 rfl at_274 (z := 1) rfl ?_
        refine go_goto C X131 at_275 (pc' := 279) (by decide) (by decide) ?_
        refine go_icmp_ne C X131 at_279 (pc' := 282) (pc2 := 302) rfl (by decide) (by decide) (fun (c279 : ¬ (1 : Int32) = (1 : Int32)) => False.elim (by first | omega | exact absurd c279 (by decide))) (fun (c279 : (1 : Int32) = (1 : Int32)) => ?_)
        refine go_aload C X131 284 rfl at_282 rfl rfl ?_
        refine go_iload C X131 286 rfl at_284 rfl ?_
        refine go_iload C X131 288 rfl at_286 rfl ?_
        refine go_iload C X131 290 rfl at_288 rfl ?_
        refine go_iload C X131 292 rfl at_290 rfl ?_
        refine go_callS C X131 (C.w 10 rfl) (C.w 11 rfl) (C.w 4 rfl) (C.w 12 rfl) (own_same_2 l Z a0 C.ws ub (H0 + 1 + 0) (H0 + 1 + 1) (H0 + 1 + 2) (H0 + 1) ((H0 + 1) + 1) h132 n0 X131.old A9 (own_rg _ _ (by first | exact Or.inl rfl | exact Or.inr (Or.inl ⟨_, rfl, rfl⟩) | exact Or.inr (Or.inr ⟨_, rfl, rfl⟩))) (own_rg _ _ (by first | exact Or.inl rfl | exact Or.inr (Or.inl ⟨_, rfl, rfl⟩) | exact Or.inr (Or.inr ⟨_, rfl, rfl⟩)))) (argsL := [(.ref ub), (.int (H0 + 1 + 0)), (.int (H0 + 1 + 1)), (.int (H0 + 1 + 2)), (.int (2 : Int32))]) (rest := []) (lenOf pd_2 rfl) rfl (by decide) (by decide) (Nat.le_of_ble_eq_true rfl) (by decide) (by decide) rfl rfl (pc' := 295) rfl at_292 ?_
        rintro T134 _ _ ⟨rfl, rfl⟩ X135
        show Go p e below _ (T134.setTop (mkF m 295 #[iv a, iv g0, iv g1, iv g2, iv g3, iv (2 : Int32), iv H0, iv H1, iv H2, iv H3, iv H0, iv s1, iv s2, rv sb, iv nn, rv ub, iv (0 : Int32), iv (H0 + 1 + 0), iv (H0 + 1 + 1), iv (H0 + 1 + 2), iv (1 : Int32)] [(.int (1 : Int32))]))
        refine go_if_eq C X135 at_295 (pc' := 298) (pc2 := 302) rfl (by decide) (by decide) (fun (c295 : (1 : Int32) = (0 : Int32)) => False.elim (by first | omega | exact absurd c295 (by decide))) (fun (c295 : ¬ (1 : Int32) = (0 : Int32)) => ?_)
        refine go_iconst C X135 299 rfl at_298 (z := 1) rfl ?_
        refine go_goto C X135 at_299 (pc' := 303) (by decide) (by decide) ?_
        exact go_retN C X135 (by simp) (z' := 1) rfl at_303 rfl (by decide) (by decide)
    · refine go_iconst C X100 203 rfl at_202 (z := 1) rfl ?_
      refine go_istore C X100 205 rfl at_203 #[iv a, iv g0, iv g1, iv g2, iv g3, iv (2 : Int32), iv H0, iv H1, iv H2, iv H3, iv H0, iv s1, iv s2, rv sb, iv nn, rv ub, iv (1 : Int32), un, un, un, un] rfl ?_
      refine go_goto C X100 at_205 (pc' := 228) (by decide) (by decide) ?_
      refine go_aload C X100 230 rfl at_228 rfl rfl ?_
      refine go_iload C X100 232 rfl at_230 rfl ?_
      refine go_iconst C X100 233 rfl at_232 (z := 0) rfl ?_
      refine go_callS C X100 (C.w 2 rfl) (C.w 3 rfl) (C.w 4 rfl) (C.w 5 rfl) (own_at_2_0 l Z a0 C.ws sb H0 s1 s2 h101 n0 X100.old A104) (argsL := [(.ref sb), (.int (1 : Int32)), (.int (0 : Int32))]) (rest := []) (lenOf pd_0 rfl) rfl (by decide) (by decide) (Nat.le_of_ble_eq_true rfl) (by decide) (by decide) rfl rfl (pc' := 236) rfl at_233 ?_
      rintro T137 _ _ ⟨rfl, rfl⟩ X138
      show Go p e below _ (T137.setTop (mkF m 236 #[iv a, iv g0, iv g1, iv g2, iv g3, iv (2 : Int32), iv H0, iv H1, iv H2, iv H3, iv H0, iv s1, iv s2, rv sb, iv nn, rv ub, iv (1 : Int32), un, un, un, un] [(.int H0)]))
      refine go_istore C X138 238 rfl at_236 #[iv a, iv g0, iv g1, iv g2, iv g3, iv (2 : Int32), iv H0, iv H1, iv H2, iv H3, iv H0, iv s1, iv s2, rv sb, iv nn, rv ub, iv (1 : Int32), iv H0, un, un, un] rfl ?_
      refine go_aload C X138 240 rfl at_238 rfl rfl ?_
      refine go_iload C X138 242 rfl at_240 rfl ?_
      refine go_iconst C X138 243 rfl at_242 (z := 1) rfl ?_
      refine go_callS C X138 (C.w 2 rfl) (C.w 3 rfl) (C.w 4 rfl) (C.w 5 rfl) (own_at_2_1 l Z a0 C.ws sb H0 s1 s2 h101 n0 X138.old A104) (argsL := [(.ref sb), (.int (1 : Int32)), (.int (1 : Int32))]) (rest := []) (lenOf pd_0 rfl) rfl (by decide) (by decide) (Nat.le_of_ble_eq_true rfl) (by decide) (by decide) rfl rfl (pc' := 246) rfl at_243 ?_
      rintro T140 _ _ ⟨rfl, rfl⟩ X141
      show Go p e below _ (T140.setTop (mkF m 246 #[iv a, iv g0, iv g1, iv g2, iv g3, iv (2 : Int32), iv H0, iv H1, iv H2, iv H3, iv H0, iv s1, iv s2, rv sb, iv nn, rv ub, iv (1 : Int32), iv H0, un, un, un] [(.int (s1 + 1 + 0))]))
      refine go_istore C X141 248 rfl at_246 #[iv a, iv g0, iv g1, iv g2, iv g3, iv (2 : Int32), iv H0, iv H1, iv H2, iv H3, iv H0, iv s1, iv s2, rv sb, iv nn, rv ub, iv (1 : Int32), iv H0, iv (s1 + 1 + 0), un, un] rfl ?_
      refine go_aload C X141 250 rfl at_248 rfl rfl ?_
      refine go_iload C X141 252 rfl at_250 rfl ?_
      refine go_iconst C X141 253 rfl at_252 (z := 2) rfl ?_
      refine go_callS C X141 (C.w 2 rfl) (C.w 3 rfl) (C.w 4 rfl) (C.w 5 rfl) (own_at_2_2 l Z a0 C.ws sb H0 s1 s2 h101 n0 X141.old A104) (argsL := [(.ref sb), (.int (1 : Int32)), (.int (2 : Int32))]) (rest := []) (lenOf pd_0 rfl) rfl (by decide) (by decide) (Nat.le_of_ble_eq_true rfl) (by decide) (by decide) rfl rfl (pc' := 256) rfl at_253 ?_
      rintro T143 _ _ ⟨rfl, rfl⟩ X144
      show Go p e below _ (T143.setTop (mkF m 256 #[iv a, iv g0, iv g1, iv g2, iv g3, iv (2 : Int32), iv H0, iv H1, iv H2, iv H3, iv H0, iv s1, iv s2, rv sb, iv nn, rv ub, iv (1 : Int32), iv H0, iv (s1 + 1 + 0), un, un] [(.int (s1 + 1 + 1))]))
      refine go_istore C X144 258 rfl at_256 #[iv a, iv g0, iv g1, iv g2, iv g3, iv (2 : Int32), iv H0, iv H1, iv H2, iv H3, iv H0, iv s1, iv s2, rv sb, iv nn, rv ub, iv (1 : Int32), iv H0, iv (s1 + 1 + 0), iv (s1 + 1 + 1), un] rfl ?_
      refine go_aload C X144 260 rfl at_258 rfl rfl ?_
      refine go_iload C X144 262 rfl at_260 rfl ?_
      refine go_callS C X144 (C.w 6 rfl) (C.w 7 rfl) (C.w 8 rfl) (C.w 9 rfl) (own_next_2_2 l Z a0 C.ws ub nn H0 s1 h101 n0 X144.old A103 ga_ub (by have z0 : (0 : Int32).toInt = 0 := rfl; have t := own_t unn (by omega) (by omega) 2 1 (by decide) (by decide); (first | have d182 := congrArg Int32.toInt c182 | skip); (first | have d199 := congrArg Int32.toInt c199 | skip); (first | have d216 := congrArg Int32.toInt c216 | skip); (first | have n182 := i_ne c182 | skip); (first | have n199 := i_ne c199 | skip); (first | have n216 := i_ne c216 | skip); have k9 : (2 : Int32).toInt = 2 := rfl; have i9 : (1 : Int32).toInt = 1 := rfl; first | exact i_eq (by omega) | exact fun q => (by have := congrArg Int32.toInt q; omega))) (argsL := [(.ref ub), (.int nn)]) (rest := []) (lenOf pd_1 rfl) rfl (by decide) (by decide) (Nat.le_of_ble_eq_true rfl) (by decide) (by decide) rfl rfl (pc' := 265) rfl at_262 ?_
      rintro T146 h148 _ ⟨rfl, K9, A9⟩ X147
      show Go p e below _ (T146.setTop (mkF m 265 #[iv a, iv g0, iv g1, iv g2, iv g3, iv (2 : Int32), iv H0, iv H1, iv H2, iv H3, iv H0, iv s1, iv s2, rv sb, iv nn, rv ub, iv (1 : Int32), iv H0, iv (s1 + 1 + 0), iv (s1 + 1 + 1), un] [(.int (1 : Int32))]))
      have A149 := A104.keep K9 (ninS ne_sb_ub nin0)
      refine go_istore C X147 267 rfl at_265 #[iv a, iv g0, iv g1, iv g2, iv g3, iv (2 : Int32), iv H0, iv H1, iv H2, iv H3, iv H0, iv s1, iv s2, rv sb, iv nn, rv ub, iv (1 : Int32), iv H0, iv (s1 + 1 + 0), iv (s1 + 1 + 1), iv (1 : Int32)] rfl ?_
      refine go_iload C X147 269 rfl at_267 rfl ?_
      refine go_iload C X147 271 rfl at_269 rfl ?_
      refine go_if_lt C X147 at_271 (pc' := 274) (pc2 := 278) rfl (by decide) (by decide) (fun (c271 : 1 < 0) => False.elim (by first | omega | exact absurd c271 (by decide))) (fun (c271 : 0 ≤ 1) => ?_)
      refine go_iconst C X147 275 rfl at_274 (z := 1) rfl ?_
      refine go_goto C X147 at_275 (pc' := 279) (by decide) (by decide) ?_
      refine go_icmp_ne C X147 at_279 (pc' := 282) (pc2 := 302) rfl (by decide) (by decide) (fun (c279 : ¬ (1 : Int32) = (1 : Int32)) => False.elim (by first | omega | exact absurd c279 (by decide))) (fun (c279 : (1 : Int32) = (1 : Int32)) => ?_)
      refine go_aload C X147 284 rfl at_282 rfl rfl ?_
      refine go_iload C X147 286 rfl at_284 rfl ?_
      refine go_iload C X147 288 rfl at_286 rfl ?_
      refine go_iload C X147 290 rfl at_288 rfl ?_
      refine go_iload C X147 292 rfl at_290 rfl ?_
      refine go_callS C X147 (C.w 10 rfl) (C.w 11 rfl) (C.w 4 rfl) (C.w 12 rfl) (own_same_2 l Z a0 C.ws ub H0 (s1 + 1 + 0) (s1 + 1 + 1) H0 (s1 + 1) h148 n0 X147.old A9 (own_rg _ _ (by first | exact Or.inl rfl | exact Or.inr (Or.inl ⟨_, rfl, rfl⟩) | exact Or.inr (Or.inr ⟨_, rfl, rfl⟩))) (own_rg _ _ (by first | exact Or.inl rfl | exact Or.inr (Or.inl ⟨_, rfl, rfl⟩) | exact Or.inr (Or.inr ⟨_, rfl, rfl⟩)))) (argsL := [(.ref ub), (.int H0), (.int (s1 + 1 + 0)), (.int (s1 + 1 + 1)), (.int (2 : Int32))]) (rest := []) (lenOf pd_2 rfl) rfl (by decide) (by decide) (Nat.le_of_ble_eq_true rfl) (by decide) (by decide) rfl rfl (pc' := 295) rfl at_292 ?_
      rintro T150 _ _ ⟨rfl, rfl⟩ X151
      show Go p e below _ (T150.setTop (mkF m 295 #[iv a, iv g0, iv g1, iv g2, iv g3, iv (2 : Int32), iv H0, iv H1, iv H2, iv H3, iv H0, iv s1, iv s2, rv sb, iv nn, rv ub, iv (1 : Int32), iv H0, iv (s1 + 1 + 0), iv (s1 + 1 + 1), iv (1 : Int32)] [(.int (1 : Int32))]))
      refine go_if_eq C X151 at_295 (pc' := 298) (pc2 := 302) rfl (by decide) (by decide) (fun (c295 : (1 : Int32) = (0 : Int32)) => False.elim (by first | omega | exact absurd c295 (by decide))) (fun (c295 : ¬ (1 : Int32) = (0 : Int32)) => ?_)
      refine go_iconst C X151 299 rfl at_298 (z := 1) rfl ?_
      refine go_goto C X151 at_299 (pc' := 303) (by decide) (by decide) ?_
      exact go_retN C X151 (by simp) (z' := 1) rfl at_303 rfl (by decide) (by decide)
  · refine go_iload C X17 77 rfl at_75 rfl ?_
    refine go_if_ne C X17 at_77 (pc' := 80) (pc2 := 87) rfl (by decide) (by decide) (fun (c77 : ¬ (3 : Int32) = (0 : Int32)) => ?_) (fun (c77 : (3 : Int32) = (0 : Int32)) => False.elim (by first | omega | exact absurd c77 (by decide)))
    refine go_iload C X17 89 rfl at_87 rfl ?_
    refine go_iconst C X17 90 rfl at_89 (z := 1) rfl ?_
    refine go_icmp_ne C X17 at_90 (pc' := 93) (pc2 := 105) rfl (by decide) (by decide) (fun (c90 : ¬ (3 : Int32) = (1 : Int32)) => ?_) (fun (c90 : (3 : Int32) = (1 : Int32)) => False.elim (by first | omega | exact absurd c90 (by decide)))
    refine go_iload C X17 107 rfl at_105 rfl ?_
    refine go_iconst C X17 108 rfl at_107 (z := 2) rfl ?_
    refine go_icmp_ne C X17 at_108 (pc' := 111) (pc2 := 123) rfl (by decide) (by decide) (fun (c108 : ¬ (3 : Int32) = (2 : Int32)) => ?_) (fun (c108 : (3 : Int32) = (2 : Int32)) => False.elim (by first | omega | exact absurd c108 (by decide)))
    refine go_iload C X17 125 rfl at_123 rfl ?_
    refine go_iconst C X17 126 rfl at_125 (z := 1) rfl ?_
    refine go_iadd C X17 127 rfl at_126 ?_
    refine go_iload C X17 129 rfl at_127 rfl ?_
    refine go_iadd C X17 130 rfl at_129 ?_
    refine go_istore C X17 132 rfl at_130 #[iv a, iv g0, iv g1, iv g2, iv g3, iv (3 : Int32), iv H0, iv H1, iv H2, iv H3, iv H0, iv s1, iv s2, rv sb, iv ((s2 + (1 : Int32)) + H3), un, un, un, un, un, un] rfl ?_
    have unn := i_add (b := H3) (i_add (a := s2) (b := 1) (y := 1) u2 rfl (by omega) (by omega)) rfl (by omega) (by omega)
    generalize enn : ((s2 + (1 : Int32)) + H3) = nn
    rw [enn] at unn
    refine go_iload C X17 134 rfl at_132 rfl ?_
    refine go_newarr C X17 (C.w 1 rfl) (cap := 3) (by decide) (by decide) (by decide) (by decide) (by decide) (pc' := 136) rfl at_134 (fun T153 h155 ub ha_ub ga_ub E156 A157  X154 => ?_)
    have ne_sb_ub : sb ≠ ub := Nat.ne_of_lt (Nat.lt_of_lt_of_le A20.lt (Nat.le_of_eq ha_ub.symm))
    have A158 := A20.ext E156
    replace A157 : La Z h155 ub .int ([(.int (0 : Int32)), (.int (0 : Int32)), (.int (0 : Int32))]) := A157
    refine go_astore C X154 138 rfl at_136 rfl #[iv a, iv g0, iv g1, iv g2, iv g3, iv (3 : Int32), iv H0, iv H1, iv H2, iv H3, iv H0, iv s1, iv s2, rv sb, iv nn, rv ub, un, un, un, un, un] rfl ?_
    refine go_iload C X154 140 rfl at_138 rfl ?_
    refine go_iconst C X154 141 rfl at_140 (z := 1) rfl ?_
    refine go_icmp_lt C X154 at_141 (pc' := 144) (pc2 := 150) rfl (by decide) (by decide) (fun (c141 : 3 < 1) => False.elim (by first | omega | exact absurd c141 (by decide))) (fun (c141 : 1 ≤ 3) => ?_)
    refine go_aload C X154 146 rfl at_144 rfl rfl ?_
    refine go_iconst C X154 147 rfl at_146 (z := 0) rfl ?_
    refine go_iload C X154 149 rfl at_147 rfl ?_
    refine go_iastore C X154 A157 (by decide) (by show _ < (3 : Int); decide) ga_ub (pc' := 150) rfl at_149 (fun T159 h161 W162 A163 X160 => ?_)
    have A164 := A158.other W162 ne_sb_ub
    replace A163 : La Z h161 ub .int ([(.int H0), (.int (0 : Int32)), (.int (0 : Int32))]) := A163
    refine go_iload C X160 152 rfl at_150 rfl ?_
    refine go_iconst C X160 153 rfl at_152 (z := 2) rfl ?_
    refine go_icmp_lt C X160 at_153 (pc' := 156) (pc2 := 162) rfl (by decide) (by decide) (fun (c153 : 3 < 2) => False.elim (by first | omega | exact absurd c153 (by decide))) (fun (c153 : 2 ≤ 3) => ?_)
    refine go_aload C X160 158 rfl at_156 rfl rfl ?_
    refine go_iconst C X160 159 rfl at_158 (z := 1) rfl ?_
    refine go_iload C X160 161 rfl at_159 rfl ?_
    refine go_iastore C X160 A163 (by decide) (by show _ < (3 : Int); decide) ga_ub (pc' := 162) rfl at_161 (fun T165 h167 W168 A169 X166 => ?_)
    have A170 := A164.other W168 ne_sb_ub
    replace A169 : La Z h167 ub .int ([(.int H0), (.int s1), (.int (0 : Int32))]) := A169
    refine go_iload C X166 164 rfl at_162 rfl ?_
    refine go_iconst C X166 165 rfl at_164 (z := 3) rfl ?_
    refine go_icmp_lt C X166 at_165 (pc' := 168) (pc2 := 174) rfl (by decide) (by decide) (fun (c165 : 3 < 3) => False.elim (by first | omega | exact absurd c165 (by decide))) (fun (c165 : 3 ≤ 3) => ?_)
    refine go_aload C X166 170 rfl at_168 rfl rfl ?_
    refine go_iconst C X166 171 rfl at_170 (z := 2) rfl ?_
    refine go_iload C X166 173 rfl at_171 rfl ?_
    refine go_iastore C X166 A169 (by decide) (by show _ < (3 : Int); decide) ga_ub (pc' := 174) rfl at_173 (fun T171 h173 W174 A175 X172 => ?_)
    have A176 := A170.other W174 ne_sb_ub
    replace A175 : La Z h173 ub .int ([(.int H0), (.int s1), (.int s2)]) := A175
    refine go_iload C X172 176 rfl at_174 rfl ?_
    refine go_iconst C X172 177 rfl at_176 (z := 3) rfl ?_
    refine go_icmp_lt C X172 at_177 (pc' := 180) (pc2 := 191) rfl (by decide) (by decide) (fun (c177 : 3 < 3) => False.elim (by first | omega | exact absurd c177 (by decide))) (fun (c177 : 3 ≤ 3) => ?_)
    refine go_iload C X172 182 rfl at_180 rfl ?_
    refine go_if_eq C X172 at_182 (pc' := 185) (pc2 := 191) rfl (by decide) (by decide) (fun (c182 : H3 = (0 : Int32)) => ?_) (fun (c182 : ¬ H3 = (0 : Int32)) => ?_)
    · refine go_iload C X172 193 rfl at_191 rfl ?_
      refine go_iconst C X172 194 rfl at_193 (z := 2) rfl ?_
      refine go_icmp_lt C X172 at_194 (pc' := 197) (pc2 := 208) rfl (by decide) (by decide) (fun (c194 : 3 < 2) => False.elim (by first | omega | exact absurd c194 (by decide))) (fun (c194 : 2 ≤ 3) => ?_)
      refine go_iload C X172 199 rfl at_197 rfl ?_
      refine go_if_eq C X172 at_199 (pc' := 202) (pc2 := 208) rfl (by decide) (by decide) (fun (c199 : H2 = (0 : Int32)) => ?_) (fun (c199 : ¬ H2 = (0 : Int32)) => ?_)
      · refine go_iload C X172 210 rfl at_208 rfl ?_
        refine go_iconst C X172 211 rfl at_210 (z := 1) rfl ?_
        refine go_icmp_lt C X172 at_211 (pc' := 214) (pc2 := 225) rfl (by decide) (by decide) (fun (c211 : 3 < 1) => False.elim (by first | omega | exact absurd c211 (by decide))) (fun (c211 : 1 ≤ 3) => ?_)
        refine go_iload C X172 216 rfl at_214 rfl ?_
        refine go_if_eq C X172 at_216 (pc' := 219) (pc2 := 225) rfl (by decide) (by decide) (fun (c216 : H1 = (0 : Int32)) => ?_) (fun (c216 : ¬ H1 = (0 : Int32)) => ?_)
        · refine go_iconst C X172 226 rfl at_225 (z := (-1)) rfl ?_
          refine go_istore C X172 228 rfl at_226 #[iv a, iv g0, iv g1, iv g2, iv g3, iv (3 : Int32), iv H0, iv H1, iv H2, iv H3, iv H0, iv s1, iv s2, rv sb, iv nn, rv ub, iv (-1 : Int32), un, un, un, un] rfl ?_
          refine go_aload C X172 230 rfl at_228 rfl rfl ?_
          refine go_iload C X172 232 rfl at_230 rfl ?_
          refine go_iconst C X172 233 rfl at_232 (z := 0) rfl ?_
          refine go_callS C X172 (C.w 2 rfl) (C.w 3 rfl) (C.w 4 rfl) (C.w 5 rfl) (own_at_0_0 l Z a0 C.ws sb H0 s1 s2 h173 n0 X172.old A176) (argsL := [(.ref sb), (.int (-1 : Int32)), (.int (0 : Int32))]) (rest := []) (lenOf pd_0 rfl) rfl (by decide) (by decide) (Nat.le_of_ble_eq_true rfl) (by decide) (by decide) rfl rfl (pc' := 236) rfl at_233 ?_
          rintro T177 _ _ ⟨rfl, rfl⟩ X178
          show Go p e below _ (T177.setTop (mkF m 236 #[iv a, iv g0, iv g1, iv g2, iv g3, iv (3 : Int32), iv H0, iv H1, iv H2, iv H3, iv H0, iv s1, iv s2, rv sb, iv nn, rv ub, iv (-1 : Int32), un, un, un, un] [(.int H0)]))
          refine go_istore C X178 238 rfl at_236 #[iv a, iv g0, iv g1, iv g2, iv g3, iv (3 : Int32), iv H0, iv H1, iv H2, iv H3, iv H0, iv s1, iv s2, rv sb, iv nn, rv ub, iv (-1 : Int32), iv H0, un, un, un] rfl ?_
          refine go_aload C X178 240 rfl at_238 rfl rfl ?_
          refine go_iload C X178 242 rfl at_240 rfl ?_
          refine go_iconst C X178 243 rfl at_242 (z := 1) rfl ?_
          refine go_callS C X178 (C.w 2 rfl) (C.w 3 rfl) (C.w 4 rfl) (C.w 5 rfl) (own_at_0_1 l Z a0 C.ws sb H0 s1 s2 h173 n0 X178.old A176) (argsL := [(.ref sb), (.int (-1 : Int32)), (.int (1 : Int32))]) (rest := []) (lenOf pd_0 rfl) rfl (by decide) (by decide) (Nat.le_of_ble_eq_true rfl) (by decide) (by decide) rfl rfl (pc' := 246) rfl at_243 ?_
          rintro T180 _ _ ⟨rfl, rfl⟩ X181
          show Go p e below _ (T180.setTop (mkF m 246 #[iv a, iv g0, iv g1, iv g2, iv g3, iv (3 : Int32), iv H0, iv H1, iv H2, iv H3, iv H0, iv s1, iv s2, rv sb, iv nn, rv ub, iv (-1 : Int32), iv H0, un, un, un] [(.int s1)]))
          refine go_istore C X181 248 rfl at_246 #[iv a, iv g0, iv g1, iv g2, iv g3, iv (3 : Int32), iv H0, iv H1, iv H2, iv H3, iv H0, iv s1, iv s2, rv sb, iv nn, rv ub, iv (-1 : Int32), iv H0, iv s1, un, un] rfl ?_
          refine go_aload C X181 250 rfl at_248 rfl rfl ?_
          refine go_iload C X181 252 rfl at_250 rfl ?_
          refine go_iconst C X181 253 rfl at_252 (z := 2) rfl ?_
          refine go_callS C X181 (C.w 2 rfl) (C.w 3 rfl) (C.w 4 rfl) (C.w 5 rfl) (own_at_0_2 l Z a0 C.ws sb H0 s1 s2 h173 n0 X181.old A176) (argsL := [(.ref sb), (.int (-1 : Int32)), (.int (2 : Int32))]) (rest := []) (lenOf pd_0 rfl) rfl (by decide) (by decide) (Nat.le_of_ble_eq_true rfl) (by decide) (by decide) rfl rfl (pc' := 256) rfl at_253 ?_
          rintro T183 _ _ ⟨rfl, rfl⟩ X184
          show Go p e below _ (T183.setTop (mkF m 256 #[iv a, iv g0, iv g1, iv g2, iv g3, iv (3 : Int32), iv H0, iv H1, iv H2, iv H3, iv H0, iv s1, iv s2, rv sb, iv nn, rv ub, iv (-1 : Int32), iv H0, iv s1, un, un] [(.int s2)]))
          refine go_istore C X184 258 rfl at_256 #[iv a, iv g0, iv g1, iv g2, iv g3, iv (3 : Int32), iv H0, iv H1, iv H2, iv H3, iv H0, iv s1, iv s2, rv sb, iv nn, rv ub, iv (-1 : Int32), iv H0, iv s1, iv s2, un] rfl ?_
          refine go_aload C X184 260 rfl at_258 rfl rfl ?_
          refine go_iload C X184 262 rfl at_260 rfl ?_
          refine go_callS C X184 (C.w 6 rfl) (C.w 7 rfl) (C.w 8 rfl) (C.w 9 rfl) (own_next_3_0 l Z a0 C.ws ub nn H0 s1 s2 h173 n0 X184.old A175 ga_ub (by have z0 : (0 : Int32).toInt = 0 := rfl; have t := own_t unn (by omega) (by omega) 3 0 (by decide) (by decide); (first | have d182 := congrArg Int32.toInt c182 | skip); (first | have d199 := congrArg Int32.toInt c199 | skip); (first | have d216 := congrArg Int32.toInt c216 | skip); (first | have n182 := i_ne c182 | skip); (first | have n199 := i_ne c199 | skip); (first | have n216 := i_ne c216 | skip); have k9 : (3 : Int32).toInt = 3 := rfl; have i9 : (0 : Int32).toInt = 0 := rfl; first | exact i_eq (by omega) | exact fun q => (by have := congrArg Int32.toInt q; omega)) (by have z0 : (0 : Int32).toInt = 0 := rfl; have t := own_t unn (by omega) (by omega) 3 1 (by decide) (by decide); (first | have d182 := congrArg Int32.toInt c182 | skip); (first | have d199 := congrArg Int32.toInt c199 | skip); (first | have d216 := congrArg Int32.toInt c216 | skip); (first | have n182 := i_ne c182 | skip); (first | have n199 := i_ne c199 | skip); (first | have n216 := i_ne c216 | skip); have k9 : (3 : Int32).toInt = 3 := rfl; have i9 : (1 : Int32).toInt = 1 := rfl; first | exact i_eq (by omega) | exact fun q => (by have := congrArg Int32.toInt q; omega)) (by have z0 : (0 : Int32).toInt = 0 := rfl; have t := own_t unn (by omega) (by omega) 3 2 (by decide) (by decide); (first | have d182 := congrArg Int32.toInt c182 | skip); (first | have d199 := congrArg Int32.toInt c199 | skip); (first | have d216 := congrArg Int32.toInt c216 | skip); (first | have n182 := i_ne c182 | skip); (first | have n199 := i_ne c199 | skip); (first | have n216 := i_ne c216 | skip); have k9 : (3 : Int32).toInt = 3 := rfl; have i9 : (2 : Int32).toInt = 2 := rfl; first | exact i_eq (by omega) | exact fun q => (by have := congrArg Int32.toInt q; omega))) (argsL := [(.ref ub), (.int nn)]) (rest := []) (lenOf pd_1 rfl) rfl (by decide) (by decide) (Nat.le_of_ble_eq_true rfl) (by decide) (by decide) rfl rfl (pc' := 265) rfl at_262 ?_
          rintro T186 h188 _ ⟨rfl, K9, A9⟩ X187
          show Go p e below _ (T186.setTop (mkF m 265 #[iv a, iv g0, iv g1, iv g2, iv g3, iv (3 : Int32), iv H0, iv H1, iv H2, iv H3, iv H0, iv s1, iv s2, rv sb, iv nn, rv ub, iv (-1 : Int32), iv H0, iv s1, iv s2, un] [(.int (0 : Int32))]))
          have A189 := A176.keep K9 (ninS ne_sb_ub nin0)
          refine go_istore C X187 267 rfl at_265 #[iv a, iv g0, iv g1, iv g2, iv g3, iv (3 : Int32), iv H0, iv H1, iv H2, iv H3, iv H0, iv s1, iv s2, rv sb, iv nn, rv ub, iv (-1 : Int32), iv H0, iv s1, iv s2, iv (0 : Int32)] rfl ?_
          refine go_iload C X187 269 rfl at_267 rfl ?_
          refine go_iload C X187 271 rfl at_269 rfl ?_
          refine go_if_lt C X187 at_271 (pc' := 274) (pc2 := 278) rfl (by decide) (by decide) (fun (c271 : (-1) < 0) => ?_) (fun (c271 : 0 ≤ (-1)) => False.elim (by first | omega | exact absurd c271 (by decide)))
          refine go_iconst C X187 279 rfl at_278 (z := 0) rfl ?_
          refine go_icmp_ne C X187 at_279 (pc' := 282) (pc2 := 302) rfl (by decide) (by decide) (fun (c279 : ¬ (0 : Int32) = (0 : Int32)) => False.elim (by first | omega | exact absurd c279 (by decide))) (fun (c279 : (0 : Int32) = (0 : Int32)) => ?_)
          refine go_aload C X187 284 rfl at_282 rfl rfl ?_
          refine go_iload C X187 286 rfl at_284 rfl ?_
          refine go_iload C X187 288 rfl at_286 rfl ?_
          refine go_iload C X187 290 rfl at_288 rfl ?_
          refine go_iload C X187 292 rfl at_290 rfl ?_
          refine go_callS C X187 (C.w 10 rfl) (C.w 11 rfl) (C.w 4 rfl) (C.w 12 rfl) (own_same_3 l Z a0 C.ws ub H0 s1 s2 H0 s1 s2 h188 n0 X187.old A9 (own_rg _ _ (by first | exact Or.inl rfl | exact Or.inr (Or.inl ⟨_, rfl, rfl⟩) | exact Or.inr (Or.inr ⟨_, rfl, rfl⟩))) (own_rg _ _ (by first | exact Or.inl rfl | exact Or.inr (Or.inl ⟨_, rfl, rfl⟩) | exact Or.inr (Or.inr ⟨_, rfl, rfl⟩))) (own_rg _ _ (by first | exact Or.inl rfl | exact Or.inr (Or.inl ⟨_, rfl, rfl⟩) | exact Or.inr (Or.inr ⟨_, rfl, rfl⟩)))) (argsL := [(.ref ub), (.int H0), (.int s1), (.int s2), (.int (3 : Int32))]) (rest := []) (lenOf pd_2 rfl) rfl (by decide) (by decide) (Nat.le_of_ble_eq_true rfl) (by decide) (by decide) rfl rfl (pc' := 295) rfl at_292 ?_
          rintro T190 _ _ ⟨rfl, rfl⟩ X191
          show Go p e below _ (T190.setTop (mkF m 295 #[iv a, iv g0, iv g1, iv g2, iv g3, iv (3 : Int32), iv H0, iv H1, iv H2, iv H3, iv H0, iv s1, iv s2, rv sb, iv nn, rv ub, iv (-1 : Int32), iv H0, iv s1, iv s2, iv (0 : Int32)] [(.int (1 : Int32))]))
          refine go_if_eq C X191 at_295 (pc' := 298) (pc2 := 302) rfl (by decide) (by decide) (fun (c295 : (1 : Int32) = (0 : Int32)) => False.elim (by first | omega | exact absurd c295 (by decide))) (fun (c295 : ¬ (1 : Int32) = (0 : Int32)) => ?_)
          refine go_iconst C X191 299 rfl at_298 (z := 1) rfl ?_
          refine go_goto C X191 at_299 (pc' := 303) (by decide) (by decide) ?_
          exact go_retN C X191 (by simp) (z' := 1) rfl at_303 rfl (by decide) (by decide)
        · refine go_iconst C X172 220 rfl at_219 (z := 0) rfl ?_
          refine go_istore C X172 222 rfl at_220 #[iv a, iv g0, iv g1, iv g2, iv g3, iv (3 : Int32), iv H0, iv H1, iv H2, iv H3, iv H0, iv s1, iv s2, rv sb, iv nn, rv ub, iv (0 : Int32), un, un, un, un] rfl ?_
          refine go_goto C X172 at_222 (pc' := 228) (by decide) (by decide) ?_
          refine go_aload C X172 230 rfl at_228 rfl rfl ?_
          refine go_iload C X172 232 rfl at_230 rfl ?_
          refine go_iconst C X172 233 rfl at_232 (z := 0) rfl ?_
          refine go_callS C X172 (C.w 2 rfl) (C.w 3 rfl) (C.w 4 rfl) (C.w 5 rfl) (own_at_1_0 l Z a0 C.ws sb H0 s1 s2 h173 n0 X172.old A176) (argsL := [(.ref sb), (.int (0 : Int32)), (.int (0 : Int32))]) (rest := []) (lenOf pd_0 rfl) rfl (by decide) (by decide) (Nat.le_of_ble_eq_true rfl) (by decide) (by decide) rfl rfl (pc' := 236) rfl at_233 ?_
          rintro T193 _ _ ⟨rfl, rfl⟩ X194
          show Go p e below _ (T193.setTop (mkF m 236 #[iv a, iv g0, iv g1, iv g2, iv g3, iv (3 : Int32), iv H0, iv H1, iv H2, iv H3, iv H0, iv s1, iv s2, rv sb, iv nn, rv ub, iv (0 : Int32), un, un, un, un] [(.int (H0 + 1 + 0))]))
          refine go_istore C X194 238 rfl at_236 #[iv a, iv g0, iv g1, iv g2, iv g3, iv (3 : Int32), iv H0, iv H1, iv H2, iv H3, iv H0, iv s1, iv s2, rv sb, iv nn, rv ub, iv (0 : Int32), iv (H0 + 1 + 0), un, un, un] rfl ?_
          refine go_aload C X194 240 rfl at_238 rfl rfl ?_
          refine go_iload C X194 242 rfl at_240 rfl ?_
          refine go_iconst C X194 243 rfl at_242 (z := 1) rfl ?_
          refine go_callS C X194 (C.w 2 rfl) (C.w 3 rfl) (C.w 4 rfl) (C.w 5 rfl) (own_at_1_1 l Z a0 C.ws sb H0 s1 s2 h173 n0 X194.old A176) (argsL := [(.ref sb), (.int (0 : Int32)), (.int (1 : Int32))]) (rest := []) (lenOf pd_0 rfl) rfl (by decide) (by decide) (Nat.le_of_ble_eq_true rfl) (by decide) (by decide) rfl rfl (pc' := 246) rfl at_243 ?_
          rintro T196 _ _ ⟨rfl, rfl⟩ X197
          show Go p e below _ (T196.setTop (mkF m 246 #[iv a, iv g0, iv g1, iv g2, iv g3, iv (3 : Int32), iv H0, iv H1, iv H2, iv H3, iv H0, iv s1, iv s2, rv sb, iv nn, rv ub, iv (0 : Int32), iv (H0 + 1 + 0), un, un, un] [(.int (H0 + 1 + 1))]))
          refine go_istore C X197 248 rfl at_246 #[iv a, iv g0, iv g1, iv g2, iv g3, iv (3 : Int32), iv H0, iv H1, iv H2, iv H3, iv H0, iv s1, iv s2, rv sb, iv nn, rv ub, iv (0 : Int32), iv (H0 + 1 + 0), iv (H0 + 1 + 1), un, un] rfl ?_
          refine go_aload C X197 250 rfl at_248 rfl rfl ?_
          refine go_iload C X197 252 rfl at_250 rfl ?_
          refine go_iconst C X197 253 rfl at_252 (z := 2) rfl ?_
          refine go_callS C X197 (C.w 2 rfl) (C.w 3 rfl) (C.w 4 rfl) (C.w 5 rfl) (own_at_1_2 l Z a0 C.ws sb H0 s1 s2 h173 n0 X197.old A176) (argsL := [(.ref sb), (.int (0 : Int32)), (.int (2 : Int32))]) (rest := []) (lenOf pd_0 rfl) rfl (by decide) (by decide) (Nat.le_of_ble_eq_true rfl) (by decide) (by decide) rfl rfl (pc' := 256) rfl at_253 ?_
          rintro T199 _ _ ⟨rfl, rfl⟩ X200
          show Go p e below _ (T199.setTop (mkF m 256 #[iv a, iv g0, iv g1, iv g2, iv g3, iv (3 : Int32), iv H0, iv H1, iv H2, iv H3, iv H0, iv s1, iv s2, rv sb, iv nn, rv ub, iv (0 : Int32), iv (H0 + 1 + 0), iv (H0 + 1 + 1), un, un] [(.int (H0 + 1 + 2))]))
          refine go_istore C X200 258 rfl at_256 #[iv a, iv g0, iv g1, iv g2, iv g3, iv (3 : Int32), iv H0, iv H1, iv H2, iv H3, iv H0, iv s1, iv s2, rv sb, iv nn, rv ub, iv (0 : Int32), iv (H0 + 1 + 0), iv (H0 + 1 + 1), iv (H0 + 1 + 2), un] rfl ?_
          refine go_aload C X200 260 rfl at_258 rfl rfl ?_
          refine go_iload C X200 262 rfl at_260 rfl ?_
          refine go_callS C X200 (C.w 6 rfl) (C.w 7 rfl) (C.w 8 rfl) (C.w 9 rfl) (own_next_3_1 l Z a0 C.ws ub nn H0 s1 s2 h173 n0 X200.old A175 ga_ub (by have z0 : (0 : Int32).toInt = 0 := rfl; have t := own_t unn (by omega) (by omega) 3 0 (by decide) (by decide); (first | have d182 := congrArg Int32.toInt c182 | skip); (first | have d199 := congrArg Int32.toInt c199 | skip); (first | have d216 := congrArg Int32.toInt c216 | skip); (first | have n182 := i_ne c182 | skip); (first | have n199 := i_ne c199 | skip); (first | have n216 := i_ne c216 | skip); have k9 : (3 : Int32).toInt = 3 := rfl; have i9 : (0 : Int32).toInt = 0 := rfl; first | exact i_eq (by omega) | exact fun q => (by have := congrArg Int32.toInt q; omega)) (by have z0 : (0 : Int32).toInt = 0 := rfl; have t := own_t unn (by omega) (by omega) 3 1 (by decide) (by decide); (first | have d182 := congrArg Int32.toInt c182 | skip); (first | have d199 := congrArg Int32.toInt c199 | skip); (first | have d216 := congrArg Int32.toInt c216 | skip); (first | have n182 := i_ne c182 | skip); (first | have n199 := i_ne c199 | skip); (first | have n216 := i_ne c216 | skip); have k9 : (3 : Int32).toInt = 3 := rfl; have i9 : (1 : Int32).toInt = 1 := rfl; first | exact i_eq (by omega) | exact fun q => (by have := congrArg Int32.toInt q; omega)) (by have z0 : (0 : Int32).toInt = 0 := rfl; have t := own_t unn (by omega) (by omega) 3 2 (by decide) (by decide); (first | have d182 := congrArg Int32.toInt c182 | skip); (first | have d199 := congrArg Int32.toInt c199 | skip); (first | have d216 := congrArg Int32.toInt c216 | skip); (first | have n182 := i_ne c182 | skip); (first | have n199 := i_ne c199 | skip); (first | have n216 := i_ne c216 | skip); have k9 : (3 : Int32).toInt = 3 := rfl; have i9 : (2 : Int32).toInt = 2 := rfl; first | exact i_eq (by omega) | exact fun q => (by have := congrArg Int32.toInt q; omega))) (argsL := [(.ref ub), (.int nn)]) (rest := []) (lenOf pd_1 rfl) rfl (by decide) (by decide) (Nat.le_of_ble_eq_true rfl) (by decide) (by decide) rfl rfl (pc' := 265) rfl at_262 ?_
          rintro T202 h204 _ ⟨rfl, K9, A9⟩ X203
          show Go p e below _ (T202.setTop (mkF m 265 #[iv a, iv g0, iv g1, iv g2, iv g3, iv (3 : Int32), iv H0, iv H1, iv H2, iv H3, iv H0, iv s1, iv s2, rv sb, iv nn, rv ub, iv (0 : Int32), iv (H0 + 1 + 0), iv (H0 + 1 + 1), iv (H0 + 1 + 2), un] [(.int (1 : Int32))]))
          have A205 := A176.keep K9 (ninS ne_sb_ub nin0)
          refine go_istore C X203 267 rfl at_265 #[iv a, iv g0, iv g1, iv g2, iv g3, iv (3 : Int32), iv H0, iv H1, iv H2, iv H3, iv H0, iv s1, iv s2, rv sb, iv nn, rv ub, iv (0 : Int32), iv (H0 + 1 + 0), iv (H0 + 1 + 1), iv (H0 + 1 + 2), iv (1 : Int32)] rfl ?_
          refine go_iload C X203 269 rfl at_267 rfl ?_
          refine go_iload C X203 271 rfl at_269 rfl ?_
          refine go_if_lt C X203 at_271 (pc' := 274) (pc2 := 278) rfl (by decide) (by decide) (fun (c271 : 0 < 0) => False.elim (by first | omega | exact absurd c271 (by decide))) (fun (c271 : 0 ≤ 0) => ?_)
          refine go_iconst C X203 275 rfl at_274 (z := 1) rfl ?_
          refine go_goto C X203 at_275 (pc' := 279) (by decide) (by decide) ?_
          refine go_icmp_ne C X203 at_279 (pc' := 282) (pc2 := 302) rfl (by decide) (by decide) (fun (c279 : ¬ (1 : Int32) = (1 : Int32)) => False.elim (by first | omega | exact absurd c279 (by decide))) (fun (c279 : (1 : Int32) = (1 : Int32)) => ?_)
          refine go_aload C X203 284 rfl at_282 rfl rfl ?_
          refine go_iload C X203 286 rfl at_284 rfl ?_
          refine go_iload C X203 288 rfl at_286 rfl ?_
          refine go_iload C X203 290 rfl at_288 rfl ?_
          refine go_iload C X203 292 rfl at_290 rfl ?_
          refine go_callS C X203 (C.w 10 rfl) (C.w 11 rfl) (C.w 4 rfl) (C.w 12 rfl) (own_same_3 l Z a0 C.ws ub (H0 + 1 + 0) (H0 + 1 + 1) (H0 + 1 + 2) (H0 + 1) ((H0 + 1) + 1) (((H0 + 1) + 1) + 1) h204 n0 X203.old A9 (own_rg _ _ (by first | exact Or.inl rfl | exact Or.inr (Or.inl ⟨_, rfl, rfl⟩) | exact Or.inr (Or.inr ⟨_, rfl, rfl⟩))) (own_rg _ _ (by first | exact Or.inl rfl | exact Or.inr (Or.inl ⟨_, rfl, rfl⟩) | exact Or.inr (Or.inr ⟨_, rfl, rfl⟩))) (own_rg _ _ (by first | exact Or.inl rfl | exact Or.inr (Or.inl ⟨_, rfl, rfl⟩) | exact Or.inr (Or.inr ⟨_, rfl, rfl⟩)))) (argsL := [(.ref ub), (.int (H0 + 1 + 0)), (.int (H0 + 1 + 1)), (.int (H0 + 1 + 2)), (.int (3 : Int32))]) (rest := []) (lenOf pd_2 rfl) rfl (by decide) (by decide) (Nat.le_of_ble_eq_true rfl) (by decide) (by decide) rfl rfl (pc' := 295) rfl at_292 ?_
          rintro T206 _ _ ⟨rfl, rfl⟩ X207
          show Go p e below _ (T206.setTop (mkF m 295 #[iv a, iv g0, iv g1, iv g2, iv g3, iv (3 : Int32), iv H0, iv H1, iv H2, iv H3, iv H0, iv s1, iv s2, rv sb, iv nn, rv ub, iv (0 : Int32), iv (H0 + 1 + 0), iv (H0 + 1 + 1), iv (H0 + 1 + 2), iv (1 : Int32)] [(.int (1 : Int32))]))
          refine go_if_eq C X207 at_295 (pc' := 298) (pc2 := 302) rfl (by decide) (by decide) (fun (c295 : (1 : Int32) = (0 : Int32)) => False.elim (by first | omega | exact absurd c295 (by decide))) (fun (c295 : ¬ (1 : Int32) = (0 : Int32)) => ?_)
          refine go_iconst C X207 299 rfl at_298 (z := 1) rfl ?_
          refine go_goto C X207 at_299 (pc' := 303) (by decide) (by decide) ?_
          exact go_retN C X207 (by simp) (z' := 1) rfl at_303 rfl (by decide) (by decide)
      · refine go_iconst C X172 203 rfl at_202 (z := 1) rfl ?_
        refine go_istore C X172 205 rfl at_203 #[iv a, iv g0, iv g1, iv g2, iv g3, iv (3 : Int32), iv H0, iv H1, iv H2, iv H3, iv H0, iv s1, iv s2, rv sb, iv nn, rv ub, iv (1 : Int32), un, un, un, un] rfl ?_
        refine go_goto C X172 at_205 (pc' := 228) (by decide) (by decide) ?_
        refine go_aload C X172 230 rfl at_228 rfl rfl ?_
        refine go_iload C X172 232 rfl at_230 rfl ?_
        refine go_iconst C X172 233 rfl at_232 (z := 0) rfl ?_
        refine go_callS C X172 (C.w 2 rfl) (C.w 3 rfl) (C.w 4 rfl) (C.w 5 rfl) (own_at_2_0 l Z a0 C.ws sb H0 s1 s2 h173 n0 X172.old A176) (argsL := [(.ref sb), (.int (1 : Int32)), (.int (0 : Int32))]) (rest := []) (lenOf pd_0 rfl) rfl (by decide) (by decide) (Nat.le_of_ble_eq_true rfl) (by decide) (by decide) rfl rfl (pc' := 236) rfl at_233 ?_
        rintro T209 _ _ ⟨rfl, rfl⟩ X210
        show Go p e below _ (T209.setTop (mkF m 236 #[iv a, iv g0, iv g1, iv g2, iv g3, iv (3 : Int32), iv H0, iv H1, iv H2, iv H3, iv H0, iv s1, iv s2, rv sb, iv nn, rv ub, iv (1 : Int32), un, un, un, un] [(.int H0)]))
        refine go_istore C X210 238 rfl at_236 #[iv a, iv g0, iv g1, iv g2, iv g3, iv (3 : Int32), iv H0, iv H1, iv H2, iv H3, iv H0, iv s1, iv s2, rv sb, iv nn, rv ub, iv (1 : Int32), iv H0, un, un, un] rfl ?_
        refine go_aload C X210 240 rfl at_238 rfl rfl ?_
        refine go_iload C X210 242 rfl at_240 rfl ?_
        refine go_iconst C X210 243 rfl at_242 (z := 1) rfl ?_
        refine go_callS C X210 (C.w 2 rfl) (C.w 3 rfl) (C.w 4 rfl) (C.w 5 rfl) (own_at_2_1 l Z a0 C.ws sb H0 s1 s2 h173 n0 X210.old A176) (argsL := [(.ref sb), (.int (1 : Int32)), (.int (1 : Int32))]) (rest := []) (lenOf pd_0 rfl) rfl (by decide) (by decide) (Nat.le_of_ble_eq_true rfl) (by decide) (by decide) rfl rfl (pc' := 246) rfl at_243 ?_
        rintro T212 _ _ ⟨rfl, rfl⟩ X213
        show Go p e below _ (T212.setTop (mkF m 246 #[iv a, iv g0, iv g1, iv g2, iv g3, iv (3 : Int32), iv H0, iv H1, iv H2, iv H3, iv H0, iv s1, iv s2, rv sb, iv nn, rv ub, iv (1 : Int32), iv H0, un, un, un] [(.int (s1 + 1 + 0))]))
        refine go_istore C X213 248 rfl at_246 #[iv a, iv g0, iv g1, iv g2, iv g3, iv (3 : Int32), iv H0, iv H1, iv H2, iv H3, iv H0, iv s1, iv s2, rv sb, iv nn, rv ub, iv (1 : Int32), iv H0, iv (s1 + 1 + 0), un, un] rfl ?_
        refine go_aload C X213 250 rfl at_248 rfl rfl ?_
        refine go_iload C X213 252 rfl at_250 rfl ?_
        refine go_iconst C X213 253 rfl at_252 (z := 2) rfl ?_
        refine go_callS C X213 (C.w 2 rfl) (C.w 3 rfl) (C.w 4 rfl) (C.w 5 rfl) (own_at_2_2 l Z a0 C.ws sb H0 s1 s2 h173 n0 X213.old A176) (argsL := [(.ref sb), (.int (1 : Int32)), (.int (2 : Int32))]) (rest := []) (lenOf pd_0 rfl) rfl (by decide) (by decide) (Nat.le_of_ble_eq_true rfl) (by decide) (by decide) rfl rfl (pc' := 256) rfl at_253 ?_
        rintro T215 _ _ ⟨rfl, rfl⟩ X216
        show Go p e below _ (T215.setTop (mkF m 256 #[iv a, iv g0, iv g1, iv g2, iv g3, iv (3 : Int32), iv H0, iv H1, iv H2, iv H3, iv H0, iv s1, iv s2, rv sb, iv nn, rv ub, iv (1 : Int32), iv H0, iv (s1 + 1 + 0), un, un] [(.int (s1 + 1 + 1))]))
        refine go_istore C X216 258 rfl at_256 #[iv a, iv g0, iv g1, iv g2, iv g3, iv (3 : Int32), iv H0, iv H1, iv H2, iv H3, iv H0, iv s1, iv s2, rv sb, iv nn, rv ub, iv (1 : Int32), iv H0, iv (s1 + 1 + 0), iv (s1 + 1 + 1), un] rfl ?_
        refine go_aload C X216 260 rfl at_258 rfl rfl ?_
        refine go_iload C X216 262 rfl at_260 rfl ?_
        refine go_callS C X216 (C.w 6 rfl) (C.w 7 rfl) (C.w 8 rfl) (C.w 9 rfl) (own_next_3_2 l Z a0 C.ws ub nn H0 s1 s2 h173 n0 X216.old A175 ga_ub (by have z0 : (0 : Int32).toInt = 0 := rfl; have t := own_t unn (by omega) (by omega) 3 1 (by decide) (by decide); (first | have d182 := congrArg Int32.toInt c182 | skip); (first | have d199 := congrArg Int32.toInt c199 | skip); (first | have d216 := congrArg Int32.toInt c216 | skip); (first | have n182 := i_ne c182 | skip); (first | have n199 := i_ne c199 | skip); (first | have n216 := i_ne c216 | skip); have k9 : (3 : Int32).toInt = 3 := rfl; have i9 : (1 : Int32).toInt = 1 := rfl; first | exact i_eq (by omega) | exact fun q => (by have := congrArg Int32.toInt q; omega)) (by have z0 : (0 : Int32).toInt = 0 := rfl; have t := own_t unn (by omega) (by omega) 3 2 (by decide) (by decide); (first | have d182 := congrArg Int32.toInt c182 | skip); (first | have d199 := congrArg Int32.toInt c199 | skip); (first | have d216 := congrArg Int32.toInt c216 | skip); (first | have n182 := i_ne c182 | skip); (first | have n199 := i_ne c199 | skip); (first | have n216 := i_ne c216 | skip); have k9 : (3 : Int32).toInt = 3 := rfl; have i9 : (2 : Int32).toInt = 2 := rfl; first | exact i_eq (by omega) | exact fun q => (by have := congrArg Int32.toInt q; omega))) (argsL := [(.ref ub), (.int nn)]) (rest := []) (lenOf pd_1 rfl) rfl (by decide) (by decide) (Nat.le_of_ble_eq_true rfl) (by decide) (by decide) rfl rfl (pc' := 265) rfl at_262 ?_
        rintro T218 h220 _ ⟨rfl, K9, A9⟩ X219
        show Go p e below _ (T218.setTop (mkF m 265 #[iv a, iv g0, iv g1, iv g2, iv g3, iv (3 : Int32), iv H0, iv H1, iv H2, iv H3, iv H0, iv s1, iv s2, rv sb, iv nn, rv ub, iv (1 : Int32), iv H0, iv (s1 + 1 + 0), iv (s1 + 1 + 1), un] [(.int (1 : Int32))]))
        have A221 := A176.keep K9 (ninS ne_sb_ub nin0)
        refine go_istore C X219 267 rfl at_265 #[iv a, iv g0, iv g1, iv g2, iv g3, iv (3 : Int32), iv H0, iv H1, iv H2, iv H3, iv H0, iv s1, iv s2, rv sb, iv nn, rv ub, iv (1 : Int32), iv H0, iv (s1 + 1 + 0), iv (s1 + 1 + 1), iv (1 : Int32)] rfl ?_
        refine go_iload C X219 269 rfl at_267 rfl ?_
        refine go_iload C X219 271 rfl at_269 rfl ?_
        refine go_if_lt C X219 at_271 (pc' := 274) (pc2 := 278) rfl (by decide) (by decide) (fun (c271 : 1 < 0) => False.elim (by first | omega | exact absurd c271 (by decide))) (fun (c271 : 0 ≤ 1) => ?_)
        refine go_iconst C X219 275 rfl at_274 (z := 1) rfl ?_
        refine go_goto C X219 at_275 (pc' := 279) (by decide) (by decide) ?_
        refine go_icmp_ne C X219 at_279 (pc' := 282) (pc2 := 302) rfl (by decide) (by decide) (fun (c279 : ¬ (1 : Int32) = (1 : Int32)) => False.elim (by first | omega | exact absurd c279 (by decide))) (fun (c279 : (1 : Int32) = (1 : Int32)) => ?_)
        refine go_aload C X219 284 rfl at_282 rfl rfl ?_
        refine go_iload C X219 286 rfl at_284 rfl ?_
        refine go_iload C X219 288 rfl at_286 rfl ?_
        refine go_iload C X219 290 rfl at_288 rfl ?_
        refine go_iload C X219 292 rfl at_290 rfl ?_
        refine go_callS C X219 (C.w 10 rfl) (C.w 11 rfl) (C.w 4 rfl) (C.w 12 rfl) (own_same_3 l Z a0 C.ws ub H0 (s1 + 1 + 0) (s1 + 1 + 1) H0 (s1 + 1) ((s1 + 1) + 1) h220 n0 X219.old A9 (own_rg _ _ (by first | exact Or.inl rfl | exact Or.inr (Or.inl ⟨_, rfl, rfl⟩) | exact Or.inr (Or.inr ⟨_, rfl, rfl⟩))) (own_rg _ _ (by first | exact Or.inl rfl | exact Or.inr (Or.inl ⟨_, rfl, rfl⟩) | exact Or.inr (Or.inr ⟨_, rfl, rfl⟩))) (own_rg _ _ (by first | exact Or.inl rfl | exact Or.inr (Or.inl ⟨_, rfl, rfl⟩) | exact Or.inr (Or.inr ⟨_, rfl, rfl⟩)))) (argsL := [(.ref ub), (.int H0), (.int (s1 + 1 + 0)), (.int (s1 + 1 + 1)), (.int (3 : Int32))]) (rest := []) (lenOf pd_2 rfl) rfl (by decide) (by decide) (Nat.le_of_ble_eq_true rfl) (by decide) (by decide) rfl rfl (pc' := 295) rfl at_292 ?_
        rintro T222 _ _ ⟨rfl, rfl⟩ X223
        show Go p e below _ (T222.setTop (mkF m 295 #[iv a, iv g0, iv g1, iv g2, iv g3, iv (3 : Int32), iv H0, iv H1, iv H2, iv H3, iv H0, iv s1, iv s2, rv sb, iv nn, rv ub, iv (1 : Int32), iv H0, iv (s1 + 1 + 0), iv (s1 + 1 + 1), iv (1 : Int32)] [(.int (1 : Int32))]))
        refine go_if_eq C X223 at_295 (pc' := 298) (pc2 := 302) rfl (by decide) (by decide) (fun (c295 : (1 : Int32) = (0 : Int32)) => False.elim (by first | omega | exact absurd c295 (by decide))) (fun (c295 : ¬ (1 : Int32) = (0 : Int32)) => ?_)
        refine go_iconst C X223 299 rfl at_298 (z := 1) rfl ?_
        refine go_goto C X223 at_299 (pc' := 303) (by decide) (by decide) ?_
        exact go_retN C X223 (by simp) (z' := 1) rfl at_303 rfl (by decide) (by decide)
    · refine go_iconst C X172 186 rfl at_185 (z := 2) rfl ?_
      refine go_istore C X172 188 rfl at_186 #[iv a, iv g0, iv g1, iv g2, iv g3, iv (3 : Int32), iv H0, iv H1, iv H2, iv H3, iv H0, iv s1, iv s2, rv sb, iv nn, rv ub, iv (2 : Int32), un, un, un, un] rfl ?_
      refine go_goto C X172 at_188 (pc' := 228) (by decide) (by decide) ?_
      refine go_aload C X172 230 rfl at_228 rfl rfl ?_
      refine go_iload C X172 232 rfl at_230 rfl ?_
      refine go_iconst C X172 233 rfl at_232 (z := 0) rfl ?_
      refine go_callS C X172 (C.w 2 rfl) (C.w 3 rfl) (C.w 4 rfl) (C.w 5 rfl) (own_at_3_0 l Z a0 C.ws sb H0 s1 s2 h173 n0 X172.old A176) (argsL := [(.ref sb), (.int (2 : Int32)), (.int (0 : Int32))]) (rest := []) (lenOf pd_0 rfl) rfl (by decide) (by decide) (Nat.le_of_ble_eq_true rfl) (by decide) (by decide) rfl rfl (pc' := 236) rfl at_233 ?_
      rintro T225 _ _ ⟨rfl, rfl⟩ X226
      show Go p e below _ (T225.setTop (mkF m 236 #[iv a, iv g0, iv g1, iv g2, iv g3, iv (3 : Int32), iv H0, iv H1, iv H2, iv H3, iv H0, iv s1, iv s2, rv sb, iv nn, rv ub, iv (2 : Int32), un, un, un, un] [(.int H0)]))
      refine go_istore C X226 238 rfl at_236 #[iv a, iv g0, iv g1, iv g2, iv g3, iv (3 : Int32), iv H0, iv H1, iv H2, iv H3, iv H0, iv s1, iv s2, rv sb, iv nn, rv ub, iv (2 : Int32), iv H0, un, un, un] rfl ?_
      refine go_aload C X226 240 rfl at_238 rfl rfl ?_
      refine go_iload C X226 242 rfl at_240 rfl ?_
      refine go_iconst C X226 243 rfl at_242 (z := 1) rfl ?_
      refine go_callS C X226 (C.w 2 rfl) (C.w 3 rfl) (C.w 4 rfl) (C.w 5 rfl) (own_at_3_1 l Z a0 C.ws sb H0 s1 s2 h173 n0 X226.old A176) (argsL := [(.ref sb), (.int (2 : Int32)), (.int (1 : Int32))]) (rest := []) (lenOf pd_0 rfl) rfl (by decide) (by decide) (Nat.le_of_ble_eq_true rfl) (by decide) (by decide) rfl rfl (pc' := 246) rfl at_243 ?_
      rintro T228 _ _ ⟨rfl, rfl⟩ X229
      show Go p e below _ (T228.setTop (mkF m 246 #[iv a, iv g0, iv g1, iv g2, iv g3, iv (3 : Int32), iv H0, iv H1, iv H2, iv H3, iv H0, iv s1, iv s2, rv sb, iv nn, rv ub, iv (2 : Int32), iv H0, un, un, un] [(.int s1)]))
      refine go_istore C X229 248 rfl at_246 #[iv a, iv g0, iv g1, iv g2, iv g3, iv (3 : Int32), iv H0, iv H1, iv H2, iv H3, iv H0, iv s1, iv s2, rv sb, iv nn, rv ub, iv (2 : Int32), iv H0, iv s1, un, un] rfl ?_
      refine go_aload C X229 250 rfl at_248 rfl rfl ?_
      refine go_iload C X229 252 rfl at_250 rfl ?_
      refine go_iconst C X229 253 rfl at_252 (z := 2) rfl ?_
      refine go_callS C X229 (C.w 2 rfl) (C.w 3 rfl) (C.w 4 rfl) (C.w 5 rfl) (own_at_3_2 l Z a0 C.ws sb H0 s1 s2 h173 n0 X229.old A176) (argsL := [(.ref sb), (.int (2 : Int32)), (.int (2 : Int32))]) (rest := []) (lenOf pd_0 rfl) rfl (by decide) (by decide) (Nat.le_of_ble_eq_true rfl) (by decide) (by decide) rfl rfl (pc' := 256) rfl at_253 ?_
      rintro T231 _ _ ⟨rfl, rfl⟩ X232
      show Go p e below _ (T231.setTop (mkF m 256 #[iv a, iv g0, iv g1, iv g2, iv g3, iv (3 : Int32), iv H0, iv H1, iv H2, iv H3, iv H0, iv s1, iv s2, rv sb, iv nn, rv ub, iv (2 : Int32), iv H0, iv s1, un, un] [(.int (s2 + 1 + 0))]))
      refine go_istore C X232 258 rfl at_256 #[iv a, iv g0, iv g1, iv g2, iv g3, iv (3 : Int32), iv H0, iv H1, iv H2, iv H3, iv H0, iv s1, iv s2, rv sb, iv nn, rv ub, iv (2 : Int32), iv H0, iv s1, iv (s2 + 1 + 0), un] rfl ?_
      refine go_aload C X232 260 rfl at_258 rfl rfl ?_
      refine go_iload C X232 262 rfl at_260 rfl ?_
      refine go_callS C X232 (C.w 6 rfl) (C.w 7 rfl) (C.w 8 rfl) (C.w 9 rfl) (own_next_3_3 l Z a0 C.ws ub nn H0 s1 s2 h173 n0 X232.old A175 ga_ub (by have z0 : (0 : Int32).toInt = 0 := rfl; have t := own_t unn (by omega) (by omega) 3 2 (by decide) (by decide); (first | have d182 := congrArg Int32.toInt c182 | skip); (first | have d199 := congrArg Int32.toInt c199 | skip); (first | have d216 := congrArg Int32.toInt c216 | skip); (first | have n182 := i_ne c182 | skip); (first | have n199 := i_ne c199 | skip); (first | have n216 := i_ne c216 | skip); have k9 : (3 : Int32).toInt = 3 := rfl; have i9 : (2 : Int32).toInt = 2 := rfl; first | exact i_eq (by omega) | exact fun q => (by have := congrArg Int32.toInt q; omega))) (argsL := [(.ref ub), (.int nn)]) (rest := []) (lenOf pd_1 rfl) rfl (by decide) (by decide) (Nat.le_of_ble_eq_true rfl) (by decide) (by decide) rfl rfl (pc' := 265) rfl at_262 ?_
      rintro T234 h236 _ ⟨rfl, K9, A9⟩ X235
      show Go p e below _ (T234.setTop (mkF m 265 #[iv a, iv g0, iv g1, iv g2, iv g3, iv (3 : Int32), iv H0, iv H1, iv H2, iv H3, iv H0, iv s1, iv s2, rv sb, iv nn, rv ub, iv (2 : Int32), iv H0, iv s1, iv (s2 + 1 + 0), un] [(.int (1 : Int32))]))
      have A237 := A176.keep K9 (ninS ne_sb_ub nin0)
      refine go_istore C X235 267 rfl at_265 #[iv a, iv g0, iv g1, iv g2, iv g3, iv (3 : Int32), iv H0, iv H1, iv H2, iv H3, iv H0, iv s1, iv s2, rv sb, iv nn, rv ub, iv (2 : Int32), iv H0, iv s1, iv (s2 + 1 + 0), iv (1 : Int32)] rfl ?_
      refine go_iload C X235 269 rfl at_267 rfl ?_
      refine go_iload C X235 271 rfl at_269 rfl ?_
      refine go_if_lt C X235 at_271 (pc' := 274) (pc2 := 278) rfl (by decide) (by decide) (fun (c271 : 2 < 0) => False.elim (by first | omega | exact absurd c271 (by decide))) (fun (c271 : 0 ≤ 2) => ?_)
      refine go_iconst C X235 275 rfl at_274 (z := 1) rfl ?_
      refine go_goto C X235 at_275 (pc' := 279) (by decide) (by decide) ?_
      refine go_icmp_ne C X235 at_279 (pc' := 282) (pc2 := 302) rfl (by decide) (by decide) (fun (c279 : ¬ (1 : Int32) = (1 : Int32)) => False.elim (by first | omega | exact absurd c279 (by decide))) (fun (c279 : (1 : Int32) = (1 : Int32)) => ?_)
      refine go_aload C X235 284 rfl at_282 rfl rfl ?_
      refine go_iload C X235 286 rfl at_284 rfl ?_
      refine go_iload C X235 288 rfl at_286 rfl ?_
      refine go_iload C X235 290 rfl at_288 rfl ?_
      refine go_iload C X235 292 rfl at_290 rfl ?_
      refine go_callS C X235 (C.w 10 rfl) (C.w 11 rfl) (C.w 4 rfl) (C.w 12 rfl) (own_same_3 l Z a0 C.ws ub H0 s1 (s2 + 1 + 0) H0 s1 (s2 + 1) h236 n0 X235.old A9 (own_rg _ _ (by first | exact Or.inl rfl | exact Or.inr (Or.inl ⟨_, rfl, rfl⟩) | exact Or.inr (Or.inr ⟨_, rfl, rfl⟩))) (own_rg _ _ (by first | exact Or.inl rfl | exact Or.inr (Or.inl ⟨_, rfl, rfl⟩) | exact Or.inr (Or.inr ⟨_, rfl, rfl⟩))) (own_rg _ _ (by first | exact Or.inl rfl | exact Or.inr (Or.inl ⟨_, rfl, rfl⟩) | exact Or.inr (Or.inr ⟨_, rfl, rfl⟩)))) (argsL := [(.ref ub), (.int H0), (.int s1), (.int (s2 + 1 + 0)), (.int (3 : Int32))]) (rest := []) (lenOf pd_2 rfl) rfl (by decide) (by decide) (Nat.le_of_ble_eq_true rfl) (by decide) (by decide) rfl rfl (pc' := 295) rfl at_292 ?_
      rintro T238 _ _ ⟨rfl, rfl⟩ X239
      show Go p e below _ (T238.setTop (mkF m 295 #[iv a, iv g0, iv g1, iv g2, iv g3, iv (3 : Int32), iv H0, iv H1, iv H2, iv H3, iv H0, iv s1, iv s2, rv sb, iv nn, rv ub, iv (2 : Int32), iv H0, iv s1, iv (s2 + 1 + 0), iv (1 : Int32)] [(.int (1 : Int32))]))
      refine go_if_eq C X239 at_295 (pc' := 298) (pc2 := 302) rfl (by decide) (by decide) (fun (c295 : (1 : Int32) = (0 : Int32)) => False.elim (by first | omega | exact absurd c295 (by decide))) (fun (c295 : ¬ (1 : Int32) = (0 : Int32)) => ?_)
      refine go_iconst C X239 299 rfl at_298 (z := 1) rfl ?_
      refine go_goto C X239 at_299 (pc' := 303) (by decide) (by decide) ?_
      exact go_retN C X239 (by simp) (z' := 1) rfl at_303 rfl (by decide) (by decide)
set_option maxRecDepth 65536 in
set_option maxHeartbeats 40000000 in
theorem comes_1 {Post : Tables → Env → Array Value → State → Outcome → State → Prop} (hpost : ∀ tb e args s v u, (limb_1_1.after args s (.returned v) u = true ∧ limb_1_2.after args s (.returned v) u = true ∧ True) → FrameEnd s (.returned v) u (Jvm.fieldLocs frame_1_writes args s ++ Jvm.arrayLocs frame_1_arrays args s ++ Jvm.staticLocs frame_1_statics s) 16 128 → Post tb e args s (.returned v) u) :
    ArmFor flags0 classFile x code maxLocals ret World_1 tables_1 room_1 Calls_1 rest_1 Pre_1 Post := by
  intro l hfl _ _ p e ha hc hk s m args below hf hA hF happ hP
  obtain ⟨hcalls, hrest, hpre⟩ := hP
  obtain ⟨-, -, -, hnamed, -, -, -, hat⟩ := (Spec.applies_iff hf).mp happ
  obtain ⟨hg, hn⟩ := and_e (Cond.before_iff.mp (show (Jvm.Cond.and given_1 narrow_1).before args s = true from hpre))
  obtain ⟨g1, g2⟩ := and_e hg
  obtain ⟨g3, g4⟩ := and_e g2
  obtain ⟨g5, g6⟩ := and_e g4
  obtain ⟨g7, g8⟩ := and_e g6
  obtain ⟨g9, g10⟩ := and_e g8
  obtain ⟨w0, w1, w2, w3, w4, rfl⟩ : ∃ w0 w1 w2 w3 w4 : Value, args = #[w0, w1, w2, w3, w4] := by
    have hs : args.size = 5 := by simpa [Cond.value, given_1] using g1
    obtain ⟨L⟩ := args
    match L, hs with
    | [w0, w1, w2, w3, w4], _ => exact ⟨w0, w1, w2, w3, w4, rfl⟩
  have hw := fun d (hd : d ∈ tables_1) => atoms_spec (ws := Jvm.Cond.code x code maxLocals ret :: tables_1) hat d (List.mem_cons_of_mem _ hd)
  have hfit : Fit s := fun {y c} hc i hi => by
    obtain ⟨ha, rfl⟩ := Array.getElem?_eq_some_iff.mp hc
    have q := List.all_eq_true.mp ((Array.all_eq_true_iff_forall_mem.mp hF) _ (Array.getElem_mem ha)) i (List.mem_range.mpr hi)
    simpa [Array.getElem?_eq_getElem hi] using q
  obtain ⟨i0, ei0⟩ := is_v g3
  obtain rfl : w0 = (.int i0) := Option.some.inj ei0
  obtain ⟨i1, ei1⟩ := is_v g5
  obtain rfl : w1 = (.int i1) := Option.some.inj ei1
  obtain ⟨i2, ei2⟩ := is_v g7
  obtain rfl : w2 = (.int i2) := Option.some.inj ei2
  obtain ⟨i3, ei3⟩ := is_v g9
  obtain rfl : w3 = (.int i3) := Option.some.inj ei3
  obtain ⟨i4, ei4⟩ := is_v g10
  obtain rfl : w4 = (.int i4) := Option.some.inj ei4
  obtain ⟨n, o, h1, h2, h3, _, L, rfl, ⟨N, rfl⟩, hq⟩ := own_law l s _ hw i0 i1 i2 i3 i4  s.heap s.heap.size (Old.start s)  tables_1 p e ha hc hk s m _ below hf ((Spec.applies_iff_loose hf).mp happ).1 ⟨rfl, State.Warmed39.refl s, rfl⟩ trivial
  refine ⟨n, _, h1, h2, h3, hpost _ _ _ _ _ _ ⟨Cond.after_iff.mpr rfl, Cond.after_iff.mpr (eq_i res_at (Term.int_eval (1)) rfl), trivial⟩ ⟨hq.1, hq.2.1, (hq.2.2.sift fun y hy => Or.inr (N y hy)).mono (by decide) (by decide)⟩⟩
theorem main_1_1 : Claimed_1_1 := comes_1 fun _ _ _ _ _ _ h hF => ⟨h.1, hF⟩
theorem main_1_2 : Claimed_1_2 := comes_1 fun _ _ _ _ _ _ h hF => ⟨h.2.1, hF⟩

end Jvm.Pilot.@@N@@
namespace Jvm.Pilot.@@N@@
open Jvm Jvm.ClassFile Sem Op Lib Jvm.Free Jvm.Stand Jvm.Pilot.@@N@@.Jvm.D
/-! MADE BY PROGRAM (witnessworld.py) out of the Statement's table words and the real class files: 9 classes; the members and pool entries that the words name. The judged class is class 1, her method 3. -/
namespace start1
open Jvm.ClassFile
def u (s : String) : CpInfo := .utf8 (stringToUtf16 s)
/-- a pool by its gaps: so many unusable entries, then the entry; so many at the end -/
def gap : Nat → List CpInfo → List CpInfo
  | 0, r => r
  | n + 1, r => .unusable :: gap n r
def poolList (es : List (Nat × CpInfo)) (last : Nat) : List CpInfo := es.foldr (fun e r => gap e.1 (e.2 :: r)) (gap last [])
def pool (es : List (Nat × CpInfo)) (last : Nat) : Array CpInfo := ⟨poolList es last⟩
def fileOf (pool : Array CpInfo) (this : Nat) (attrs : Array Attribute := #[]) (ms : Array MethodInfo := #[]) (fl : Nat := 33) (sup : Nat := 0) (ifs : Array Nat := #[]) (fds : Array FieldInfo := #[]) : ClassFile where
  minorVersion := 0
  majorVersion := 65
  constantPool := pool
  accessFlags := fl
  thisClass := this
  superClass := sup
  interfaces := ifs
  fields := fds
  methods := ms
  attributes := attrs
def plain (name : String) (sup : Option ClassId) : Class where
  name := name
  kind := .ordinary
  loader := none
  accessFlags := 33
  super := sup
  interfaces := #[]
  cf := none
  fields := #[]
  methods := #[]
  instanceTypes := #[]
  staticTypes := #[]
  resolved := #[]
  callSites := []
  init := .initialized
  statics := none
  mirror := none

def pool0 : Array CpInfo := pool [(5, u "<init>"), (0, u "()V"), (1, .class_ 10), (1, u "java/lang/Object")] 113

def k0m0 : Method := { name := "<init>", desc := "()V", sig := { parameters := [], returnType := none }, accessFlags := 1, code := none }
/-- java/lang/Object -/
def k0 : Class := { plain "java/lang/Object" none with
  accessFlags := 33
  interfaces := #[]
  cf := some (fileOf pool0 8 #[] #[{ accessFlags := 1, nameIndex := 5, descriptorIndex := 6, attributes := #[] }] 33 0 #[] #[])
  fields := #[]
  methods := #[k0m0]
  instanceTypes := #[]
  staticTypes := #[]
  resolved := Array.replicate 124 none
  statics := none }

def pool1 : Array CpInfo := pool [(2, .class_ 4), (1, u "java/lang/Object"), (0, u "<init>"), (0, u "()V"), (0, .integer 268435455), (0, .methodref 9 10), (0, .class_ 11), (0, .nameAndType 12 13), (0, u "com/example/covertide/covertide/engine/SubsetsNext84PinLaw"), (0, u "at"), (0, u "([III)I"), (0, .methodref 15 16), (0, .class_ 17), (0, .nameAndType 18 19), (0, u "com/example/covertide/covertide/engine/Subsets"), (0, u "next"), (0, u "([II)Z"), (0, .methodref 9 21), (0, .nameAndType 22 23), (0, u "same"), (0, u "([IIIII)Z"), (3, u "law"), (0, u "(IIIII)Z")] 4

def k1m0 : Method := { name := "<init>", desc := "()V", sig := { parameters := [], returnType := none }, accessFlags := 2, code := none }
def k1c1 : Code := { maxStack := 3, maxLocals := 3, code := method_2_code, exceptionTable := #[], attributes := #[] }
def k1m1 : Method := { name := "at", desc := "([III)I", sig := { parameters := [(.array .int), .int, .int], returnType := some .int }, accessFlags := 10, code := some k1c1 }
def k1c2 : Code := { maxStack := 2, maxLocals := 5, code := method_3_code, exceptionTable := #[], attributes := #[] }
def k1m2 : Method := { name := "same", desc := "([IIIII)Z", sig := { parameters := [(.array .int), .int, .int, .int, .int], returnType := some .boolean }, accessFlags := 10, code := some k1c2 }
def k1c3 : Code := { maxStack := 5, maxLocals := 21, code := code, exceptionTable := #[], attributes := #[] }
def k1m3 : Method := { name := "law", desc := "(IIIII)Z", sig := { parameters := [.int, .int, .int, .int, .int], returnType := some .boolean }, accessFlags := 9, code := some k1c3 }
/-- com/example/covertide/covertide/engine/SubsetsNext84PinLaw -/
def k1 : Class := { plain "com/example/covertide/covertide/engine/SubsetsNext84PinLaw" (some 0) with
  accessFlags := 49
  interfaces := #[]
  cf := some (fileOf pool1 9 #[] #[{ accessFlags := 2, nameIndex := 5, descriptorIndex := 6, attributes := #[] }, { accessFlags := 10, nameIndex := 12, descriptorIndex := 13, attributes := #[] }, { accessFlags := 10, nameIndex := 22, descriptorIndex := 23, attributes := #[] }, { accessFlags := 9, nameIndex := 27, descriptorIndex := 28, attributes := #[] }] 49 2 #[] #[])
  fields := #[]
  methods := #[k1m0, k1m1, k1m2, k1m3]
  instanceTypes := #[]
  staticTypes := #[]
  resolved := Array.replicate 33 none
  statics := none }

def pool2 : Array CpInfo := pool [(2, .class_ 4), (1, u "java/lang/Object"), (0, u "<init>"), (0, u "()V"), (16, .class_ 24), (0, u "com/example/covertide/covertide/engine/Subsets"), (4, u "next"), (0, u "([II)Z")] 25

def k2m0 : Method := { name := "<init>", desc := "()V", sig := { parameters := [], returnType := none }, accessFlags := 2, code := none }
def k2c1 : Code := { maxStack := 5, maxLocals := 4, code := prog_11_method_3_code, exceptionTable := #[], attributes := #[] }
def k2m1 : Method := { name := "next", desc := "([II)Z", sig := { parameters := [(.array .int), .int], returnType := some .boolean }, accessFlags := 8, code := some k2c1 }
/-- com/example/covertide/covertide/engine/Subsets -/
def k2 : Class := { plain "com/example/covertide/covertide/engine/Subsets" (some 0) with
  accessFlags := 48
  interfaces := #[]
  cf := some (fileOf pool2 23 #[] #[{ accessFlags := 2, nameIndex := 5, descriptorIndex := 6, attributes := #[] }, { accessFlags := 8, nameIndex := 29, descriptorIndex := 30, attributes := #[] }] 48 2 #[] #[])
  fields := #[]
  methods := #[k2m0, k2m1]
  instanceTypes := #[]
  staticTypes := #[]
  resolved := Array.replicate 56 none
  statics := none }

def pool3 : Array CpInfo := pool [(1, u "java/lang/Cloneable"), (0, .class_ 1), (0, u "java/lang/Object"), (0, .class_ 3)] 3

/-- java/lang/Cloneable -/
def k3 : Class := { plain "java/lang/Cloneable" (some 0) with
  accessFlags := 1537
  interfaces := #[]
  cf := some (fileOf pool3 2 #[] #[] 1537 4 #[] #[])
  fields := #[]
  methods := #[]
  instanceTypes := #[]
  staticTypes := #[]
  resolved := Array.replicate 8 none
  statics := none }

def pool4 : Array CpInfo := pool [(1, u "java/io/Serializable"), (0, .class_ 1), (0, u "java/lang/Object"), (0, .class_ 3)] 3

/-- java/io/Serializable -/
def k4 : Class := { plain "java/io/Serializable" (some 0) with
  accessFlags := 1537
  interfaces := #[]
  cf := some (fileOf pool4 2 #[] #[] 1537 4 #[] #[])
  fields := #[]
  methods := #[]
  instanceTypes := #[]
  staticTypes := #[]
  resolved := Array.replicate 8 none
  statics := none }

/-- the primitive byte -/
def k5 : Class := { plain "byte" none with kind := .primitive 'B', accessFlags := 0x411 }
/-- [B -/
def k6 : Class := { plain "[B" (some 0) with kind := .array 5 .byte, interfaces := #[3, 4], accessFlags := 1041 }

/-- the primitive int -/
def k7 : Class := { plain "int" none with kind := .primitive 'I', accessFlags := 0x411 }
/-- [I -/
def k8 : Class := { plain "[I" (some 0) with kind := .array 7 .int, interfaces := #[3, 4], accessFlags := 1041 }

def heap : Heap := #[]
def classes : Array Class := #[k0, k1, k2, k3, k4, k5, k6, k7, k8]
def interned : List (Array UInt16 × Addr) := []
def slotsUsed : Nat := 0
def theMethod : MethodId := ⟨1, 3⟩
def args0 : Array Value := #[.int 3, .int 7, .int 7, .int 7, .int 7]
def aboutOver (below : List Frame) : State where
  vm := { classes := classes, interned := interned.toArray }
  heap := heap
  slotsUsed := slotsUsed
  threads := #[{ frames := .invoking theMethod args0 :: below }]
def below0 : List Frame := [.native { method := ⟨0, 0⟩, args := #[] }]
def about1 : State := aboutOver below0
def p0 : Program := .bare "" "" ""
def e0 : Env := launch0.env 0 0 0
theorem w_frames : about1.frames = Frame.invoking theMethod args0 :: below0 := rfl
set_option maxRecDepth 65536 in
theorem w_args : argsFit about1.vm theMethod args0 = true := by decide +kernel
set_option maxRecDepth 65536 in
theorem w_heap : heapFits about1 = true := by decide +kernel
set_option maxRecDepth 65536 in
theorem w_runnable : about1.curStatus? = some .runnable := by decide +kernel
set_option maxRecDepth 65536 in
theorem w_alone : about1.alone = true := by decide +kernel
set_option maxRecDepth 65536 in
theorem w_named : about1.methodNamed? x = some theMethod := by decide +kernel
set_option maxRecDepth 65536 in
theorem w_hears : about1.hears theMethod below0 = true := by decide +kernel
set_option maxRecDepth 65536 in
theorem w_ripe : about1.ripe theMethod args0 below0 = true := by decide +kernel
theorem w_running : about1.status = .running := rfl
set_option maxRecDepth 65536 in
theorem w_room : about1.hasRoom e0.platform room_1 = true :=
  launch0.hasRoom_least _ room_1 (by decide +kernel) (by decide +kernel) (by decide +kernel) (by decide +kernel) (by decide +kernel) (by decide +kernel)
theorem allAtoms_all (ts : List Jvm.Cond) (a : Array Jvm.Value) (st : Jvm.State) : (allAtoms ts).before a st = ts.all (fun c => c.before a st) := by
  induction ts with
  | nil => rfl
  | cons c t ih =>
    show (Jvm.Cond.and c (allAtoms t)).before a st = _
    rw [Jvm.Cond.before_and, ih, List.all_cons]
def words1 : List Jvm.Cond := Jvm.Cond.code x code maxLocals ret :: tables_1
/-- a 'code' word, met by the world's own term for the bytes: nothing is compared byte by byte -/
theorem code_word {y : MethodName} {bytes : ByteArray} {mx : Nat} {rt : Option FieldType} {a : Array Value} {s : State} {m : MethodId} {meth : Method} {c : Code} (h1 : s.methodNamed? y = some m) (h2 : s.vm.method? m = some meth) (h3 : meth.code = some c) (h4 : c.code = bytes)
    (h5 : (c.maxLocals == mx && c.exceptionTable.isEmpty && decide (c.maxStack ≤ mostOperands) && decide (meth.sig.returnType = rt) && !meth.locks && decide (parseMethodDescriptor y.desc = some meth.sig)) = true) : (Jvm.Cond.code y bytes mx rt).before a s = true := by
  simp only [Bool.and_eq_true, beq_iff_eq, Bool.not_eq_true', decide_eq_true_eq] at h5
  obtain ⟨⟨⟨⟨⟨g1, g2⟩, g3⟩, g4⟩, g5⟩, g6⟩ := h5
  simp [Cond.before, Cond.holds, Cond.value, h1, h2, h3, h4, g1, g2, g3, g4, g5, g6]
def isCode : Jvm.Cond → Bool
  | .code _ _ _ _ => true
  | _ => false
theorem all_split {L : List Jvm.Cond} {P : Jvm.Cond → Bool} (h1 : L.all (fun c => isCode c || P c) = true) (h2 : ∀ c ∈ L.filter isCode, P c = true) : L.all P = true := by
  refine List.all_eq_true.mpr fun c hc => ?_
  have h := List.all_eq_true.mp h1 c hc
  rcases Bool.eq_false_or_eq_true (isCode c) with hi | hi
  · exact h2 c (List.mem_filter.mpr ⟨hc, hi⟩)
  · simpa [hi] using h
set_option maxRecDepth 65536 in
theorem w_c0 : (Jvm.Cond.code x code maxLocals ret).before args0 about1 = true := code_word (m := ⟨1, 3⟩) (meth := k1m3) (c := k1c3) (by decide +kernel) rfl rfl rfl (by decide +kernel)
set_option maxRecDepth 65536 in
theorem w_c1 : (Jvm.Cond.code ({ cls := "com/example/covertide/covertide/engine/SubsetsNext84PinLaw", name := "at", desc := "([III)I" } : Jvm.MethodName) method_2_code (3 : Nat) (Option.some Jvm.ClassFile.FieldType.int)).before args0 about1 = true := code_word (m := ⟨1, 1⟩) (meth := k1m1) (c := k1c1) (by decide +kernel) rfl rfl rfl (by decide +kernel)
set_option maxRecDepth 65536 in
theorem w_c2 : (Jvm.Cond.code ({ cls := "com/example/covertide/covertide/engine/Subsets", name := "next", desc := "([II)Z" } : Jvm.MethodName) prog_11_method_3_code (4 : Nat) (Option.some Jvm.ClassFile.FieldType.boolean)).before args0 about1 = true := code_word (m := ⟨2, 1⟩) (meth := k2m1) (c := k2c1) (by decide +kernel) rfl rfl rfl (by decide +kernel)
set_option maxRecDepth 65536 in
theorem w_c3 : (Jvm.Cond.code ({ cls := "com/example/covertide/covertide/engine/SubsetsNext84PinLaw", name := "same", desc := "([IIIII)Z" } : Jvm.MethodName) method_3_code (5 : Nat) (Option.some Jvm.ClassFile.FieldType.boolean)).before args0 about1 = true := code_word (m := ⟨1, 2⟩) (meth := k1m2) (c := k1c2) (by decide +kernel) rfl rfl rfl (by decide +kernel)
def codes1 : List Jvm.Cond := [Jvm.Cond.code x code maxLocals ret, Jvm.Cond.code ({ cls := "com/example/covertide/covertide/engine/SubsetsNext84PinLaw", name := "at", desc := "([III)I" } : Jvm.MethodName) method_2_code (3 : Nat) (Option.some Jvm.ClassFile.FieldType.int), Jvm.Cond.code ({ cls := "com/example/covertide/covertide/engine/Subsets", name := "next", desc := "([II)Z" } : Jvm.MethodName) prog_11_method_3_code (4 : Nat) (Option.some Jvm.ClassFile.FieldType.boolean), Jvm.Cond.code ({ cls := "com/example/covertide/covertide/engine/SubsetsNext84PinLaw", name := "same", desc := "([IIIII)Z" } : Jvm.MethodName) method_3_code (5 : Nat) (Option.some Jvm.ClassFile.FieldType.boolean)]
set_option maxRecDepth 65536 in
theorem codes_eq : words1.filter isCode = codes1 := rfl
theorem w_codes : ∀ c ∈ words1.filter isCode, c.before args0 about1 = true := by
  rw [codes_eq]
  intro c hc
  simp only [codes1, List.mem_cons, List.not_mem_nil, or_false] at hc
  rcases hc with rfl | rfl | rfl | rfl
  · exact w_c0
  · exact w_c1
  · exact w_c2
  · exact w_c3
set_option maxRecDepth 65536 in
theorem w_t1 : words1.all (fun c => isCode c || c.before args0 about1) = true := by decide +kernel
theorem w_tables : (allAtoms (Jvm.Cond.code x code maxLocals ret :: tables_1)).before args0 about1 = true := by
  rw [allAtoms_all]
  show words1.all (fun c => c.before args0 about1) = true
  refine all_split ?_ w_codes
  rw [w_t1]
set_option maxRecDepth 65536 in
theorem w_case : (Jvm.Cond.and given_1 narrow_1).before args0 about1 = true := by decide +kernel
theorem w_applies : (headSpec (Jvm.Cond.code x code maxLocals ret :: tables_1) room_1).applies x e0.platform about1 = true :=
  (Spec.applies_iff w_frames).mpr ⟨w_running, w_runnable, w_alone, w_named, w_hears, w_ripe, w_room, w_tables⟩
theorem atStart : AtStart classFile x code maxLocals ret World_1 tables_1 room_1 Calls_1 rest_1 Pre_1 launch0 p0 e0 about1 theMethod args0 below0 :=
  ⟨lists_1, trivial, launch0.admits_env _ _ _, launch0.least_env, fairChoices_fair.cas, fairChoices_fair.clock, w_frames, w_args, w_heap, w_applies, trivial, trivial, w_case⟩
end start1
theorem witness_1 : WitnessClaimed_1 := ⟨start1.p0, start1.e0, start1.about1, start1.theMethod, start1.args0, start1.below0, start1.atStart⟩
end Jvm.Pilot.@@N@@
