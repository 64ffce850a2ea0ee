import JvmDerived
import JvmDerived.Pilot.@@N@@Statement
import JvmDerived.Pilot.@@N@@Code
set_option linter.unusedVariables false
set_option linter.unusedSimpArgs false
namespace Jvm.Pilot.@@N@@
open Jvm Jvm.ClassFile Sem Op Lib Jvm.Free Jvm.Stand Jvm.LawKit Jvm.RoadKit Bundle Jvm.Pilot.@@N@@.Jvm.D
/-! ## the common layer: a run that comes to an end of which Q speaks, step by step backwards -/
def Go (p : Program) (e : Env) (below : List Frame) (Q : Outcome → State → Prop) (S : State) : Prop :=
  ∃ s₂ o, Steps p.tables e below S s₂ ∧ s₂.status = .running ∧ Ended s₂ below o ∧ Q o s₂
theorem Go.back {p : Program} {e : Env} {below : List Frame} {Q : Outcome → State → Prop} {A B : State} (k : ∀ t, Steps p.tables e below B t → Steps p.tables e below A t) (h : Go p e below Q B) : Go p e below Q A := by
  obtain ⟨t, o, h1, h2⟩ := h
  exact ⟨t, o, k _ h1, h2⟩
theorem Go.cast {p : Program} {e : Env} {below : List Frame} {Q : Outcome → State → Prop} {A B : State} (k : A = B) (h : Go p e below Q B) : Go p e below Q A := k ▸ h
abbrev jv (x : Int64) : Slot := .val (.long x)
abbrev dv (x : UInt64) : Slot := .val (.double x)
abbrev un : Slot := .unset
abbrev sc : Slot := .second
/-- what a body knows of itself -/
def Cx (p : Program) (s : State) (m : MethodId) (meth : Method) (c : Code) (Z : State) (a0 : Array Value) (own : String) (bytes : ByteArray) (maxL : Nat) (ret : Option FieldType) (nm : String) : Prop :=
  p.tables.exec = Jvm.exec ∧ Z.Warmed39 s.vm ∧ (∀ d ∈ tables_1, d.before a0 Z = true) ∧ s.vm.findClass own = some m.cls ∧ c.code = bytes ∧ c.maxLocals = maxL ∧ meth.sig.returnType = ret ∧ meth.locks = false ∧ meth.name = nm
/-- where the run stands: heap h; every write so far lies at or above n0; k cells and n slots made at the most -/
def St (Z : State) (p : Program) (l : Launch) (e : Env) (R : Room) (s : State) (m : MethodId) (args : Array Value) (below : List Frame) (meth : Method) (c : Code) (n0 : Nat) (T : State) (h : Heap) (k n : Nat) : Prop :=
  ∃ locs, Stand p l e R s m args below meth c T locs k n ∧ Fr n0 locs ∧ Old Z n0 s.heap ∧ T.heap = h
def FinQ (s : State) (k n n0 : Nat) (Q : Option Value → Heap → Prop) (o : Outcome) (t : State) : Prop := ∃ v L, o = .returned v ∧ (Fr n0 L ∧ Q v t.heap) ∧ FrameEnd s o t L k n
/-- a body's contract -/
def Con (l : Launch) (Z : State) (y : MethodName) (bytes : ByteArray) (maxL : Nat) (ret : Option FieldType) (rm : Room) (as' : Array Value) (h : Heap) (n0 : Nat) (Q : Option Value → Heap → Prop) : Prop :=
  ∀ ws, MetFree l y (head1 (Jvm.Cond.code y bytes maxL ret :: ws) rm) (fun a U => a = as' ∧ Z.Warmed39 U.vm ∧ U.heap = h) (fun _ _ _ _ _ => True) (fun _ U o U' => ∃ v L, o = .returned v ∧ (Fr n0 L ∧ Q v U'.heap) ∧ FrameEnd U o U' L rm.cells rm.slots)
theorem con_of {l : Launch} {Z : State} {a0 : Array Value} {y : MethodName} {bytes : ByteArray} {maxL : Nat} {ret : Option FieldType} {rm : Room} {as' : Array Value} {h : Heap} {n0 : Nat} {Q : Option Value → Heap → Prop}
    (hw : ∀ d ∈ tables_1, d.before a0 Z = true) (hpl : plainFor y = true) (hn0 : Old Z n0 h)
    (body : ∀ p e s m below meth c T, Cx p s m meth c Z a0 y.cls bytes maxL ret y.name → St Z p l e rm s m as' below meth c n0 T h 0 0 → Go p e below (FinQ s rm.cells rm.slots n0 Q) (T.setTop (entryFrame m as' maxL))) :
    Con l Z y bytes maxL ret rm as' h n0 Q := by
  intro ws
  refine MetFree.of_bodySF hpl hisR ?_
  intro p e s m args below meth c s₁ Bd hml0 hP hK
  obtain ⟨rfl, hZ, hh⟩ := hP
  have e0 : s₁.heap = h := by rw [← hh, Bd.state]; rfl
  exact body p e s m below meth c s₁ ⟨Bd.exec, hZ, hw, findClass_of_methodNamed Bd.named, Bd.bytes, hml0, Bd.returns, Bd.notSynchronized, (name_of_methodNamed Bd.named Bd.method).1⟩ ⟨[], Stand.of_body Bd, Fr.nil n0, by rw [hh]; exact hn0, e0⟩
section Steps1
variable {p : Program} {l : Launch} {e : Env} {R : Room} {s : State} {m : MethodId} {args : Array Value} {below : List Frame} {meth : Method} {c : Code} {Z : State} {a0 : Array Value} {own : String} {bytes : ByteArray} {maxL : Nat} {ret : Option FieldType} {nm : String} {n0 : Nat} {T : State} {h : Heap} {k n : Nat} {Q : Outcome → State → Prop} {pc pc' pc2 : Nat} {Ls Ls' : Array Slot} {st : List Value}
theorem Cx.w (C : Cx p s m meth c Z a0 own bytes maxL ret nm) (i : Nat) {d : Jvm.Cond} (hd : tables_1[i]? = some d) : d.before a0 Z = true := C.2.2.1 _ (List.mem_of_getElem? hd)
theorem Cx.ws (C : Cx p s m meth c Z a0 own bytes maxL ret nm) : ∀ d ∈ tables_1, d.before a0 Z = true := C.2.2.1
theorem Cx.cd (C : Cx p s m meth c Z a0 own bytes maxL ret nm) {r : Except ClassFile.DecodeError (ClassFile.Instr × Nat)} (h2 : decode bytes pc = r) : decode c.code pc = r := hb C.2.2.2.2.1 h2
theorem Cx.ow (C : Cx p s m meth c Z a0 own bytes maxL ret nm) : s.vm.findClass own = some m.cls := C.2.2.2.1
theorem Cx.hZ (C : Cx p s m meth c Z a0 own bytes maxL ret nm) : Z.Warmed39 s.vm := C.2.1
theorem Cx.ml (C : Cx p s m meth c Z a0 own bytes maxL ret nm) : c.maxLocals = maxL := C.2.2.2.2.2.1
theorem Cx.rt (C : Cx p s m meth c Z a0 own bytes maxL ret nm) : meth.sig.returnType = ret := C.2.2.2.2.2.2.1
theorem Cx.lk (C : Cx p s m meth c Z a0 own bytes maxL ret nm) : meth.locks = false := C.2.2.2.2.2.2.2.1
theorem Cx.nmE (C : Cx p s m meth c Z a0 own bytes maxL ret nm) : meth.name = nm := C.2.2.2.2.2.2.2.2
theorem St.sz (X : St Z p l e R s m args below meth c n0 T h k n) : n0 ≤ h.size := by obtain ⟨_, Y, _, q, rfl⟩ := X; exact Nat.le_trans (Nat.le_trans (Nat.le_of_eq q.1.symm) q.2.1) Y.same.2.1
theorem St.old (X : St Z p l e R s m args below meth c n0 T h k n) : Old Z n0 h := by
  obtain ⟨locs, Y, N, o, rfl⟩ := X
  refine ⟨o.1, Nat.le_trans o.2.1 Y.same.2.1, fun a ce hc => ?_⟩
  obtain ⟨c', e1, e2, e3, e4⟩ := Y.same.2.2.2.2.2 a ce (o.2.2 a ce hc)
  have lt := (Array.getElem?_eq_some_iff.mp hc).1
  have hs : c'.slots = ce.slots := Array.ext_getElem? fun i => e4 i fun q => by have := N _ q; have := o.1; simp at *; omega
  rw [hs] at e2
  exact (show c' = ce from e2) ▸ e1
theorem St.more (X : St Z p l e R s m args below meth c n0 T h k n) {k' n' : Nat} (hk : k ≤ k') (hn : n ≤ n') : St Z p l e R s m args below meth c n0 T h k' n' := by
  obtain ⟨locs, Y, r⟩ := X
  exact ⟨locs, Y.more hk hn, r⟩

theorem go_iload (C : Cx p s m meth c Z a0 own bytes maxL ret nm) (X : St Z p l e R s m args below meth c n0 T h k n) {i : Nat} {v : Int32} (pc' : Nat) (hp : pc + 2 = pc') (hd : decode bytes pc = .ok (.iload i, 2)) (hl : Ls[i]? = some (.val (.int v))) (hr : Go p e below Q (T.setTop (mkF m pc' Ls (.int v :: st)))) : Go p e below Q (T.setTop (mkF m pc Ls st)) := by
  subst hp
  obtain ⟨locs, Y, -, -, -⟩ := X
  exact Go.back (fun t kt => Jvm.Free.XS.iload Y.here C.1 rfl (C.cd hd) hl kt) hr
theorem go_iloadN (C : Cx p s m meth c Z a0 own bytes maxL ret nm) (X : St Z p l e R s m args below meth c n0 T h k n) {i : Fin 4} {v : Int32} (pc' : Nat) (hp : pc + 1 = pc') (hd : decode bytes pc = .ok (.iload_n i, 1)) (hl : Ls[i.val]? = some (.val (.int v))) (hr : Go p e below Q (T.setTop (mkF m pc' Ls (.int v :: st)))) : Go p e below Q (T.setTop (mkF m pc Ls st)) := by
  subst hp
  obtain ⟨locs, Y, -, -, -⟩ := X
  exact Go.back (fun t kt => Jvm.Free.XS.iloadN Y.here C.1 rfl (C.cd hd) hl kt) hr
theorem go_istore (C : Cx p s m meth c Z a0 own bytes maxL ret nm) (X : St Z p l e R s m args below meth c n0 T h k n) {i : Nat} {v : Int32} (pc' : Nat) (hp : pc + 2 = pc') (hd : decode bytes pc = .ok (.istore i, 2)) (Ls' : Array Slot) (hl : storeLocals Ls i (.int v) = some Ls') (hr : Go p e below Q (T.setTop (mkF m pc' Ls' st))) : Go p e below Q (T.setTop (mkF m pc Ls (.int v :: st))) := by
  subst hp
  obtain ⟨locs, Y, -, -, -⟩ := X
  exact Go.back (fun t kt => Jvm.Free.XS.istore Y.here C.1 rfl (C.cd hd) rfl hl kt) hr
theorem go_istoreN (C : Cx p s m meth c Z a0 own bytes maxL ret nm) (X : St Z p l e R s m args below meth c n0 T h k n) {i : Fin 4} {v : Int32} (pc' : Nat) (hp : pc + 1 = pc') (hd : decode bytes pc = .ok (.istore_n i, 1)) (Ls' : Array Slot) (hl : storeLocals Ls i.val (.int v) = some Ls') (hr : Go p e below Q (T.setTop (mkF m pc' Ls' st))) : Go p e below Q (T.setTop (mkF m pc Ls (.int v :: st))) := by
  subst hp
  obtain ⟨locs, Y, -, -, -⟩ := X
  exact Go.back (fun t kt => Jvm.Free.XS.istoreN Y.here C.1 rfl (C.cd hd) rfl hl kt) hr
theorem go_lload (C : Cx p s m meth c Z a0 own bytes maxL ret nm) (X : St Z p l e R s m args below meth c n0 T h k n) {i : Nat} {v : Int64} (pc' : Nat) (hp : pc + 2 = pc') (hd : decode bytes pc = .ok (.lload i, 2)) (hl : Ls[i]? = some (.val (.long v))) (hr : Go p e below Q (T.setTop (mkF m pc' Ls (.long v :: st)))) : Go p e below Q (T.setTop (mkF m pc Ls st)) := by
  subst hp
  obtain ⟨locs, Y, -, -, -⟩ := X
  exact Go.back (fun t kt => Jvm.Free.XS.lload Y.here C.1 rfl (C.cd hd) hl kt) hr
theorem go_lloadN (C : Cx p s m meth c Z a0 own bytes maxL ret nm) (X : St Z p l e R s m args below meth c n0 T h k n) {i : Fin 4} {v : Int64} (pc' : Nat) (hp : pc + 1 = pc') (hd : decode bytes pc = .ok (.lload_n i, 1)) (hl : Ls[i.val]? = some (.val (.long v))) (hr : Go p e below Q (T.setTop (mkF m pc' Ls (.long v :: st)))) : Go p e below Q (T.setTop (mkF m pc Ls st)) := by
  subst hp
  obtain ⟨locs, Y, -, -, -⟩ := X
  exact Go.back (fun t kt => Jvm.Free.XS.lloadN Y.here C.1 rfl (C.cd hd) hl kt) hr
theorem go_lstore (C : Cx p s m meth c Z a0 own bytes maxL ret nm) (X : St Z p l e R s m args below meth c n0 T h k n) {i : Nat} {v : Int64} (pc' : Nat) (hp : pc + 2 = pc') (hd : decode bytes pc = .ok (.lstore i, 2)) (Ls' : Array Slot) (hl : storeLocals Ls i (.long v) = some Ls') (hr : Go p e below Q (T.setTop (mkF m pc' Ls' st))) : Go p e below Q (T.setTop (mkF m pc Ls (.long v :: st))) := by
  subst hp
  obtain ⟨locs, Y, -, -, -⟩ := X
  exact Go.back (fun t kt => Jvm.Free.XS.lstore Y.here C.1 rfl (C.cd hd) rfl hl kt) hr
theorem go_lstoreN (C : Cx p s m meth c Z a0 own bytes maxL ret nm) (X : St Z p l e R s m args below meth c n0 T h k n) {i : Fin 4} {v : Int64} (pc' : Nat) (hp : pc + 1 = pc') (hd : decode bytes pc = .ok (.lstore_n i, 1)) (Ls' : Array Slot) (hl : storeLocals Ls i.val (.long v) = some Ls') (hr : Go p e below Q (T.setTop (mkF m pc' Ls' st))) : Go p e below Q (T.setTop (mkF m pc Ls (.long v :: st))) := by
  subst hp
  obtain ⟨locs, Y, -, -, -⟩ := X
  exact Go.back (fun t kt => Jvm.Free.XS.lstoreN Y.here C.1 rfl (C.cd hd) rfl hl kt) hr
theorem go_aload (C : Cx p s m meth c Z a0 own bytes maxL ret nm) (X : St Z p l e R s m args below meth c n0 T h k n) {i : Nat} {v : Value} (pc' : Nat) (hp : pc + 2 = pc') (hd : decode bytes pc = .ok (.aload i, 2)) (hl : Ls[i]? = some (.val v)) (hv : v.isRef = true) (hr : Go p e below Q (T.setTop (mkF m pc' Ls (v :: st)))) : Go p e below Q (T.setTop (mkF m pc Ls st)) := by
  subst hp
  obtain ⟨locs, Y, -, -, -⟩ := X
  exact Go.back (fun t kt => Jvm.Free.XS.aload Y.here C.1 rfl (C.cd hd) hl hv kt) hr
theorem go_aloadN (C : Cx p s m meth c Z a0 own bytes maxL ret nm) (X : St Z p l e R s m args below meth c n0 T h k n) {i : Fin 4} {v : Value} (pc' : Nat) (hp : pc + 1 = pc') (hd : decode bytes pc = .ok (.aload_n i, 1)) (hl : Ls[i.val]? = some (.val v)) (hv : v.isRef = true) (hr : Go p e below Q (T.setTop (mkF m pc' Ls (v :: st)))) : Go p e below Q (T.setTop (mkF m pc Ls st)) := by
  subst hp
  obtain ⟨locs, Y, -, -, -⟩ := X
  exact Go.back (fun t kt => Jvm.Free.XS.aloadN Y.here C.1 rfl (C.cd hd) hl hv kt) hr
theorem go_astore (C : Cx p s m meth c Z a0 own bytes maxL ret nm) (X : St Z p l e R s m args below meth c n0 T h k n) {i : Nat} {v : Value} (pc' : Nat) (hp : pc + 2 = pc') (hd : decode bytes pc = .ok (.astore i, 2)) (hv : v.isRef = true) (Ls' : Array Slot) (hl : storeLocals Ls i v = some Ls') (hr : Go p e below Q (T.setTop (mkF m pc' Ls' st))) : Go p e below Q (T.setTop (mkF m pc Ls (v :: st))) := by
  subst hp
  obtain ⟨locs, Y, -, -, -⟩ := X
  exact Go.back (fun t kt => Jvm.Free.XS.astore Y.here C.1 rfl (C.cd hd) rfl hv hl kt) hr
theorem go_astoreN (C : Cx p s m meth c Z a0 own bytes maxL ret nm) (X : St Z p l e R s m args below meth c n0 T h k n) {i : Fin 4} {v : Value} (pc' : Nat) (hp : pc + 1 = pc') (hd : decode bytes pc = .ok (.astore_n i, 1)) (hv : v.isRef = true) (Ls' : Array Slot) (hl : storeLocals Ls i.val v = some Ls') (hr : Go p e below Q (T.setTop (mkF m pc' Ls' st))) : Go p e below Q (T.setTop (mkF m pc Ls (v :: st))) := by
  subst hp
  obtain ⟨locs, Y, -, -, -⟩ := X
  exact Go.back (fun t kt => Jvm.Free.XS.astoreN Y.here C.1 rfl (C.cd hd) rfl hv hl kt) hr
theorem go_iconst (C : Cx p s m meth c Z a0 own bytes maxL ret nm) (X : St Z p l e R s m args below meth c n0 T h k n) {i : Int} {z : Int32} (pc' : Nat) (hp : pc + 1 = pc') (hd : decode bytes pc = .ok (.iconst i, 1)) (hz : Int32.ofInt i = z) (hr : Go p e below Q (T.setTop (mkF m pc' Ls (.int z :: st)))) : Go p e below Q (T.setTop (mkF m pc Ls st)) := by
  subst hp
  obtain ⟨locs, Y, -, -, -⟩ := X
  exact Go.back (fun t kt => by subst hz; exact Jvm.Free.XS.iconst Y.here C.1 rfl (C.cd hd) kt) hr
theorem go_bipush (C : Cx p s m meth c Z a0 own bytes maxL ret nm) (X : St Z p l e R s m args below meth c n0 T h k n) {i : Int} {z : Int32} (pc' : Nat) (hp : pc + 2 = pc') (hd : decode bytes pc = .ok (.bipush i, 2)) (hz : (Int8.ofInt i).toInt32 = z) (hr : Go p e below Q (T.setTop (mkF m pc' Ls (.int z :: st)))) : Go p e below Q (T.setTop (mkF m pc Ls st)) := by
  subst hp
  obtain ⟨locs, Y, -, -, -⟩ := X
  exact Go.back (fun t kt => by subst hz; exact Jvm.Free.XS.bipush Y.here C.1 rfl (C.cd hd) kt) hr
theorem go_sipush (C : Cx p s m meth c Z a0 own bytes maxL ret nm) (X : St Z p l e R s m args below meth c n0 T h k n) {i : Int} {z : Int32} (pc' : Nat) (hp : pc + 3 = pc') (hd : decode bytes pc = .ok (.sipush i, 3)) (hz : (Int16.ofInt i).toInt32 = z) (hr : Go p e below Q (T.setTop (mkF m pc' Ls (.int z :: st)))) : Go p e below Q (T.setTop (mkF m pc Ls st)) := by
  subst hp
  obtain ⟨locs, Y, -, -, -⟩ := X
  exact Go.back (fun t kt => by subst hz; exact Jvm.Free.XS.sipush Y.here C.1 rfl (C.cd hd) kt) hr
theorem go_lconst (C : Cx p s m meth c Z a0 own bytes maxL ret nm) (X : St Z p l e R s m args below meth c n0 T h k n) {i : Fin 2} {z : Int64} (pc' : Nat) (hp : pc + 1 = pc') (hd : decode bytes pc = .ok (.lconst i, 1)) (hz : Int64.ofNat i = z) (hr : Go p e below Q (T.setTop (mkF m pc' Ls (.long z :: st)))) : Go p e below Q (T.setTop (mkF m pc Ls st)) := by
  subst hp
  obtain ⟨locs, Y, -, -, -⟩ := X
  exact Go.back (fun t kt => by subst hz; exact Jvm.Free.XS.lconst Y.here C.1 rfl (C.cd hd) kt) hr
theorem go_aconstNull (C : Cx p s m meth c Z a0 own bytes maxL ret nm) (X : St Z p l e R s m args below meth c n0 T h k n)  (pc' : Nat) (hp : pc + 1 = pc') (hd : decode bytes pc = .ok (.aconst_null, 1)) (hr : Go p e below Q (T.setTop (mkF m pc' Ls (.null :: st)))) : Go p e below Q (T.setTop (mkF m pc Ls st)) := by
  subst hp
  obtain ⟨locs, Y, -, -, -⟩ := X
  exact Go.back (fun t kt => Jvm.Free.XS.aconstNull Y.here C.1 rfl (C.cd hd) kt) hr
theorem go_iaddL (C : Cx p s m meth c Z a0 own bytes maxL ret nm) (X : St Z p l e R s m args below meth c n0 T h k n) {x y z : Int32} (pc' : Nat) (hp : pc + 1 = pc') (hd : decode bytes pc = .ok (.iadd, 1)) (hz : x + y = z) (hr : Go p e below Q (T.setTop (mkF m pc' Ls (.int z :: st)))) : Go p e below Q (T.setTop (mkF m pc Ls (.int y :: .int x :: st))) := by
  subst hp
  obtain ⟨locs, Y, -, -, -⟩ := X
  exact Go.back (fun t kt => by subst hz; exact Jvm.Free.XS.iadd Y.here C.1 rfl (C.cd hd) rfl kt) hr
theorem go_iadd (C : Cx p s m meth c Z a0 own bytes maxL ret nm) (X : St Z p l e R s m args below meth c n0 T h k n) {x y : Int32} (pc' : Nat) (hp : pc + 1 = pc') (hd : decode bytes pc = .ok (.iadd, 1)) (hr : Go p e below Q (T.setTop (mkF m pc' Ls (.int (x + y) :: st)))) : Go p e below Q (T.setTop (mkF m pc Ls (.int y :: .int x :: st))) := by
  subst hp
  obtain ⟨locs, Y, -, -, -⟩ := X
  exact Go.back (fun t kt => Jvm.Free.XS.iadd Y.here C.1 rfl (C.cd hd) rfl kt) hr
theorem go_isubL (C : Cx p s m meth c Z a0 own bytes maxL ret nm) (X : St Z p l e R s m args below meth c n0 T h k n) {x y z : Int32} (pc' : Nat) (hp : pc + 1 = pc') (hd : decode bytes pc = .ok (.isub, 1)) (hz : x - y = z) (hr : Go p e below Q (T.setTop (mkF m pc' Ls (.int z :: st)))) : Go p e below Q (T.setTop (mkF m pc Ls (.int y :: .int x :: st))) := by
  subst hp
  obtain ⟨locs, Y, -, -, -⟩ := X
  exact Go.back (fun t kt => by subst hz; exact Jvm.Free.XS.isub Y.here C.1 rfl (C.cd hd) rfl kt) hr
theorem go_isub (C : Cx p s m meth c Z a0 own bytes maxL ret nm) (X : St Z p l e R s m args below meth c n0 T h k n) {x y : Int32} (pc' : Nat) (hp : pc + 1 = pc') (hd : decode bytes pc = .ok (.isub, 1)) (hr : Go p e below Q (T.setTop (mkF m pc' Ls (.int (x - y) :: st)))) : Go p e below Q (T.setTop (mkF m pc Ls (.int y :: .int x :: st))) := by
  subst hp
  obtain ⟨locs, Y, -, -, -⟩ := X
  exact Go.back (fun t kt => Jvm.Free.XS.isub Y.here C.1 rfl (C.cd hd) rfl kt) hr
theorem go_imulL (C : Cx p s m meth c Z a0 own bytes maxL ret nm) (X : St Z p l e R s m args below meth c n0 T h k n) {x y z : Int32} (pc' : Nat) (hp : pc + 1 = pc') (hd : decode bytes pc = .ok (.imul, 1)) (hz : x * y = z) (hr : Go p e below Q (T.setTop (mkF m pc' Ls (.int z :: st)))) : Go p e below Q (T.setTop (mkF m pc Ls (.int y :: .int x :: st))) := by
  subst hp
  obtain ⟨locs, Y, -, -, -⟩ := X
  exact Go.back (fun t kt => by subst hz; exact Jvm.Free.XS.imul Y.here C.1 rfl (C.cd hd) rfl kt) hr
theorem go_imul (C : Cx p s m meth c Z a0 own bytes maxL ret nm) (X : St Z p l e R s m args below meth c n0 T h k n) {x y : Int32} (pc' : Nat) (hp : pc + 1 = pc') (hd : decode bytes pc = .ok (.imul, 1)) (hr : Go p e below Q (T.setTop (mkF m pc' Ls (.int (x * y) :: st)))) : Go p e below Q (T.setTop (mkF m pc Ls (.int y :: .int x :: st))) := by
  subst hp
  obtain ⟨locs, Y, -, -, -⟩ := X
  exact Go.back (fun t kt => Jvm.Free.XS.imul Y.here C.1 rfl (C.cd hd) rfl kt) hr
theorem go_iandL (C : Cx p s m meth c Z a0 own bytes maxL ret nm) (X : St Z p l e R s m args below meth c n0 T h k n) {x y z : Int32} (pc' : Nat) (hp : pc + 1 = pc') (hd : decode bytes pc = .ok (.iand, 1)) (hz : x &&& y = z) (hr : Go p e below Q (T.setTop (mkF m pc' Ls (.int z :: st)))) : Go p e below Q (T.setTop (mkF m pc Ls (.int y :: .int x :: st))) := by
  subst hp
  obtain ⟨locs, Y, -, -, -⟩ := X
  exact Go.back (fun t kt => by subst hz; exact Jvm.Free.XS.iand Y.here C.1 rfl (C.cd hd) rfl kt) hr
theorem go_iand (C : Cx p s m meth c Z a0 own bytes maxL ret nm) (X : St Z p l e R s m args below meth c n0 T h k n) {x y : Int32} (pc' : Nat) (hp : pc + 1 = pc') (hd : decode bytes pc = .ok (.iand, 1)) (hr : Go p e below Q (T.setTop (mkF m pc' Ls (.int (x &&& y) :: st)))) : Go p e below Q (T.setTop (mkF m pc Ls (.int y :: .int x :: st))) := by
  subst hp
  obtain ⟨locs, Y, -, -, -⟩ := X
  exact Go.back (fun t kt => Jvm.Free.XS.iand Y.here C.1 rfl (C.cd hd) rfl kt) hr
theorem go_iorL (C : Cx p s m meth c Z a0 own bytes maxL ret nm) (X : St Z p l e R s m args below meth c n0 T h k n) {x y z : Int32} (pc' : Nat) (hp : pc + 1 = pc') (hd : decode bytes pc = .ok (.ior, 1)) (hz : x ||| y = z) (hr : Go p e below Q (T.setTop (mkF m pc' Ls (.int z :: st)))) : Go p e below Q (T.setTop (mkF m pc Ls (.int y :: .int x :: st))) := by
  subst hp
  obtain ⟨locs, Y, -, -, -⟩ := X
  exact Go.back (fun t kt => by subst hz; exact Jvm.Free.XS.ior Y.here C.1 rfl (C.cd hd) rfl kt) hr
theorem go_ior (C : Cx p s m meth c Z a0 own bytes maxL ret nm) (X : St Z p l e R s m args below meth c n0 T h k n) {x y : Int32} (pc' : Nat) (hp : pc + 1 = pc') (hd : decode bytes pc = .ok (.ior, 1)) (hr : Go p e below Q (T.setTop (mkF m pc' Ls (.int (x ||| y) :: st)))) : Go p e below Q (T.setTop (mkF m pc Ls (.int y :: .int x :: st))) := by
  subst hp
  obtain ⟨locs, Y, -, -, -⟩ := X
  exact Go.back (fun t kt => Jvm.Free.XS.ior Y.here C.1 rfl (C.cd hd) rfl kt) hr
theorem go_ixorL (C : Cx p s m meth c Z a0 own bytes maxL ret nm) (X : St Z p l e R s m args below meth c n0 T h k n) {x y z : Int32} (pc' : Nat) (hp : pc + 1 = pc') (hd : decode bytes pc = .ok (.ixor, 1)) (hz : x ^^^ y = z) (hr : Go p e below Q (T.setTop (mkF m pc' Ls (.int z :: st)))) : Go p e below Q (T.setTop (mkF m pc Ls (.int y :: .int x :: st))) := by
  subst hp
  obtain ⟨locs, Y, -, -, -⟩ := X
  exact Go.back (fun t kt => by subst hz; exact Jvm.Free.XS.ixor Y.here C.1 rfl (C.cd hd) rfl kt) hr
theorem go_ixor (C : Cx p s m meth c Z a0 own bytes maxL ret nm) (X : St Z p l e R s m args below meth c n0 T h k n) {x y : Int32} (pc' : Nat) (hp : pc + 1 = pc') (hd : decode bytes pc = .ok (.ixor, 1)) (hr : Go p e below Q (T.setTop (mkF m pc' Ls (.int (x ^^^ y) :: st)))) : Go p e below Q (T.setTop (mkF m pc Ls (.int y :: .int x :: st))) := by
  subst hp
  obtain ⟨locs, Y, -, -, -⟩ := X
  exact Go.back (fun t kt => Jvm.Free.XS.ixor Y.here C.1 rfl (C.cd hd) rfl kt) hr
theorem go_idiv (C : Cx p s m meth c Z a0 own bytes maxL ret nm) (X : St Z p l e R s m args below meth c n0 T h k n) {x y : Int32} (pc' : Nat) (hp : pc + 1 = pc') (hd : decode bytes pc = .ok (.idiv, 1)) (hy : y ≠ 0) (hr : Go p e below Q (T.setTop (mkF m pc' Ls (.int (x / y) :: st)))) : Go p e below Q (T.setTop (mkF m pc Ls (.int y :: .int x :: st))) := by
  subst hp
  obtain ⟨locs, Y, -, -, -⟩ := X
  exact Go.back (fun t kt => Jvm.Free.XS.idiv Y.here C.1 rfl (C.cd hd) rfl hy kt) hr
theorem go_ineg (C : Cx p s m meth c Z a0 own bytes maxL ret nm) (X : St Z p l e R s m args below meth c n0 T h k n) {x : Int32} (pc' : Nat) (hp : pc + 1 = pc') (hd : decode bytes pc = .ok (.ineg, 1)) (hr : Go p e below Q (T.setTop (mkF m pc' Ls (.int (-x) :: st)))) : Go p e below Q (T.setTop (mkF m pc Ls (.int x :: st))) := by
  subst hp
  obtain ⟨locs, Y, -, -, -⟩ := X
  exact Go.back (fun t kt => Jvm.Free.XS.ineg Y.here C.1 rfl (C.cd hd) rfl kt) hr
theorem go_laddL (C : Cx p s m meth c Z a0 own bytes maxL ret nm) (X : St Z p l e R s m args below meth c n0 T h k n) {x y z : Int64} (pc' : Nat) (hp : pc + 1 = pc') (hd : decode bytes pc = .ok (.ladd, 1)) (hz : x + y = z) (hr : Go p e below Q (T.setTop (mkF m pc' Ls (.long z :: st)))) : Go p e below Q (T.setTop (mkF m pc Ls (.long y :: .long x :: st))) := by
  subst hp
  obtain ⟨locs, Y, -, -, -⟩ := X
  exact Go.back (fun t kt => by subst hz; exact Jvm.Free.XS.ladd Y.here C.1 rfl (C.cd hd) rfl kt) hr
theorem go_ladd (C : Cx p s m meth c Z a0 own bytes maxL ret nm) (X : St Z p l e R s m args below meth c n0 T h k n) {x y : Int64} (pc' : Nat) (hp : pc + 1 = pc') (hd : decode bytes pc = .ok (.ladd, 1)) (hr : Go p e below Q (T.setTop (mkF m pc' Ls (.long (x + y) :: st)))) : Go p e below Q (T.setTop (mkF m pc Ls (.long y :: .long x :: st))) := by
  subst hp
  obtain ⟨locs, Y, -, -, -⟩ := X
  exact Go.back (fun t kt => Jvm.Free.XS.ladd Y.here C.1 rfl (C.cd hd) rfl kt) hr
theorem go_lsubL (C : Cx p s m meth c Z a0 own bytes maxL ret nm) (X : St Z p l e R s m args below meth c n0 T h k n) {x y z : Int64} (pc' : Nat) (hp : pc + 1 = pc') (hd : decode bytes pc = .ok (.lsub, 1)) (hz : x - y = z) (hr : Go p e below Q (T.setTop (mkF m pc' Ls (.long z :: st)))) : Go p e below Q (T.setTop (mkF m pc Ls (.long y :: .long x :: st))) := by
  subst hp
  obtain ⟨locs, Y, -, -, -⟩ := X
  exact Go.back (fun t kt => by subst hz; exact Jvm.Free.XS.lsub Y.here C.1 rfl (C.cd hd) rfl kt) hr
theorem go_lsub (C : Cx p s m meth c Z a0 own bytes maxL ret nm) (X : St Z p l e R s m args below meth c n0 T h k n) {x y : Int64} (pc' : Nat) (hp : pc + 1 = pc') (hd : decode bytes pc = .ok (.lsub, 1)) (hr : Go p e below Q (T.setTop (mkF m pc' Ls (.long (x - y) :: st)))) : Go p e below Q (T.setTop (mkF m pc Ls (.long y :: .long x :: st))) := by
  subst hp
  obtain ⟨locs, Y, -, -, -⟩ := X
  exact Go.back (fun t kt => Jvm.Free.XS.lsub Y.here C.1 rfl (C.cd hd) rfl kt) hr
theorem go_lmulL (C : Cx p s m meth c Z a0 own bytes maxL ret nm) (X : St Z p l e R s m args below meth c n0 T h k n) {x y z : Int64} (pc' : Nat) (hp : pc + 1 = pc') (hd : decode bytes pc = .ok (.lmul, 1)) (hz : x * y = z) (hr : Go p e below Q (T.setTop (mkF m pc' Ls (.long z :: st)))) : Go p e below Q (T.setTop (mkF m pc Ls (.long y :: .long x :: st))) := by
  subst hp
  obtain ⟨locs, Y, -, -, -⟩ := X
  exact Go.back (fun t kt => by subst hz; exact Jvm.Free.XS.lmul Y.here C.1 rfl (C.cd hd) rfl kt) hr
theorem go_lmul (C : Cx p s m meth c Z a0 own bytes maxL ret nm) (X : St Z p l e R s m args below meth c n0 T h k n) {x y : Int64} (pc' : Nat) (hp : pc + 1 = pc') (hd : decode bytes pc = .ok (.lmul, 1)) (hr : Go p e below Q (T.setTop (mkF m pc' Ls (.long (x * y) :: st)))) : Go p e below Q (T.setTop (mkF m pc Ls (.long y :: .long x :: st))) := by
  subst hp
  obtain ⟨locs, Y, -, -, -⟩ := X
  exact Go.back (fun t kt => Jvm.Free.XS.lmul Y.here C.1 rfl (C.cd hd) rfl kt) hr
theorem go_landL (C : Cx p s m meth c Z a0 own bytes maxL ret nm) (X : St Z p l e R s m args below meth c n0 T h k n) {x y z : Int64} (pc' : Nat) (hp : pc + 1 = pc') (hd : decode bytes pc = .ok (.land, 1)) (hz : x &&& y = z) (hr : Go p e below Q (T.setTop (mkF m pc' Ls (.long z :: st)))) : Go p e below Q (T.setTop (mkF m pc Ls (.long y :: .long x :: st))) := by
  subst hp
  obtain ⟨locs, Y, -, -, -⟩ := X
  exact Go.back (fun t kt => by subst hz; exact Jvm.Free.XS.land Y.here C.1 rfl (C.cd hd) rfl kt) hr
theorem go_land (C : Cx p s m meth c Z a0 own bytes maxL ret nm) (X : St Z p l e R s m args below meth c n0 T h k n) {x y : Int64} (pc' : Nat) (hp : pc + 1 = pc') (hd : decode bytes pc = .ok (.land, 1)) (hr : Go p e below Q (T.setTop (mkF m pc' Ls (.long (x &&& y) :: st)))) : Go p e below Q (T.setTop (mkF m pc Ls (.long y :: .long x :: st))) := by
  subst hp
  obtain ⟨locs, Y, -, -, -⟩ := X
  exact Go.back (fun t kt => Jvm.Free.XS.land Y.here C.1 rfl (C.cd hd) rfl kt) hr
theorem go_lorL (C : Cx p s m meth c Z a0 own bytes maxL ret nm) (X : St Z p l e R s m args below meth c n0 T h k n) {x y z : Int64} (pc' : Nat) (hp : pc + 1 = pc') (hd : decode bytes pc = .ok (.lor, 1)) (hz : x ||| y = z) (hr : Go p e below Q (T.setTop (mkF m pc' Ls (.long z :: st)))) : Go p e below Q (T.setTop (mkF m pc Ls (.long y :: .long x :: st))) := by
  subst hp
  obtain ⟨locs, Y, -, -, -⟩ := X
  exact Go.back (fun t kt => by subst hz; exact Jvm.Free.XS.lor Y.here C.1 rfl (C.cd hd) rfl kt) hr
theorem go_lor (C : Cx p s m meth c Z a0 own bytes maxL ret nm) (X : St Z p l e R s m args below meth c n0 T h k n) {x y : Int64} (pc' : Nat) (hp : pc + 1 = pc') (hd : decode bytes pc = .ok (.lor, 1)) (hr : Go p e below Q (T.setTop (mkF m pc' Ls (.long (x ||| y) :: st)))) : Go p e below Q (T.setTop (mkF m pc Ls (.long y :: .long x :: st))) := by
  subst hp
  obtain ⟨locs, Y, -, -, -⟩ := X
  exact Go.back (fun t kt => Jvm.Free.XS.lor Y.here C.1 rfl (C.cd hd) rfl kt) hr
theorem go_lxorL (C : Cx p s m meth c Z a0 own bytes maxL ret nm) (X : St Z p l e R s m args below meth c n0 T h k n) {x y z : Int64} (pc' : Nat) (hp : pc + 1 = pc') (hd : decode bytes pc = .ok (.lxor, 1)) (hz : x ^^^ y = z) (hr : Go p e below Q (T.setTop (mkF m pc' Ls (.long z :: st)))) : Go p e below Q (T.setTop (mkF m pc Ls (.long y :: .long x :: st))) := by
  subst hp
  obtain ⟨locs, Y, -, -, -⟩ := X
  exact Go.back (fun t kt => by subst hz; exact Jvm.Free.XS.lxor Y.here C.1 rfl (C.cd hd) rfl kt) hr
theorem go_lxor (C : Cx p s m meth c Z a0 own bytes maxL ret nm) (X : St Z p l e R s m args below meth c n0 T h k n) {x y : Int64} (pc' : Nat) (hp : pc + 1 = pc') (hd : decode bytes pc = .ok (.lxor, 1)) (hr : Go p e below Q (T.setTop (mkF m pc' Ls (.long (x ^^^ y) :: st)))) : Go p e below Q (T.setTop (mkF m pc Ls (.long y :: .long x :: st))) := by
  subst hp
  obtain ⟨locs, Y, -, -, -⟩ := X
  exact Go.back (fun t kt => Jvm.Free.XS.lxor Y.here C.1 rfl (C.cd hd) rfl kt) hr
theorem go_ldiv (C : Cx p s m meth c Z a0 own bytes maxL ret nm) (X : St Z p l e R s m args below meth c n0 T h k n) {x y : Int64} (pc' : Nat) (hp : pc + 1 = pc') (hd : decode bytes pc = .ok (.ldiv, 1)) (hy : y ≠ 0) (hr : Go p e below Q (T.setTop (mkF m pc' Ls (.long (x / y) :: st)))) : Go p e below Q (T.setTop (mkF m pc Ls (.long y :: .long x :: st))) := by
  subst hp
  obtain ⟨locs, Y, -, -, -⟩ := X
  exact Go.back (fun t kt => Jvm.Free.XS.ldiv Y.here C.1 rfl (C.cd hd) rfl hy kt) hr
theorem go_lneg (C : Cx p s m meth c Z a0 own bytes maxL ret nm) (X : St Z p l e R s m args below meth c n0 T h k n) {x : Int64} (pc' : Nat) (hp : pc + 1 = pc') (hd : decode bytes pc = .ok (.lneg, 1)) (hr : Go p e below Q (T.setTop (mkF m pc' Ls (.long (-x) :: st)))) : Go p e below Q (T.setTop (mkF m pc Ls (.long x :: st))) := by
  subst hp
  obtain ⟨locs, Y, -, -, -⟩ := X
  exact Go.back (fun t kt => Jvm.Free.XS.lneg Y.here C.1 rfl (C.cd hd) rfl kt) hr
theorem go_irem (C : Cx p s m meth c Z a0 own bytes maxL ret nm) (X : St Z p l e R s m args below meth c n0 T h k n) {x y : Int32} (pc' : Nat) (hp : pc + 1 = pc') (hd : decode bytes pc = .ok (.irem, 1)) (hy : y ≠ 0) (hr : Go p e below Q (T.setTop (mkF m pc' Ls (.int (x % y) :: st)))) : Go p e below Q (T.setTop (mkF m pc Ls (.int y :: .int x :: st))) := by
  subst hp
  obtain ⟨locs, Y, -, -, -⟩ := X
  exact Go.back (fun t kt => iremM Y C.1 rfl (C.cd hd) rfl hy kt) hr
theorem go_lrem (C : Cx p s m meth c Z a0 own bytes maxL ret nm) (X : St Z p l e R s m args below meth c n0 T h k n) {x y : Int64} (pc' : Nat) (hp : pc + 1 = pc') (hd : decode bytes pc = .ok (.lrem, 1)) (hy : y ≠ 0) (hr : Go p e below Q (T.setTop (mkF m pc' Ls (.long (x % y) :: st)))) : Go p e below Q (T.setTop (mkF m pc Ls (.long y :: .long x :: st))) := by
  subst hp
  obtain ⟨locs, Y, -, -, -⟩ := X
  exact Go.back (fun t kt => by rw [← lrem_mod] at kt; exact Jvm.Free.XS.lrem Y.here C.1 rfl (C.cd hd) rfl hy kt) hr
theorem go_i2l (C : Cx p s m meth c Z a0 own bytes maxL ret nm) (X : St Z p l e R s m args below meth c n0 T h k n) {x : Int32} (pc' : Nat) (hp : pc + 1 = pc') (hd : decode bytes pc = .ok (.i2l, 1)) (hr : Go p e below Q (T.setTop (mkF m pc' Ls (.long (x.toInt64) :: st)))) : Go p e below Q (T.setTop (mkF m pc Ls (.int x :: st))) := by
  subst hp
  obtain ⟨locs, Y, -, -, -⟩ := X
  exact Go.back (fun t kt => Jvm.Free.XS.i2l Y.here C.1 rfl (C.cd hd) rfl kt) hr
theorem go_l2i (C : Cx p s m meth c Z a0 own bytes maxL ret nm) (X : St Z p l e R s m args below meth c n0 T h k n) {x : Int64} (pc' : Nat) (hp : pc + 1 = pc') (hd : decode bytes pc = .ok (.l2i, 1)) (hr : Go p e below Q (T.setTop (mkF m pc' Ls (.int (x.toInt32) :: st)))) : Go p e below Q (T.setTop (mkF m pc Ls (.long x :: st))) := by
  subst hp
  obtain ⟨locs, Y, -, -, -⟩ := X
  exact Go.back (fun t kt => Jvm.Free.XS.l2i Y.here C.1 rfl (C.cd hd) rfl kt) hr
theorem go_i2b (C : Cx p s m meth c Z a0 own bytes maxL ret nm) (X : St Z p l e R s m args below meth c n0 T h k n) {x : Int32} (pc' : Nat) (hp : pc + 1 = pc') (hd : decode bytes pc = .ok (.i2b, 1)) (hr : Go p e below Q (T.setTop (mkF m pc' Ls (.int (x.toInt8.toInt32) :: st)))) : Go p e below Q (T.setTop (mkF m pc Ls (.int x :: st))) := by
  subst hp
  obtain ⟨locs, Y, -, -, -⟩ := X
  exact Go.back (fun t kt => Jvm.Free.XS.i2b Y.here C.1 rfl (C.cd hd) rfl kt) hr
theorem go_i2s (C : Cx p s m meth c Z a0 own bytes maxL ret nm) (X : St Z p l e R s m args below meth c n0 T h k n) {x : Int32} (pc' : Nat) (hp : pc + 1 = pc') (hd : decode bytes pc = .ok (.i2s, 1)) (hr : Go p e below Q (T.setTop (mkF m pc' Ls (.int (x.toInt16.toInt32) :: st)))) : Go p e below Q (T.setTop (mkF m pc Ls (.int x :: st))) := by
  subst hp
  obtain ⟨locs, Y, -, -, -⟩ := X
  exact Go.back (fun t kt => Jvm.Free.XS.i2s Y.here C.1 rfl (C.cd hd) rfl kt) hr
theorem go_i2c (C : Cx p s m meth c Z a0 own bytes maxL ret nm) (X : St Z p l e R s m args below meth c n0 T h k n) {x : Int32} (pc' : Nat) (hp : pc + 1 = pc') (hd : decode bytes pc = .ok (.i2c, 1)) (hr : Go p e below Q (T.setTop (mkF m pc' Ls (.int (x.toUInt32.toUInt16.toUInt32.toInt32) :: st)))) : Go p e below Q (T.setTop (mkF m pc Ls (.int x :: st))) := by
  subst hp
  obtain ⟨locs, Y, -, -, -⟩ := X
  exact Go.back (fun t kt => Jvm.Free.XS.i2c Y.here C.1 rfl (C.cd hd) rfl kt) hr
theorem go_ishl (C : Cx p s m meth c Z a0 own bytes maxL ret nm) (X : St Z p l e R s m args below meth c n0 T h k n) {x : Int32} {y : Int32} (pc' : Nat) (hp : pc + 1 = pc') (hd : decode bytes pc = .ok (.ishl, 1)) (hr : Go p e below Q (T.setTop (mkF m pc' Ls (.int (x <<< (y &&& 31)) :: st)))) : Go p e below Q (T.setTop (mkF m pc Ls (.int y :: .int x :: st))) := by
  subst hp
  obtain ⟨locs, Y, -, -, -⟩ := X
  exact Go.back (fun t kt => Jvm.Free.XS.ishl Y.here C.1 rfl (C.cd hd) rfl kt) hr
theorem go_ishr (C : Cx p s m meth c Z a0 own bytes maxL ret nm) (X : St Z p l e R s m args below meth c n0 T h k n) {x : Int32} {y : Int32} (pc' : Nat) (hp : pc + 1 = pc') (hd : decode bytes pc = .ok (.ishr, 1)) (hr : Go p e below Q (T.setTop (mkF m pc' Ls (.int (x >>> (y &&& 31)) :: st)))) : Go p e below Q (T.setTop (mkF m pc Ls (.int y :: .int x :: st))) := by
  subst hp
  obtain ⟨locs, Y, -, -, -⟩ := X
  exact Go.back (fun t kt => Jvm.Free.XS.ishr Y.here C.1 rfl (C.cd hd) rfl kt) hr
theorem go_iushr (C : Cx p s m meth c Z a0 own bytes maxL ret nm) (X : St Z p l e R s m args below meth c n0 T h k n) {x : Int32} {y : Int32} (pc' : Nat) (hp : pc + 1 = pc') (hd : decode bytes pc = .ok (.iushr, 1)) (hr : Go p e below Q (T.setTop (mkF m pc' Ls (.int ((x.toUInt32 >>> (y &&& 31).toUInt32).toInt32) :: st)))) : Go p e below Q (T.setTop (mkF m pc Ls (.int y :: .int x :: st))) := by
  subst hp
  obtain ⟨locs, Y, -, -, -⟩ := X
  exact Go.back (fun t kt => Jvm.Free.XS.iushr Y.here C.1 rfl (C.cd hd) rfl kt) hr
theorem go_lshl (C : Cx p s m meth c Z a0 own bytes maxL ret nm) (X : St Z p l e R s m args below meth c n0 T h k n) {x : Int64} {y : Int32} (pc' : Nat) (hp : pc + 1 = pc') (hd : decode bytes pc = .ok (.lshl, 1)) (hr : Go p e below Q (T.setTop (mkF m pc' Ls (.long (x <<< (y &&& 0x3f).toInt64) :: st)))) : Go p e below Q (T.setTop (mkF m pc Ls (.int y :: .long x :: st))) := by
  subst hp
  obtain ⟨locs, Y, -, -, -⟩ := X
  exact Go.back (fun t kt => Jvm.Free.XS.lshl Y.here C.1 rfl (C.cd hd) rfl kt) hr
theorem go_lshr (C : Cx p s m meth c Z a0 own bytes maxL ret nm) (X : St Z p l e R s m args below meth c n0 T h k n) {x : Int64} {y : Int32} (pc' : Nat) (hp : pc + 1 = pc') (hd : decode bytes pc = .ok (.lshr, 1)) (hr : Go p e below Q (T.setTop (mkF m pc' Ls (.long (x >>> (y &&& 0x3f).toInt64) :: st)))) : Go p e below Q (T.setTop (mkF m pc Ls (.int y :: .long x :: st))) := by
  subst hp
  obtain ⟨locs, Y, -, -, -⟩ := X
  exact Go.back (fun t kt => Jvm.Free.XS.lshr Y.here C.1 rfl (C.cd hd) rfl kt) hr
theorem go_lushr (C : Cx p s m meth c Z a0 own bytes maxL ret nm) (X : St Z p l e R s m args below meth c n0 T h k n) {x : Int64} {y : Int32} (pc' : Nat) (hp : pc + 1 = pc') (hd : decode bytes pc = .ok (.lushr, 1)) (hr : Go p e below Q (T.setTop (mkF m pc' Ls (.long ((x.toUInt64 >>> (y &&& 0x3f).toInt64.toUInt64).toInt64) :: st)))) : Go p e below Q (T.setTop (mkF m pc Ls (.int y :: .long x :: st))) := by
  subst hp
  obtain ⟨locs, Y, -, -, -⟩ := X
  exact Go.back (fun t kt => Jvm.Free.XS.lushr Y.here C.1 rfl (C.cd hd) rfl kt) hr
theorem go_lcmp (C : Cx p s m meth c Z a0 own bytes maxL ret nm) (X : St Z p l e R s m args below meth c n0 T h k n) {x y : Int64} (pc' : Nat) (hp : pc + 1 = pc') (hd : decode bytes pc = .ok (.lcmp, 1)) (hr : Go p e below Q (T.setTop (mkF m pc' Ls (.int (lcmpW x y) :: st)))) : Go p e below Q (T.setTop (mkF m pc Ls (.long y :: .long x :: st))) := by
  subst hp
  obtain ⟨locs, Y, -, -, -⟩ := X
  exact Go.back (fun t kt => Jvm.Free.XS.lcmp Y.here C.1 rfl (C.cd hd) rfl kt) hr
theorem go_iinc (C : Cx p s m meth c Z a0 own bytes maxL ret nm) (X : St Z p l e R s m args below meth c n0 T h k n) {i : Nat} {cst : Int} {x z : Int32} (pc' : Nat) (hp : pc + 3 = pc') (hd : decode bytes pc = .ok (.iinc i cst, 3)) (hl : Ls[i]? = some (.val (.int x))) (hz : Int32.ofInt cst = z) (Ls' : Array Slot) (hl' : storeLocals Ls i (.int (x + z)) = some Ls') (hr : Go p e below Q (T.setTop (mkF m pc' Ls' st))) : Go p e below Q (T.setTop (mkF m pc Ls st)) := by
  subst hp
  obtain ⟨locs, Y, -, -, -⟩ := X
  exact Go.back (fun t kt => by subst hz; exact Jvm.Free.XS.iinc Y.here C.1 rfl (C.cd hd) hl hl' kt) hr
theorem go_dup (C : Cx p s m meth c Z a0 own bytes maxL ret nm) (X : St Z p l e R s m args below meth c n0 T h k n) {v : Value} (pc' : Nat) (hp : pc + 1 = pc') (hd : decode bytes pc = .ok (.dup, 1)) (hc : v.category = 1) (hr : Go p e below Q (T.setTop (mkF m pc' Ls (v :: v :: st)))) : Go p e below Q (T.setTop (mkF m pc Ls (v :: st))) := by
  subst hp
  obtain ⟨locs, Y, -, -, -⟩ := X
  exact Go.back (fun t kt => Jvm.Free.XS.dup Y.here C.1 rfl (C.cd hd) rfl hc kt) hr
theorem go_pop (C : Cx p s m meth c Z a0 own bytes maxL ret nm) (X : St Z p l e R s m args below meth c n0 T h k n) {v : Value} (pc' : Nat) (hp : pc + 1 = pc') (hd : decode bytes pc = .ok (.pop, 1)) (hc : v.category = 1) (hr : Go p e below Q (T.setTop (mkF m pc' Ls st))) : Go p e below Q (T.setTop (mkF m pc Ls (v :: st))) := by
  subst hp
  obtain ⟨locs, Y, -, -, -⟩ := X
  exact Go.back (fun t kt => Jvm.Free.XS.pop Y.here C.1 rfl (C.cd hd) rfl hc kt) hr
theorem go_dupX1 (C : Cx p s m meth c Z a0 own bytes maxL ret nm) (X : St Z p l e R s m args below meth c n0 T h k n) {v w : Value} (pc' : Nat) (hp : pc + 1 = pc') (hd : decode bytes pc = .ok (.dup_x1, 1)) (hc : v.category = 1) (hc2 : w.category = 1) (hr : Go p e below Q (T.setTop (mkF m pc' Ls (v :: w :: v :: st)))) : Go p e below Q (T.setTop (mkF m pc Ls (v :: w :: st))) := by
  subst hp
  obtain ⟨locs, Y, -, -, -⟩ := X
  exact Go.back (fun t kt => Jvm.Free.XS.dupX1 Y.here C.1 rfl (C.cd hd) rfl hc hc2 kt) hr
theorem go_dup2 (C : Cx p s m meth c Z a0 own bytes maxL ret nm) (X : St Z p l e R s m args below meth c n0 T h k n) {v w : Value} (pc' : Nat) (hp : pc + 1 = pc') (hd : decode bytes pc = .ok (.dup2, 1)) (hc : v.category = 1) (hc2 : w.category = 1) (hr : Go p e below Q (T.setTop (mkF m pc' Ls (v :: w :: v :: w :: st)))) : Go p e below Q (T.setTop (mkF m pc Ls (v :: w :: st))) := by
  subst hp
  obtain ⟨locs, Y, -, -, -⟩ := X
  refine Go.back (fun t kt => ?_) hr
  show Steps p.tables e below (T.setTop { method := m, pc := pc, locals := Ls, stack := v :: w :: st, locked := none }) _
  jvm_step Y.here [Y.here.top, C.1, C.cd hd, hc, hc2]
  exact kt
theorem go_goto (C : Cx p s m meth c Z a0 own bytes maxL ret nm) (X : St Z p l e R s m args below meth c n0 T h k n) {o : Int} (hd : decode bytes pc = .ok (.goto o, 3)) (ho : 0 ≤ (pc : Int) + o) (hp : ((pc : Int) + o).toNat = pc') (hr : Go p e below Q (T.setTop (mkF m pc' Ls st))) : Go p e below Q (T.setTop (mkF m pc Ls st)) := by
  obtain ⟨locs, Y, -, -, -⟩ := X
  exact Go.back (fun t kt => Jvm.Free.XS.goto Y.here C.1 rfl (pc0 := pc) rfl (C.cd hd) ho hp kt) hr
theorem go_icmp (C : Cx p s m meth c Z a0 own bytes maxL ret nm) (X : St Z p l e R s m args below meth c n0 T h k n) {cd : ClassFile.Cond} {o : Int} {x y : Int32} (hd : decode bytes pc = .ok (.if_icmp cd o, 3)) (hp : pc + 3 = pc') (ho : 0 ≤ (pc : Int) + o) (hp2 : ((pc : Int) + o).toNat = pc2) (h1 : if_icmp.holds cd x y = true → Go p e below Q (T.setTop (mkF m pc2 Ls st))) (h2 : if_icmp.holds cd x y = false → Go p e below Q (T.setTop (mkF m pc' Ls st))) : Go p e below Q (T.setTop (mkF m pc Ls (.int y :: .int x :: st))) := by
  subst hp
  obtain ⟨locs, Y, -, -, -⟩ := X
  cases hc : if_icmp.holds cd x y with
  | true => exact Go.back (fun t kt => Jvm.Free.XS.icmpYes Y.here C.1 rfl (pc0 := pc) rfl (C.cd hd) rfl hc ho hp2 kt) (h1 hc)
  | false => exact Go.back (fun t kt => Jvm.Free.XS.icmpNo Y.here C.1 rfl (C.cd hd) rfl hc kt) (h2 hc)
theorem go_if (C : Cx p s m meth c Z a0 own bytes maxL ret nm) (X : St Z p l e R s m args below meth c n0 T h k n) {cd : ClassFile.Cond} {o : Int} {x : Int32} (hd : decode bytes pc = .ok (.ifCond cd o, 3)) (hp : pc + 3 = pc') (ho : 0 ≤ (pc : Int) + o) (hp2 : ((pc : Int) + o).toNat = pc2) (h1 : if_icmp.holds cd x 0 = true → Go p e below Q (T.setTop (mkF m pc2 Ls st))) (h2 : if_icmp.holds cd x 0 = false → Go p e below Q (T.setTop (mkF m pc' Ls st))) : Go p e below Q (T.setTop (mkF m pc Ls (.int x :: st))) := by
  subst hp
  obtain ⟨locs, Y, -, -, -⟩ := X
  cases hc : if_icmp.holds cd x 0 with
  | true => exact Go.back (fun t kt => Jvm.Free.XS.ifYes Y.here C.1 rfl (pc0 := pc) rfl (C.cd hd) rfl ((if0 _ _).trans hc) ho hp2 kt) (h1 hc)
  | false => exact Go.back (fun t kt => Jvm.Free.XS.ifNo Y.here C.1 rfl (C.cd hd) rfl ((if0 _ _).trans hc) kt) (h2 hc)
theorem i32lt {x y : Int32} : x < y ↔ x.toInt < y.toInt := Int32.lt_iff_toInt_lt
theorem ic_lt {x y : Int32} : (if_icmp.holds .lt x y = true ↔ x.toInt < y.toInt) ∧ (if_icmp.holds .lt x y = false ↔ y.toInt ≤ x.toInt) := by
  by_cases q : x < y
  · have := i32lt.mp q; simp [(tlt q).1]; omega
  · have := mt i32lt.mpr q; simp [(flt q).1]; omega
theorem ic_ge {x y : Int32} : (if_icmp.holds .ge x y = true ↔ y.toInt ≤ x.toInt) ∧ (if_icmp.holds .ge x y = false ↔ x.toInt < y.toInt) := by
  by_cases q : x < y
  · have := i32lt.mp q; simp [(tlt q).2.1]; omega
  · have := mt i32lt.mpr q; simp [(flt q).2.1]; omega
theorem ic_gt {x y : Int32} : (if_icmp.holds .gt x y = true ↔ y.toInt < x.toInt) ∧ (if_icmp.holds .gt x y = false ↔ x.toInt ≤ y.toInt) := by
  by_cases q : y < x
  · have := i32lt.mp q; simp [(tlt q).2.2.1]; omega
  · have := mt i32lt.mpr q; simp [(flt q).2.2.1]; omega
theorem ic_le {x y : Int32} : (if_icmp.holds .le x y = true ↔ x.toInt ≤ y.toInt) ∧ (if_icmp.holds .le x y = false ↔ y.toInt < x.toInt) := by
  by_cases q : y < x
  · have := i32lt.mp q; simp [(tlt q).2.2.2]; omega
  · have := mt i32lt.mpr q; simp [(flt q).2.2.2]; omega
theorem ic_eq {x y : Int32} : (if_icmp.holds .eq x y = true ↔ x = y) ∧ (if_icmp.holds .eq x y = false ↔ ¬ x = y) := by
  by_cases q : x = y
  · subst q; exact ⟨⟨fun _ => rfl, fun _ => (teq rfl).1⟩, ⟨fun h => (by rw [(teq rfl).1] at h; cases h), fun h => absurd rfl h⟩⟩
  · exact ⟨⟨fun h => (by rw [(feq q).1] at h; cases h), fun h => absurd h q⟩, ⟨fun _ => q, fun _ => (feq q).1⟩⟩
theorem ic_ne {x y : Int32} : (if_icmp.holds .ne x y = true ↔ ¬ x = y) ∧ (if_icmp.holds .ne x y = false ↔ x = y) := by
  by_cases q : x = y
  · subst q; exact ⟨⟨fun h => (by rw [(teq rfl).2] at h; cases h), fun h => absurd rfl h⟩, ⟨fun _ => rfl, fun _ => (teq rfl).2⟩⟩
  · exact ⟨⟨fun _ => q, fun _ => (feq q).2⟩, ⟨fun h => (by rw [(feq q).2] at h; cases h), fun h => absurd h q⟩⟩
theorem lc_i (x y : Int64) : ((lcmpW x y).toInt < 0 ↔ x.toInt < y.toInt) ∧ (0 < (lcmpW x y).toInt ↔ y.toInt < x.toInt) ∧ (lcmpW x y = 0 ↔ x = y) := by
  obtain ⟨a, b, c⟩ := c_lcmp x y
  refine ⟨?_, ?_, lw_eq x y⟩ <;> rcases Int.lt_trichotomy x.toInt y.toInt with q | q | q <;> (first | have := a q | have := b q | have := c q) <;> omega
theorem go_icmp_lt (C : Cx p s m meth c Z a0 own bytes maxL ret nm) (X : St Z p l e R s m args below meth c n0 T h k n) {o : Int} {x y : Int32} (hd : decode bytes pc = .ok (.if_icmp .lt o, 3)) (hp : pc + 3 = pc') (ho : 0 ≤ (pc : Int) + o) (hp2 : ((pc : Int) + o).toNat = pc2) (h1 : x.toInt < y.toInt → Go p e below Q (T.setTop (mkF m pc2 Ls st))) (h2 : y.toInt ≤ x.toInt → Go p e below Q (T.setTop (mkF m pc' Ls st))) : Go p e below Q (T.setTop (mkF m pc Ls (.int y :: .int x :: st))) := go_icmp C X hd hp ho hp2 (fun q => h1 (ic_lt.1.mp q)) (fun q => h2 (ic_lt.2.mp q))
theorem go_if_lt (C : Cx p s m meth c Z a0 own bytes maxL ret nm) (X : St Z p l e R s m args below meth c n0 T h k n) {o : Int} {x : Int32} (hd : decode bytes pc = .ok (.ifCond .lt o, 3)) (hp : pc + 3 = pc') (ho : 0 ≤ (pc : Int) + o) (hp2 : ((pc : Int) + o).toNat = pc2) (h1 : x.toInt < 0 → Go p e below Q (T.setTop (mkF m pc2 Ls st))) (h2 : 0 ≤ x.toInt → Go p e below Q (T.setTop (mkF m pc' Ls st))) : Go p e below Q (T.setTop (mkF m pc Ls (.int x :: st))) := go_if C X hd hp ho hp2 (fun q => h1 (ic_lt.1.mp q)) (fun q => h2 (ic_lt.2.mp q))
theorem go_lif_lt (C : Cx p s m meth c Z a0 own bytes maxL ret nm) (X : St Z p l e R s m args below meth c n0 T h k n) {o : Int} {x y : Int64} {pc1 : Nat} (hp1 : pc + 1 = pc1) (hd1 : decode bytes pc = .ok (.lcmp, 1)) (hd : decode bytes pc1 = .ok (.ifCond .lt o, 3)) (hp : pc1 + 3 = pc') (ho : 0 ≤ (pc1 : Int) + o) (hp2 : ((pc1 : Int) + o).toNat = pc2) (h1 : x.toInt < y.toInt → Go p e below Q (T.setTop (mkF m pc2 Ls st))) (h2 : y.toInt ≤ x.toInt → Go p e below Q (T.setTop (mkF m pc' Ls st))) : Go p e below Q (T.setTop (mkF m pc Ls (.long y :: .long x :: st))) := go_lcmp C X _ hp1 hd1 (go_if_lt C X hd hp ho hp2 (fun q => h1 ((lc_i x y).1.mp q)) (fun q => h2 (by have := mt (lc_i x y).1.mpr (by omega); omega)))
theorem go_icmp_ge (C : Cx p s m meth c Z a0 own bytes maxL ret nm) (X : St Z p l e R s m args below meth c n0 T h k n) {o : Int} {x y : Int32} (hd : decode bytes pc = .ok (.if_icmp .ge o, 3)) (hp : pc + 3 = pc') (ho : 0 ≤ (pc : Int) + o) (hp2 : ((pc : Int) + o).toNat = pc2) (h1 : y.toInt ≤ x.toInt → Go p e below Q (T.setTop (mkF m pc2 Ls st))) (h2 : x.toInt < y.toInt → Go p e below Q (T.setTop (mkF m pc' Ls st))) : Go p e below Q (T.setTop (mkF m pc Ls (.int y :: .int x :: st))) := go_icmp C X hd hp ho hp2 (fun q => h1 (ic_ge.1.mp q)) (fun q => h2 (ic_ge.2.mp q))
theorem go_if_ge (C : Cx p s m meth c Z a0 own bytes maxL ret nm) (X : St Z p l e R s m args below meth c n0 T h k n) {o : Int} {x : Int32} (hd : decode bytes pc = .ok (.ifCond .ge o, 3)) (hp : pc + 3 = pc') (ho : 0 ≤ (pc : Int) + o) (hp2 : ((pc : Int) + o).toNat = pc2) (h1 : 0 ≤ x.toInt → Go p e below Q (T.setTop (mkF m pc2 Ls st))) (h2 : x.toInt < 0 → Go p e below Q (T.setTop (mkF m pc' Ls st))) : Go p e below Q (T.setTop (mkF m pc Ls (.int x :: st))) := go_if C X hd hp ho hp2 (fun q => h1 (ic_ge.1.mp q)) (fun q => h2 (ic_ge.2.mp q))
theorem go_lif_ge (C : Cx p s m meth c Z a0 own bytes maxL ret nm) (X : St Z p l e R s m args below meth c n0 T h k n) {o : Int} {x y : Int64} {pc1 : Nat} (hp1 : pc + 1 = pc1) (hd1 : decode bytes pc = .ok (.lcmp, 1)) (hd : decode bytes pc1 = .ok (.ifCond .ge o, 3)) (hp : pc1 + 3 = pc') (ho : 0 ≤ (pc1 : Int) + o) (hp2 : ((pc1 : Int) + o).toNat = pc2) (h1 : y.toInt ≤ x.toInt → Go p e below Q (T.setTop (mkF m pc2 Ls st))) (h2 : x.toInt < y.toInt → Go p e below Q (T.setTop (mkF m pc' Ls st))) : Go p e below Q (T.setTop (mkF m pc Ls (.long y :: .long x :: st))) := go_lcmp C X _ hp1 hd1 (go_if_ge C X hd hp ho hp2 (fun q => h1 (by have := mt (lc_i x y).1.mpr (by omega); omega)) (fun q => h2 ((lc_i x y).1.mp q)))
theorem go_icmp_gt (C : Cx p s m meth c Z a0 own bytes maxL ret nm) (X : St Z p l e R s m args below meth c n0 T h k n) {o : Int} {x y : Int32} (hd : decode bytes pc = .ok (.if_icmp .gt o, 3)) (hp : pc + 3 = pc') (ho : 0 ≤ (pc : Int) + o) (hp2 : ((pc : Int) + o).toNat = pc2) (h1 : y.toInt < x.toInt → Go p e below Q (T.setTop (mkF m pc2 Ls st))) (h2 : x.toInt ≤ y.toInt → Go p e below Q (T.setTop (mkF m pc' Ls st))) : Go p e below Q (T.setTop (mkF m pc Ls (.int y :: .int x :: st))) := go_icmp C X hd hp ho hp2 (fun q => h1 (ic_gt.1.mp q)) (fun q => h2 (ic_gt.2.mp q))
theorem go_if_gt (C : Cx p s m meth c Z a0 own bytes maxL ret nm) (X : St Z p l e R s m args below meth c n0 T h k n) {o : Int} {x : Int32} (hd : decode bytes pc = .ok (.ifCond .gt o, 3)) (hp : pc + 3 = pc') (ho : 0 ≤ (pc : Int) + o) (hp2 : ((pc : Int) + o).toNat = pc2) (h1 : 0 < x.toInt → Go p e below Q (T.setTop (mkF m pc2 Ls st))) (h2 : x.toInt ≤ 0 → Go p e below Q (T.setTop (mkF m pc' Ls st))) : Go p e below Q (T.setTop (mkF m pc Ls (.int x :: st))) := go_if C X hd hp ho hp2 (fun q => h1 (ic_gt.1.mp q)) (fun q => h2 (ic_gt.2.mp q))
theorem go_lif_gt (C : Cx p s m meth c Z a0 own bytes maxL ret nm) (X : St Z p l e R s m args below meth c n0 T h k n) {o : Int} {x y : Int64} {pc1 : Nat} (hp1 : pc + 1 = pc1) (hd1 : decode bytes pc = .ok (.lcmp, 1)) (hd : decode bytes pc1 = .ok (.ifCond .gt o, 3)) (hp : pc1 + 3 = pc') (ho : 0 ≤ (pc1 : Int) + o) (hp2 : ((pc1 : Int) + o).toNat = pc2) (h1 : y.toInt < x.toInt → Go p e below Q (T.setTop (mkF m pc2 Ls st))) (h2 : x.toInt ≤ y.toInt → Go p e below Q (T.setTop (mkF m pc' Ls st))) : Go p e below Q (T.setTop (mkF m pc Ls (.long y :: .long x :: st))) := go_lcmp C X _ hp1 hd1 (go_if_gt C X hd hp ho hp2 (fun q => h1 ((lc_i x y).2.1.mp q)) (fun q => h2 (by have := mt (lc_i x y).2.1.mpr (by omega); omega)))
theorem go_icmp_le (C : Cx p s m meth c Z a0 own bytes maxL ret nm) (X : St Z p l e R s m args below meth c n0 T h k n) {o : Int} {x y : Int32} (hd : decode bytes pc = .ok (.if_icmp .le o, 3)) (hp : pc + 3 = pc') (ho : 0 ≤ (pc : Int) + o) (hp2 : ((pc : Int) + o).toNat = pc2) (h1 : x.toInt ≤ y.toInt → Go p e below Q (T.setTop (mkF m pc2 Ls st))) (h2 : y.toInt < x.toInt → Go p e below Q (T.setTop (mkF m pc' Ls st))) : Go p e below Q (T.setTop (mkF m pc Ls (.int y :: .int x :: st))) := go_icmp C X hd hp ho hp2 (fun q => h1 (ic_le.1.mp q)) (fun q => h2 (ic_le.2.mp q))
theorem go_if_le (C : Cx p s m meth c Z a0 own bytes maxL ret nm) (X : St Z p l e R s m args below meth c n0 T h k n) {o : Int} {x : Int32} (hd : decode bytes pc = .ok (.ifCond .le o, 3)) (hp : pc + 3 = pc') (ho : 0 ≤ (pc : Int) + o) (hp2 : ((pc : Int) + o).toNat = pc2) (h1 : x.toInt ≤ 0 → Go p e below Q (T.setTop (mkF m pc2 Ls st))) (h2 : 0 < x.toInt → Go p e below Q (T.setTop (mkF m pc' Ls st))) : Go p e below Q (T.setTop (mkF m pc Ls (.int x :: st))) := go_if C X hd hp ho hp2 (fun q => h1 (ic_le.1.mp q)) (fun q => h2 (ic_le.2.mp q))
theorem go_lif_le (C : Cx p s m meth c Z a0 own bytes maxL ret nm) (X : St Z p l e R s m args below meth c n0 T h k n) {o : Int} {x y : Int64} {pc1 : Nat} (hp1 : pc + 1 = pc1) (hd1 : decode bytes pc = .ok (.lcmp, 1)) (hd : decode bytes pc1 = .ok (.ifCond .le o, 3)) (hp : pc1 + 3 = pc') (ho : 0 ≤ (pc1 : Int) + o) (hp2 : ((pc1 : Int) + o).toNat = pc2) (h1 : x.toInt ≤ y.toInt → Go p e below Q (T.setTop (mkF m pc2 Ls st))) (h2 : y.toInt < x.toInt → Go p e below Q (T.setTop (mkF m pc' Ls st))) : Go p e below Q (T.setTop (mkF m pc Ls (.long y :: .long x :: st))) := go_lcmp C X _ hp1 hd1 (go_if_le C X hd hp ho hp2 (fun q => h1 (by have := mt (lc_i x y).2.1.mpr (by omega); omega)) (fun q => h2 ((lc_i x y).2.1.mp q)))
theorem go_icmp_eq (C : Cx p s m meth c Z a0 own bytes maxL ret nm) (X : St Z p l e R s m args below meth c n0 T h k n) {o : Int} {x y : Int32} (hd : decode bytes pc = .ok (.if_icmp .eq o, 3)) (hp : pc + 3 = pc') (ho : 0 ≤ (pc : Int) + o) (hp2 : ((pc : Int) + o).toNat = pc2) (h1 : x = y → Go p e below Q (T.setTop (mkF m pc2 Ls st))) (h2 : ¬ x = y → Go p e below Q (T.setTop (mkF m pc' Ls st))) : Go p e below Q (T.setTop (mkF m pc Ls (.int y :: .int x :: st))) := go_icmp C X hd hp ho hp2 (fun q => h1 (ic_eq.1.mp q)) (fun q => h2 (ic_eq.2.mp q))
theorem go_if_eq (C : Cx p s m meth c Z a0 own bytes maxL ret nm) (X : St Z p l e R s m args below meth c n0 T h k n) {o : Int} {x : Int32} (hd : decode bytes pc = .ok (.ifCond .eq o, 3)) (hp : pc + 3 = pc') (ho : 0 ≤ (pc : Int) + o) (hp2 : ((pc : Int) + o).toNat = pc2) (h1 : x = 0 → Go p e below Q (T.setTop (mkF m pc2 Ls st))) (h2 : ¬ x = 0 → Go p e below Q (T.setTop (mkF m pc' Ls st))) : Go p e below Q (T.setTop (mkF m pc Ls (.int x :: st))) := go_if C X hd hp ho hp2 (fun q => h1 (ic_eq.1.mp q)) (fun q => h2 (ic_eq.2.mp q))
theorem go_lif_eq (C : Cx p s m meth c Z a0 own bytes maxL ret nm) (X : St Z p l e R s m args below meth c n0 T h k n) {o : Int} {x y : Int64} {pc1 : Nat} (hp1 : pc + 1 = pc1) (hd1 : decode bytes pc = .ok (.lcmp, 1)) (hd : decode bytes pc1 = .ok (.ifCond .eq o, 3)) (hp : pc1 + 3 = pc') (ho : 0 ≤ (pc1 : Int) + o) (hp2 : ((pc1 : Int) + o).toNat = pc2) (h1 : x = y → Go p e below Q (T.setTop (mkF m pc2 Ls st))) (h2 : ¬ x = y → Go p e below Q (T.setTop (mkF m pc' Ls st))) : Go p e below Q (T.setTop (mkF m pc Ls (.long y :: .long x :: st))) := go_lcmp C X _ hp1 hd1 (go_if_eq C X hd hp ho hp2 (fun q => h1 ((lc_i x y).2.2.mp q)) (fun q => h2 (mt (lc_i x y).2.2.mpr q)))
theorem go_icmp_ne (C : Cx p s m meth c Z a0 own bytes maxL ret nm) (X : St Z p l e R s m args below meth c n0 T h k n) {o : Int} {x y : Int32} (hd : decode bytes pc = .ok (.if_icmp .ne o, 3)) (hp : pc + 3 = pc') (ho : 0 ≤ (pc : Int) + o) (hp2 : ((pc : Int) + o).toNat = pc2) (h1 : ¬ x = y → Go p e below Q (T.setTop (mkF m pc2 Ls st))) (h2 : x = y → Go p e below Q (T.setTop (mkF m pc' Ls st))) : Go p e below Q (T.setTop (mkF m pc Ls (.int y :: .int x :: st))) := go_icmp C X hd hp ho hp2 (fun q => h1 (ic_ne.1.mp q)) (fun q => h2 (ic_ne.2.mp q))
theorem go_if_ne (C : Cx p s m meth c Z a0 own bytes maxL ret nm) (X : St Z p l e R s m args below meth c n0 T h k n) {o : Int} {x : Int32} (hd : decode bytes pc = .ok (.ifCond .ne o, 3)) (hp : pc + 3 = pc') (ho : 0 ≤ (pc : Int) + o) (hp2 : ((pc : Int) + o).toNat = pc2) (h1 : ¬ x = 0 → Go p e below Q (T.setTop (mkF m pc2 Ls st))) (h2 : x = 0 → Go p e below Q (T.setTop (mkF m pc' Ls st))) : Go p e below Q (T.setTop (mkF m pc Ls (.int x :: st))) := go_if C X hd hp ho hp2 (fun q => h1 (ic_ne.1.mp q)) (fun q => h2 (ic_ne.2.mp q))
theorem go_lif_ne (C : Cx p s m meth c Z a0 own bytes maxL ret nm) (X : St Z p l e R s m args below meth c n0 T h k n) {o : Int} {x y : Int64} {pc1 : Nat} (hp1 : pc + 1 = pc1) (hd1 : decode bytes pc = .ok (.lcmp, 1)) (hd : decode bytes pc1 = .ok (.ifCond .ne o, 3)) (hp : pc1 + 3 = pc') (ho : 0 ≤ (pc1 : Int) + o) (hp2 : ((pc1 : Int) + o).toNat = pc2) (h1 : ¬ x = y → Go p e below Q (T.setTop (mkF m pc2 Ls st))) (h2 : x = y → Go p e below Q (T.setTop (mkF m pc' Ls st))) : Go p e below Q (T.setTop (mkF m pc Ls (.long y :: .long x :: st))) := go_lcmp C X _ hp1 hd1 (go_if_ne C X hd hp ho hp2 (fun q => h1 (mt (lc_i x y).2.2.mpr q)) (fun q => h2 ((lc_i x y).2.2.mp q)))
theorem go_dload (C : Cx p s m meth c Z a0 own bytes maxL ret nm) (X : St Z p l e R s m args below meth c n0 T h k n) {i : Nat} {v : UInt64} (pc' : Nat) (hp : pc + 2 = pc') (hd : decode bytes pc = .ok (.dload i, 2)) (hl : Ls[i]? = some (.val (.double v))) (hr : Go p e below Q (T.setTop (mkF m pc' Ls (.double v :: st)))) : Go p e below Q (T.setTop (mkF m pc Ls st)) := by
  subst hp
  obtain ⟨locs, Y, -, -, -⟩ := X
  exact Go.back (fun t kt => Jvm.Free.XS.dload Y.here C.1 rfl (C.cd hd) hl kt) hr
theorem go_dloadN (C : Cx p s m meth c Z a0 own bytes maxL ret nm) (X : St Z p l e R s m args below meth c n0 T h k n) {i : Fin 4} {v : UInt64} (pc' : Nat) (hp : pc + 1 = pc') (hd : decode bytes pc = .ok (.dload_n i, 1)) (hl : Ls[i.val]? = some (.val (.double v))) (hr : Go p e below Q (T.setTop (mkF m pc' Ls (.double v :: st)))) : Go p e below Q (T.setTop (mkF m pc Ls st)) := by
  subst hp
  obtain ⟨locs, Y, -, -, -⟩ := X
  exact Go.back (fun t kt => Jvm.Free.XS.dloadN Y.here C.1 rfl (C.cd hd) hl kt) hr
theorem go_dstore (C : Cx p s m meth c Z a0 own bytes maxL ret nm) (X : St Z p l e R s m args below meth c n0 T h k n) {i : Nat} {v : UInt64} (pc' : Nat) (hp : pc + 2 = pc') (hd : decode bytes pc = .ok (.dstore i, 2)) (Ls' : Array Slot) (hl : storeLocals Ls i (.double v) = some Ls') (hr : Go p e below Q (T.setTop (mkF m pc' Ls' st))) : Go p e below Q (T.setTop (mkF m pc Ls (.double v :: st))) := by
  subst hp
  obtain ⟨locs, Y, -, -, -⟩ := X
  exact Go.back (fun t kt => Jvm.Free.XS.dstore Y.here C.1 rfl (C.cd hd) rfl hl kt) hr
theorem go_dstoreN (C : Cx p s m meth c Z a0 own bytes maxL ret nm) (X : St Z p l e R s m args below meth c n0 T h k n) {i : Fin 4} {v : UInt64} (pc' : Nat) (hp : pc + 1 = pc') (hd : decode bytes pc = .ok (.dstore_n i, 1)) (Ls' : Array Slot) (hl : storeLocals Ls i.val (.double v) = some Ls') (hr : Go p e below Q (T.setTop (mkF m pc' Ls' st))) : Go p e below Q (T.setTop (mkF m pc Ls (.double v :: st))) := by
  subst hp
  obtain ⟨locs, Y, -, -, -⟩ := X
  exact Go.back (fun t kt => Jvm.Free.XS.dstoreN Y.here C.1 rfl (C.cd hd) rfl hl kt) hr
theorem go_dconst0 (C : Cx p s m meth c Z a0 own bytes maxL ret nm) (X : St Z p l e R s m args below meth c n0 T h k n)  (pc' : Nat) (hp : pc + 1 = pc') (hd : decode bytes pc = .ok (.dconst 0, 1)) (hr : Go p e below Q (T.setTop (mkF m pc' Ls (.double (FP.l2d 0) :: st)))) : Go p e below Q (T.setTop (mkF m pc Ls st)) := by
  subst hp
  obtain ⟨locs, Y, -, -, -⟩ := X
  exact Go.back (fun t kt => Jvm.Free.XS.dconst0 Y.here C.1 rfl (C.cd hd) (by decide +kernel) kt) hr
theorem go_i2d (C : Cx p s m meth c Z a0 own bytes maxL ret nm) (X : St Z p l e R s m args below meth c n0 T h k n) {x : Int32} (pc' : Nat) (hp : pc + 1 = pc') (hd : decode bytes pc = .ok (.i2d, 1)) (hr : Go p e below Q (T.setTop (mkF m pc' Ls (.double (FP.l2d x.toInt64) :: st)))) : Go p e below Q (T.setTop (mkF m pc Ls (.int x :: st))) := by
  subst hp
  obtain ⟨locs, Y, -, -, -⟩ := X
  exact Go.back (fun t kt => Jvm.Free.XS.i2dS Y.here C.1 rfl (C.cd hd) rfl (i2d_w x) kt) hr
theorem go_l2d (C : Cx p s m meth c Z a0 own bytes maxL ret nm) (X : St Z p l e R s m args below meth c n0 T h k n) {x : Int64} (pc' : Nat) (hp : pc + 1 = pc') (hd : decode bytes pc = .ok (.l2d, 1)) (hr : Go p e below Q (T.setTop (mkF m pc' Ls (.double (FP.l2d x) :: st)))) : Go p e below Q (T.setTop (mkF m pc Ls (.long x :: st))) := by
  subst hp
  obtain ⟨locs, Y, -, -, -⟩ := X
  exact Go.back (fun t kt => Jvm.Free.XS.l2dS Y.here C.1 rfl (C.cd hd) rfl rfl kt) hr
theorem go_dadd (C : Cx p s m meth c Z a0 own bytes maxL ret nm) (X : St Z p l e R s m args below meth c n0 T h k n) {x y : Int64} (pc' : Nat) (hp : pc + 1 = pc') (hd : decode bytes pc = .ok (.dadd, 1)) (ha : B53 x) (hb : B53 y) (hr : Go p e below Q (T.setTop (mkF m pc' Ls (.double (FP.l2d (x + y)) :: st)))) : Go p e below Q (T.setTop (mkF m pc Ls (.double (FP.l2d y) :: .double (FP.l2d x) :: st))) := by
  subst hp
  obtain ⟨locs, Y, -, -, -⟩ := X
  exact Go.back (fun t kt => Jvm.Free.XS.daddS Y.here C.1 rfl (C.cd hd) rfl (nn_w (dadd_w ha hb)) (dadd_w ha hb) kt) hr
theorem go_dcmp (C : Cx p s m meth c Z a0 own bytes maxL ret nm) (X : St Z p l e R s m args below meth c n0 T h k n) {o : CmpOp} {x y : Int64} (pc' : Nat) (hp : pc + 1 = pc') (hd : decode bytes pc = .ok (.dcmp o, 1)) (ha : B53 x) (hb : B53 y) (hr : Go p e below Q (T.setTop (mkF m pc' Ls (.int (lcmpW x y) :: st)))) : Go p e below Q (T.setTop (mkF m pc Ls (.double (FP.l2d y) :: .double (FP.l2d x) :: st))) := by
  subst hp
  obtain ⟨locs, Y, -, -, -⟩ := X
  exact Go.back (fun t kt => Jvm.Free.XS.dcmpS Y.here C.1 rfl (C.cd hd) rfl (dcmpV_w ha hb o) kt) hr
theorem go_ldcInt (C : Cx p s m meth c Z a0 own bytes maxL ret nm) (X : St Z p l e R s m args below meth c n0 T h k n) {idx : Nat} {v : Int32} (w : (Jvm.Cond.constant own idx v).before a0 Z = true) (hp : pc + 2 = pc') (hd : decode bytes pc = .ok (.ldc idx, 2)) (hr : Go p e below Q (T.setTop (mkF m pc' Ls (.int v :: st)))) : Go p e below Q (T.setTop (mkF m pc Ls st)) := by
  subst hp
  obtain ⟨locs, Y, -, -, -⟩ := X
  exact Go.back (fun t kt => Y.ldcInt C.1 C.ow (mvT C.hZ w) (g := mkF m pc Ls st) rfl (C.cd hd) t kt) hr
theorem go_ldcwInt (C : Cx p s m meth c Z a0 own bytes maxL ret nm) (X : St Z p l e R s m args below meth c n0 T h k n) {idx : Nat} {v : Int32} (w : (Jvm.Cond.constant own idx v).before a0 Z = true) (hp : pc + 3 = pc') (hd : decode bytes pc = .ok (.ldc_w idx, 3)) (hr : Go p e below Q (T.setTop (mkF m pc' Ls (.int v :: st)))) : Go p e below Q (T.setTop (mkF m pc Ls st)) := by
  subst hp
  obtain ⟨locs, Y, -, -, -⟩ := X
  exact Go.back (fun t kt => Y.ldcwInt C.1 C.ow (mvT C.hZ w) (g := mkF m pc Ls st) rfl (C.cd hd) t kt) hr
theorem go_ldc2Long (C : Cx p s m meth c Z a0 own bytes maxL ret nm) (X : St Z p l e R s m args below meth c n0 T h k n) {idx : Nat} {v : Int64} (w : (Jvm.Cond.constantLong own idx v).before a0 Z = true) (hp : pc + 3 = pc') (hd : decode bytes pc = .ok (.ldc2_w idx, 3)) (hr : Go p e below Q (T.setTop (mkF m pc' Ls (.long v :: st)))) : Go p e below Q (T.setTop (mkF m pc Ls st)) := by
  subst hp
  obtain ⟨locs, Y, -, -, -⟩ := X
  exact Go.back (fun t kt => Y.ldc2Long C.1 C.ow (mvT C.hZ w) (g := mkF m pc Ls st) rfl (C.cd hd) t kt) hr
variable {kc kn : Nat} {Qy : Option Value → Heap → Prop}
theorem go_leave (C : Cx p s m meth c Z a0 own bytes maxL ret nm) (X : St Z p l e R s m args below meth c n0 T h k n) {v : Option Value} {f : JFrame} (hv : meth.sig.returnType = none → v = none) (hQ : Qy v h) (hk : k ≤ kc) (hn : n ≤ kn)
    (go : ∀ {locs : List Loc} (Y : Stand p l e R s m args below meth c T locs k n) {fs : List Frame}, (∀ (f : JFrame) (acts : List Action), f.method = m → f.locked = none → f.entered = [] → (doReturn e (T.setTop f) acts v).1 = T.setFrames fs) → Steps p.tables e below (T.setTop f) (T.setFrames fs)) :
    Go p e below (FinQ s kc kn n0 Qy) (T.setTop f) := by
  obtain ⟨locs, Y, N, -, rfl⟩ := X
  obtain ⟨fs, hr, hrun, hended, hW, hsame⟩ := Y.leave hv C.lk
  exact ⟨_, _, go Y hr, hrun, hended, _, _, rfl, ⟨N, hQ⟩, ⟨_, rfl⟩, hW, hsame.mono hk hn⟩
theorem go_ret0 (C : Cx p s m meth c Z a0 own bytes maxL none nm) (X : St Z p l e R s m args below meth c n0 T h k n) (hd : decode bytes pc = .ok (.return_, 1)) (hQ : Qy none h) (hk : k ≤ kc) (hn : n ≤ kn) : Go p e below (FinQ s kc kn n0 Qy) (T.setTop (mkF m pc Ls [])) :=
  go_leave C X (fun _ => rfl) hQ hk hn fun Y _ hr => Y.returnOut C.1 C.rt (C.cd hd) hr
theorem go_retI (C : Cx p s m meth c Z a0 own bytes maxL (some .int) nm) (X : St Z p l e R s m args below meth c n0 T h k n) {z : Int32} (hd : decode bytes pc = .ok (.ireturn, 1)) (hQ : Qy (some (.int z)) h) (hk : k ≤ kc) (hn : n ≤ kn) : Go p e below (FinQ s kc kn n0 Qy) (T.setTop (mkF m pc Ls (.int z :: st))) :=
  go_leave C X (fun q => by rw [C.rt] at q; cases q) hQ hk hn fun Y _ hr => retOut Y C.1 C.rt rfl (Or.inl ⟨rfl, Or.inl rfl, _, rfl⟩) (C.cd hd) hr
theorem go_retJ (C : Cx p s m meth c Z a0 own bytes maxL (some .long) nm) (X : St Z p l e R s m args below meth c n0 T h k n) {z : Int64} (hd : decode bytes pc = .ok (.lreturn, 1)) (hQ : Qy (some (.long z)) h) (hk : k ≤ kc) (hn : n ≤ kn) : Go p e below (FinQ s kc kn n0 Qy) (T.setTop (mkF m pc Ls (.long z :: st))) :=
  go_leave C X (fun q => by rw [C.rt] at q; cases q) hQ hk hn fun Y _ hr => retOut Y C.1 C.rt rfl (Or.inr (Or.inl ⟨rfl, rfl, _, rfl⟩)) (C.cd hd) hr
theorem go_retD (C : Cx p s m meth c Z a0 own bytes maxL (some .double) nm) (X : St Z p l e R s m args below meth c n0 T h k n) {z : UInt64} (hd : decode bytes pc = .ok (.dreturn, 1)) (hQ : Qy (some (.double z)) h) (hk : k ≤ kc) (hn : n ≤ kn) : Go p e below (FinQ s kc kn n0 Qy) (T.setTop (mkF m pc Ls (.double z :: st))) :=
  go_leave C X (fun q => by rw [C.rt] at q; cases q) hQ hk hn fun Y _ hr => retOut Y C.1 C.rt rfl (Or.inr (Or.inr (Or.inl ⟨rfl, rfl, _, rfl⟩))) (C.cd hd) hr
theorem go_retA {ty : FieldType} (C : Cx p s m meth c Z a0 own bytes maxL (some ty) nm) (X : St Z p l e R s m args below meth c n0 T h k n) {v : Value} (hd : decode bytes pc = .ok (.areturn, 1)) (ht : ty.isReference = true) (hv : v.isRef = true) (hQ : Qy (some v) h) (hk : k ≤ kc) (hn : n ≤ kn) : Go p e below (FinQ s kc kn n0 Qy) (T.setTop (mkF m pc Ls (v :: st))) :=
  go_leave C X (fun q => by rw [C.rt] at q; cases q) hQ hk hn fun Y _ hr => retOut Y C.1 C.rt (by cases ty <;> first | (cases ht; done) | rfl) (Or.inr (Or.inr (Or.inr (Or.inr ⟨rfl, ht, hv⟩)))) (C.cd hd) hr
theorem go_retN {ty : FieldType} (C : Cx p s m meth c Z a0 own bytes maxL (some ty) nm) (X : St Z p l e R s m args below meth c n0 T h k n) {z z' : Int32} (ht : ty = .boolean ∨ ty = .byte ∨ ty = .char ∨ ty = .short) (hz : nar ty z = z') (hd : decode bytes pc = .ok (.ireturn, 1)) (hQ : Qy (some (.int z')) h) (hk : k ≤ kc) (hn : n ≤ kn) : Go p e below (FinQ s kc kn n0 Qy) (T.setTop (mkF m pc Ls (.int z :: st))) := by
  subst hz
  exact go_leave C X (fun q => by rw [C.rt] at q; cases q) hQ hk hn fun Y _ hr => retN Y C.1 C.rt ht (C.cd hd) hr
/-! calls by the callee's contract -/
variable {idx : Nat} {y : MethodName} {yb : ByteArray} {yl : Nat} {yr : Option FieldType} {rm : Room} {as' : Array Value} {QY : Option Value → Heap → Prop} {argsL rest : List Value}
theorem con_back (C : Cx p s m meth c Z a0 own bytes maxL ret nm) (hM : Con l Z y yb yl yr rm as' h n0 QY) {W : Nat} (wc : (Jvm.Cond.code y yb yl yr).before a0 Z = true) (wz : (Jvm.Cond.initialized y.cls).before a0 Z = true) (hf : rm.frames + 1 ≤ R.frames) (hl : W + (yl + 11) + rm.locals ≤ R.locals) :
    Back l R p e below s args y 3 W (fun A a => a = as' ∧ A.U.heap = h ∧ A.cells + rm.cells ≤ R.cells ∧ A.slots + rm.slots ≤ R.slots) (fun A _ v B => ∃ L, (Fr n0 L ∧ QY v B.U.heap) ∧ B.locs = A.locs ++ L ∧ B.cells = A.cells + rm.cells ∧ B.slots = A.slots + rm.slots) :=
  backOf (Q := fun v h' L => Fr n0 L ∧ QY v h') (hM []) C.hZ wc wz hf hl
theorem go_callS (C : Cx p s m meth c Z a0 own bytes maxL ret nm) (X : St Z p l e R s m args below meth c n0 T h k n) (wl : (Jvm.Cond.methodLink own idx y).before a0 Z = true) (ws : (Jvm.Cond.static y).before a0 Z = true) (wi : (Jvm.Cond.initialized y.cls).before a0 Z = true) (wc : (Jvm.Cond.code y yb yl yr).before a0 Z = true)
    (hM : Con l Z y yb yl yr rm as' h n0 QY) (hlen : ∀ sig, parseMethodDescriptor y.desc = some sig → argsL.length = sig.parameters.length) (ha : argsL.toArray = as') (hy : y.cls ≠ "java/lang/invoke/MethodHandle" ∧ y.cls ≠ "java/lang/invoke/VarHandle")
    (hf : rm.frames + 1 ≤ R.frames) (hl : (rest.map fun v => v.category).sum + (yl + 11) + rm.locals ≤ R.locals) (hc : k + rm.cells ≤ R.cells) (hn : n + rm.slots ≤ R.slots) (hst : st = argsL.reverse ++ rest) (hsz : Ls.size = maxL) (hp : pc + 3 = pc') (hd : decode bytes pc = .ok (.invokestatic idx, 3))
    (hr : ∀ T' h' v, QY v h' → St Z p l e R s m args below meth c n0 T' h' (k + rm.cells) (n + rm.slots) → Go p e below Q (T'.setTop (mkF m pc' Ls (v.toList ++ rest)))) : Go p e below Q (T.setTop (mkF m pc Ls st)) := by
  subst hp; subst ha; subst hst
  obtain ⟨locs, Y, N, zs, eT⟩ := X
  obtain ⟨v, _, ⟨T', L', k', n'⟩, -, X', ⟨Lc, ⟨N', hQ⟩, l1, y1, z1⟩, stp⟩ := Jvm.LawKit.callS Y C.1 C.ow (mvT C.hZ wl) (mvT C.hZ ws) (mvT C.hZ wi) (mvT C.hZ wc) hy (con_back C hM (W := (rest.map fun v => v.category).sum) wc wi hf hl) (g := mkF m pc Ls (argsL.reverse ++ rest)) rfl (hsz.trans C.ml.symm) (argsL := argsL) (rest := rest) hlen rfl (by show 2 * 0 + _ ≤ _; omega) (C.cd hd) (fun _ _ => ⟨rfl, eT, hc, hn⟩)
  dsimp only [Pt.U, Pt.locs, Pt.cells, Pt.slots] at X' l1 y1 z1 stp hQ
  subst l1 y1 z1
  exact Go.back stp (hr T' T'.heap v hQ ⟨_, X', N.app N', zs, rfl⟩)
theorem go_special (C : Cx p s m meth c Z a0 own bytes maxL ret nm) (X : St Z p l e R s m args below meth c n0 T h k n) {a : Addr} (wl : (Jvm.Cond.methodLink own idx y).before a0 Z = true) (ws : (Jvm.Cond.instanceMethod y).before a0 Z = true) (wi : (Jvm.Cond.initialized y.cls).before a0 Z = true) (wc : (Jvm.Cond.code y yb yl none).before a0 Z = true) (hy1 : y.name = "<init>")
    (hM : Con l Z y yb yl none rm as' h n0 QY) (hlen : ∀ sig, parseMethodDescriptor y.desc = some sig → argsL.length = sig.parameters.length) (ha : (.ref a :: argsL).toArray = as') (hy : y.cls ≠ "java/lang/invoke/MethodHandle" ∧ y.cls ≠ "java/lang/invoke/VarHandle")
    (hf : rm.frames + 1 ≤ R.frames) (hl : (rest.map fun v => v.category).sum + (yl + 11) + rm.locals ≤ R.locals) (hc : k + rm.cells ≤ R.cells) (hn : n + rm.slots ≤ R.slots) (hst : st = argsL.reverse ++ .ref a :: rest) (hsz : Ls.size = maxL) (hp : pc + 3 = pc') (hd : decode bytes pc = .ok (.invokespecial idx, 3))
    (hr : ∀ T' h' v, QY v h' → St Z p l e R s m args below meth c n0 T' h' (k + rm.cells) (n + rm.slots) → Go p e below Q (T'.setTop (mkF m pc' Ls (v.toList ++ rest)))) : Go p e below Q (T.setTop (mkF m pc Ls st)) := by
  subst hp; subst ha; subst hst
  obtain ⟨locs, Y, N, zs, eT⟩ := X
  obtain ⟨v, _, ⟨T', L', k', n'⟩, -, X', ⟨Lc, ⟨N', hQ⟩, l1, y1, z1⟩, stp⟩ := Y.specialBack C.1 hy1 C.ow (mvT C.hZ wl) (mvT C.hZ ws) (mvT C.hZ wc) hy (con_back C hM (W := (rest.map fun v => v.category).sum) wc wi hf hl) (g := mkF m pc Ls (argsL.reverse ++ .ref a :: rest)) rfl (hsz.trans C.ml.symm) (Steps.refl _) (a := a) (argsL := argsL) (rest := rest) hlen rfl (by show 2 * 0 + _ ≤ _; omega) (C.cd hd) (fun _ _ => ⟨rfl, eT, hc, hn⟩)
  dsimp only [Pt.U, Pt.locs, Pt.cells, Pt.slots] at X' l1 y1 z1 stp hQ
  subst l1 y1 z1
  exact Go.back (fun t kt => stp.trans kt) (hr T' T'.heap v hQ ⟨_, X', N.app N', zs, rfl⟩)
theorem go_virtual (C : Cx p s m meth c Z a0 own bytes maxL ret nm) (X : St Z p l e R s m args below meth c n0 T h k n) {a : Addr} {cn : String} {y0 : MethodName} (E : Exa Z h a cn) (wl : (Jvm.Cond.methodLink own idx y0).before a0 Z = true) (wd : (Jvm.Cond.declares y0).before a0 Z = true) (hnf : NotFace s y0) (wsel : (Jvm.Cond.selects cn y0 y).before a0 Z = true) (ws : (Jvm.Cond.instanceMethod y).before a0 Z = true) (wi : (Jvm.Cond.initialized y.cls).before a0 Z = true) (wc : (Jvm.Cond.code y yb yl yr).before a0 Z = true)
    (hM : Con l Z y yb yl yr rm as' h n0 QY) (hlen : ∀ sig, parseMethodDescriptor y0.desc = some sig → argsL.length = sig.parameters.length) (ha : (.ref a :: argsL).toArray = as') (hy : y0.cls ≠ "java/lang/invoke/MethodHandle" ∧ y0.cls ≠ "java/lang/invoke/VarHandle")
    (hf : rm.frames + 1 ≤ R.frames) (hl : (rest.map fun v => v.category).sum + (yl + 11) + rm.locals ≤ R.locals) (hc : k + rm.cells ≤ R.cells) (hn : n + rm.slots ≤ R.slots) (hst : st = argsL.reverse ++ .ref a :: rest) (hsz : Ls.size = maxL) (hp : pc + 3 = pc') (hd : decode bytes pc = .ok (.invokevirtual idx, 3))
    (hr : ∀ T' h' v, QY v h' → St Z p l e R s m args below meth c n0 T' h' (k + rm.cells) (n + rm.slots) → Go p e below Q (T'.setTop (mkF m pc' Ls (v.toList ++ rest)))) : Go p e below Q (T.setTop (mkF m pc Ls st)) := by
  subst hp; subst ha; subst hst
  obtain ⟨locs, Y, N, zs, eT⟩ := X
  obtain ⟨cq, kq, qa, qb, qc⟩ := isOf C.hZ eT E
  obtain ⟨v, _, ⟨T', L', k', n'⟩, -, X', ⟨Lc, ⟨N', hQ⟩, l1, y1, z1⟩, stp⟩ := Y.virtualBack C.1 C.ow (mvT C.hZ wl) (mvT C.hZ wd) hnf (mvT C.hZ wsel) (mvT C.hZ ws) hy (con_back C hM (W := (rest.map fun v => v.category).sum) wc wi hf hl) qa qc (g := mkF m pc Ls (argsL.reverse ++ .ref a :: rest)) rfl (hsz.trans C.ml.symm) (Steps.refl _) (argsL := argsL) (rest := rest) hlen rfl (by show 2 * 0 + _ ≤ _; omega) (C.cd hd) (fun _ _ => ⟨rfl, eT, hc, hn⟩)
  dsimp only [Pt.U, Pt.locs, Pt.cells, Pt.slots] at X' l1 y1 z1 stp hQ
  subst l1 y1 z1
  exact Go.back (fun t kt => stp.trans kt) (hr T' T'.heap v hQ ⟨_, X', N.app N', zs, rfl⟩)
theorem go_private (C : Cx p s m meth c Z a0 own bytes maxL ret nm) (X : St Z p l e R s m args below meth c n0 T h k n) {a : Addr} {cn : String} (E : Exa Z h a cn) (wl : (Jvm.Cond.methodLink own idx y).before a0 Z = true) (ws : (Jvm.Cond.instanceMethod y).before a0 Z = true) (wsel : (Jvm.Cond.selects y.cls y y).before a0 Z = true) (wp : (Jvm.Cond.privateMethod y).before a0 Z = true) (wi : (Jvm.Cond.initialized y.cls).before a0 Z = true) (wc : (Jvm.Cond.code y yb yl yr).before a0 Z = true)
    (hM : Con l Z y yb yl yr rm as' h n0 QY) (hlen : ∀ sig, parseMethodDescriptor y.desc = some sig → argsL.length = sig.parameters.length) (ha : (.ref a :: argsL).toArray = as') (hy : y.cls ≠ "java/lang/invoke/MethodHandle" ∧ y.cls ≠ "java/lang/invoke/VarHandle")
    (hf : rm.frames + 1 ≤ R.frames) (hl : (rest.map fun v => v.category).sum + (yl + 11) + rm.locals ≤ R.locals) (hc : k + rm.cells ≤ R.cells) (hn : n + rm.slots ≤ R.slots) (hst : st = argsL.reverse ++ .ref a :: rest) (hsz : Ls.size = maxL) (hp : pc + 3 = pc') (hd : decode bytes pc = .ok (.invokevirtual idx, 3))
    (hr : ∀ T' h' v, QY v h' → St Z p l e R s m args below meth c n0 T' h' (k + rm.cells) (n + rm.slots) → Go p e below Q (T'.setTop (mkF m pc' Ls (v.toList ++ rest)))) : Go p e below Q (T.setTop (mkF m pc Ls st)) := by
  subst hp; subst ha; subst hst
  obtain ⟨locs, Y, N, zs, eT⟩ := X
  obtain ⟨cq, q1, q2⟩ := E.cell
  obtain ⟨v, _, ⟨T', L', k', n'⟩, -, X', ⟨Lc, ⟨N', hQ⟩, l1, y1, z1⟩, stp⟩ := Y.privateBack C.1 C.ow (mvT C.hZ wl) (mvT C.hZ ws) (mvT C.hZ wsel) (Cond.privateMethod_at (mvP C.hZ wp (args := #[]))) (mvT C.hZ wc) hy (con_back C hM (W := (rest.map fun v => v.category).sum) wc wi hf hl) (g := mkF m pc Ls (argsL.reverse ++ .ref a :: rest)) rfl (hsz.trans C.ml.symm) (Steps.refl _) (a := a) (by rw [eT]; exact q1) q2 (argsL := argsL) (rest := rest) hlen rfl (by show 2 * 0 + _ ≤ _; omega) (C.cd hd) (fun _ _ => ⟨rfl, eT, hc, hn⟩)
  dsimp only [Pt.U, Pt.locs, Pt.cells, Pt.slots] at X' l1 y1 z1 stp hQ
  subst l1 y1 z1
  exact Go.back (fun t kt => stp.trans kt) (hr T' T'.heap v hQ ⟨_, X', N.app N', zs, rfl⟩)
theorem go_initO (C : Cx p s m meth c Z a0 own bytes maxL ret nm) (X : St Z p l e R s m args below meth c n0 T h k n) {a : Addr} (w1 : (Jvm.Cond.methodLink own idx Lib.objectInit).before a0 Z = true) (w2 : (Jvm.Cond.instanceMethod Lib.objectInit).before a0 Z = true) (w3 : (Jvm.Cond.code Lib.objectInit ⟨#[0xb1]⟩ 1 none).before a0 Z = true)
    (hf : 1 ≤ R.frames) (hl : (st.map fun v => v.category).sum + 12 ≤ R.locals) (hsz : Ls.size = maxL) (hp : pc + 3 = pc') (hd : decode bytes pc = .ok (.invokespecial idx, 3))
    (hr : ∀ T', St Z p l e R s m args below meth c n0 T' h k n → Go p e below Q (T'.setTop (mkF m pc' Ls st))) : Go p e below Q (T.setTop (mkF m pc Ls (.ref a :: st))) := by
  subst hp
  obtain ⟨locs, Y, N, zs, eT⟩ := X
  obtain ⟨T', X', e', stp⟩ := initO Y C.1 C.hZ C.ow w1 w2 w3 eT (g := mkF m pc Ls (.ref a :: st)) rfl (hsz.trans C.ml.symm) rfl (C.cd hd) hf (W := (st.map fun v => v.category).sum) (by show 2 * 0 + _ ≤ _; omega) hl
  exact Go.back stp (hr T' ⟨_, X', N, zs, e'⟩)
/-! fields, new objects, arrays -/
theorem go_getF (C : Cx p s m meth c Z a0 own bytes maxL ret nm) (X : St Z p l e R s m args below meth c n0 T h k n) {R0 O fn d : String} {a : Addr} {v : Value} (w : (Jvm.Cond.fieldLink own idx R0 fn d).before a0 Z = true) (via : Via Z R0 O fn d) (F : Fld Z h a O fn d v) (hp : pc + 3 = pc') (hd : decode bytes pc = .ok (.getfield idx, 3))
    (hr : ∀ T', St Z p l e R s m args below meth c n0 T' h k n → Go p e below Q (T'.setTop (mkF m pc' Ls (v :: st)))) : Go p e below Q (T.setTop (mkF m pc Ls (.ref a :: st))) := by
  subst hp
  obtain ⟨locs, Y, N, zs, eT⟩ := X
  obtain ⟨T', X', e', stp⟩ := getF Y C.1 C.hZ C.ow (host := "") (Or.inl w) via eT F (g := mkF m pc Ls (.ref a :: st)) rfl rfl (C.cd hd)
  exact Go.back stp (hr T' ⟨_, X', N, zs, e'⟩)
theorem go_getFN (C : Cx p s m meth c Z a0 own bytes maxL ret nm) (X : St Z p l e R s m args below meth c n0 T h k n) {R0 O fn d host : String} {a : Addr} {v : Value} (w : (Jvm.Cond.fieldLinkNest own idx R0 fn d host).before a0 Z = true) (via : Via Z R0 O fn d) (F : Fld Z h a O fn d v) (hp : pc + 3 = pc') (hd : decode bytes pc = .ok (.getfield idx, 3))
    (hr : ∀ T', St Z p l e R s m args below meth c n0 T' h k n → Go p e below Q (T'.setTop (mkF m pc' Ls (v :: st)))) : Go p e below Q (T.setTop (mkF m pc Ls (.ref a :: st))) := by
  subst hp
  obtain ⟨locs, Y, N, zs, eT⟩ := X
  obtain ⟨T', X', e', stp⟩ := getF Y C.1 C.hZ C.ow (host := host) (Or.inr w) via eT F (g := mkF m pc Ls (.ref a :: st)) rfl rfl (C.cd hd)
  exact Go.back stp (hr T' ⟨_, X', N, zs, e'⟩)
theorem go_getS (C : Cx p s m meth c Z a0 own bytes maxL ret nm) (X : St Z p l e R s m args below meth c n0 T h k n) {O fn d : String} {v : Value} (w : (Jvm.Cond.fieldLink own idx O fn d).before a0 Z = true) (F : Sta Z h O fn d v) (hp : pc + 3 = pc') (hd : decode bytes pc = .ok (.getstatic idx, 3))
    (hr : ∀ T', St Z p l e R s m args below meth c n0 T' h k n → Go p e below Q (T'.setTop (mkF m pc' Ls (v :: st)))) : Go p e below Q (T.setTop (mkF m pc Ls st)) := by
  subst hp
  obtain ⟨locs, Y, N, zs, eT⟩ := X
  obtain ⟨T', X', e', stp⟩ := getS2 Y C.1 C.hZ C.ow (host := "") (Or.inl w) Via.refl eT F (g := mkF m pc Ls st) rfl (C.cd hd)
  exact Go.back stp (hr T' ⟨_, X', N, zs, e'⟩)
theorem go_putF (C : Cx p s m meth c Z a0 own bytes maxL ret nm) (X : St Z p l e R s m args below meth c n0 T h k n) {R0 O fn d cn : String} {kk : Nat} {ty : FieldType} {a : Addr} {v old : Value} (w : (Jvm.Cond.fieldLink own idx R0 fn d).before a0 Z = true) (via : Via Z R0 O fn d) (F : Fld Z h a O fn d old) (E : Exa Z h a cn) (L : (Jvm.Cond.lays cn O fn d).before a0 Z = true ∨ ((Jvm.Cond.laysFinal cn O fn d).before a0 Z = true ∧ own = O ∧ meth.name = "<init>")) (wi : (Jvm.Cond.instantiable cn kk).before a0 Z = true) (ga : n0 ≤ a)
    (hty : parseFieldDescriptor d = some ty) (hn : narrow ty v = v) (hf : fits ty v = true) (hp : pc + 3 = pc') (hd : decode bytes pc = .ok (.putfield idx, 3))
    (hr : ∀ T' h', Wr h h' a (Jvm.RoadKit.slotOf Z O fn d) v → St Z p l e R s m args below meth c n0 T' h' k n → Go p e below Q (T'.setTop (mkF m pc' Ls st))) : Go p e below Q (T.setTop (mkF m pc Ls (v :: .ref a :: st))) := by
  subst hp
  obtain ⟨locs, Y, N, zs, eT⟩ := X
  obtain ⟨T', h', X', e', W, stp⟩ := putF Y C.1 C.hZ C.ow (host := "") (Or.inl w) via eT F E L wi hty hn hf (g := mkF m pc Ls (v :: .ref a :: st)) rfl rfl (C.cd hd)
  exact Go.back stp (hr T' h' W ⟨_, X', Fr.snoc X' N ga, zs, e'⟩)
theorem go_putFN (C : Cx p s m meth c Z a0 own bytes maxL ret nm) (X : St Z p l e R s m args below meth c n0 T h k n) {R0 O fn d cn : String} {kk : Nat} {ty : FieldType} {a : Addr} {v v' old : Value} (w : (Jvm.Cond.fieldLink own idx R0 fn d).before a0 Z = true) (via : Via Z R0 O fn d) (F : Fld Z h a O fn d old) (E : Exa Z h a cn) (L : (Jvm.Cond.lays cn O fn d).before a0 Z = true ∨ ((Jvm.Cond.laysFinal cn O fn d).before a0 Z = true ∧ own = O ∧ meth.name = "<init>")) (wi : (Jvm.Cond.instantiable cn kk).before a0 Z = true) (ga : n0 ≤ a)
    (hty : parseFieldDescriptor d = some ty) (hn : narrow ty v = v') (hf : fits ty v' = true) (hp : pc + 3 = pc') (hd : decode bytes pc = .ok (.putfield idx, 3))
    (hr : ∀ T' h', Wr h h' a (Jvm.RoadKit.slotOf Z O fn d) v' → St Z p l e R s m args below meth c n0 T' h' k n → Go p e below Q (T'.setTop (mkF m pc' Ls st))) : Go p e below Q (T.setTop (mkF m pc Ls (v :: .ref a :: st))) := by
  subst hp
  obtain ⟨locs, Y, N, zs, eT⟩ := X
  obtain ⟨T', h', X', e', W, stp⟩ := putFN Y C.1 C.hZ C.ow w via eT F E L wi hty hn hf (g := mkF m pc Ls (v :: .ref a :: st)) rfl rfl (C.cd hd)
  exact Go.back stp (hr T' h' W ⟨_, X', Fr.snoc X' N ga, zs, e'⟩)
theorem go_new (C : Cx p s m meth c Z a0 own bytes maxL ret nm) (X : St Z p l e R s m args below meth c n0 T h k n) {cn : String} {kk : Nat} (w : (Jvm.Cond.classLink own idx cn).before a0 Z = true) (wi : (Jvm.Cond.instantiable cn kk).before a0 Z = true) (wz : (Jvm.Cond.initialized cn).before a0 Z = true) (hc : k + 1 ≤ R.cells) (hl : n + kk ≤ R.slots) (hp : pc + 3 = pc') (hd : decode bytes pc = .ok (.new idx, 3))
    (hr : ∀ T' h' a, a = h.size → n0 ≤ a → Ext h h' → Exa Z h' a cn → (∀ {O fn d : String} {ty : FieldType}, Laid Z a0 cn O fn d → parseFieldDescriptor d = some ty → Fld Z h' a O fn d (defaultValue ty)) → St Z p l e R s m args below meth c n0 T' h' (k + 1) (n + kk) → Go p e below Q (T'.setTop (mkF m pc' Ls (.ref a :: st)))) : Go p e below Q (T.setTop (mkF m pc Ls st)) := by
  subst hp
  have hsz := X.sz
  obtain ⟨locs, Y, N, zs, eT⟩ := X
  obtain ⟨T', h', X', e', E, A, D, -, stp⟩ := newO Y C.1 C.hZ C.ow w wi wz eT (g := mkF m pc Ls st) rfl (C.cd hd) hc hl
  exact Go.back stp (hr T' h' _ rfl hsz E A D ⟨_, X', N, zs, e'⟩)
/-- an array whose components are vs -/
def La (Z : State) (h : Heap) (a : Addr) (ty : FieldType) (vs : List Value) : Prop := ∃ c : Cell, Arr Z h a c ty ∧ c.slots = vs.toArray ∧ vs.length < 2 ^ 31 ∧ ∀ v ∈ vs, fits ty v = true
theorem La.lt {a : Addr} {ty : FieldType} {vs : List Value} (F : La Z h a ty vs) : a < h.size := by obtain ⟨c, A, -⟩ := F; exact A.lt
theorem La.len {a : Addr} {ty : FieldType} {vs : List Value} (F : La Z h a ty vs) : vs.length < 2 ^ 31 := by obtain ⟨c, A, -, q, -⟩ := F; exact q
theorem La.ext {h' : Heap} {a : Addr} {ty : FieldType} {vs : List Value} (F : La Z h a ty vs) (E : Ext h h') : La Z h' a ty vs := by obtain ⟨c, A, r⟩ := F; exact ⟨c, A.ext E, r⟩
theorem La.other {h' : Heap} {a b : Addr} {sl : Nat} {v : Value} {ty : FieldType} {vs : List Value} (F : La Z h b ty vs) (W : Wr h h' a sl v) (q : b ≠ a) : La Z h' b ty vs := by obtain ⟨c, A, r⟩ := F; exact ⟨c, A.other W q, r⟩
theorem La.keep {h' : Heap} {a : Addr} {ws : List Addr} {ty : FieldType} {vs : List Value} (F : La Z h a ty vs) (K : Keep h h' ws) (q : a ∉ ws) : La Z h' a ty vs := by obtain ⟨c, A, r⟩ := F; exact ⟨c, ⟨K.2.1 a c A.1 q, A.2⟩, r⟩
theorem La.set {h' : Heap} {a : Addr} {j : Nat} {v : Value} {ty : FieldType} {vs : List Value} (F : La Z h a ty vs) (W : Wr h h' a j v) (hv : fits ty v = true) : La Z h' a ty (vs.set j v) := by
  obtain ⟨c, A, e1, e2, e3⟩ := F
  refine ⟨_, A.same W, ?_, by simpa using e2, fun w hw => ?_⟩
  · simp [Cell.setSlot, e1]
  · rcases List.mem_or_eq_of_mem_set hw with q | q
    · exact e3 w q
    · subst q; exact hv
theorem clamp_eq {j : Int32} (q : 0 ≤ j.toInt) : (j.toNatClampNeg : Int) = j.toInt := by show ((j.toInt.toNat : Nat) : Int) = _; omega
theorem neg_not {j : Int32} (q : 0 ≤ j.toInt) : ¬ j < 0 := by rw [Int32.lt_iff_toInt_lt]; have : (0 : Int32).toInt = 0 := rfl; omega
theorem La.inb {c : Cell} {vs : List Value} {j : Int32} {v : Value} (e : c.slots = vs.toArray) (q : 0 ≤ j.toInt) (hv : vs[j.toNatClampNeg]? = some v) : ¬ (j < 0 ∨ c.slots.size ≤ j.toNatClampNeg) ∧ c.slots[j.toNatClampNeg]? = some v := by
  obtain ⟨hl, -⟩ := List.getElem?_eq_some_iff.mp hv
  refine ⟨fun r => r.elim (neg_not q) fun r => ?_, by rw [e]; simpa using hv⟩
  rw [e] at r; simp at r; omega
theorem go_alen (C : Cx p s m meth c Z a0 own bytes maxL ret nm) (X : St Z p l e R s m args below meth c n0 T h k n) {a : Addr} {ty : FieldType} {vs : List Value} {z : Int32} (A : La Z h a ty vs) (hz : vs.length.toInt32 = z) (hp : pc + 1 = pc') (hd : decode bytes pc = .ok (.arraylength, 1)) (hr : Go p e below Q (T.setTop (mkF m pc' Ls (.int z :: st)))) : Go p e below Q (T.setTop (mkF m pc Ls (.ref a :: st))) := by
  subst hp
  obtain ⟨locs, Y, N, zs, eT⟩ := X
  obtain ⟨cl, B, e1, e2, e3⟩ := A
  have ez : cl.slots.size.toInt32 = z := by rw [e1]; simpa using hz
  subst ez
  exact Go.back (fun t kt => Y.arraylength C.1 (by rw [eT]; exact B.1) (State.isArrayOf_alike C.hZ.alike B.2.1) (g := mkF m pc Ls (.ref a :: st)) rfl rfl (C.cd hd) t kt) hr

theorem go_iaload (C : Cx p s m meth c Z a0 own bytes maxL ret nm) (X : St Z p l e R s m args below meth c n0 T h k n) {a : Addr} {vs : List Value} {j : Int32} {v : Value} (A : La Z h a .int vs) (q : 0 ≤ j.toInt) (hv : vs[j.toNatClampNeg]? = some v) (hp : pc + 1 = pc') (hd : decode bytes pc = .ok (.iaload, 1)) (hr : Go p e below Q (T.setTop (mkF m pc' Ls (v :: st)))) : Go p e below Q (T.setTop (mkF m pc Ls (.int j :: .ref a :: st))) := by
  subst hp
  obtain ⟨locs, Y, N, zs, eT⟩ := X
  obtain ⟨cl, B, e1, e2, e3⟩ := A
  obtain ⟨i1, i2⟩ := La.inb e1 q hv
  exact Go.back (fun t kt => Y.iaload C.1 (by rw [eT]; exact B.1) (State.isArrayOf_alike C.hZ.alike B.2.1) B.2.2 i1 i2 (g := mkF m pc Ls (.int j :: .ref a :: st)) rfl rfl (C.cd hd) t kt) hr
theorem go_laload (C : Cx p s m meth c Z a0 own bytes maxL ret nm) (X : St Z p l e R s m args below meth c n0 T h k n) {a : Addr} {vs : List Value} {j : Int32} {v : Value} (A : La Z h a .long vs) (q : 0 ≤ j.toInt) (hv : vs[j.toNatClampNeg]? = some v) (hp : pc + 1 = pc') (hd : decode bytes pc = .ok (.laload, 1)) (hr : Go p e below Q (T.setTop (mkF m pc' Ls (v :: st)))) : Go p e below Q (T.setTop (mkF m pc Ls (.int j :: .ref a :: st))) := by
  subst hp
  obtain ⟨locs, Y, N, zs, eT⟩ := X
  obtain ⟨cl, B, e1, e2, e3⟩ := A
  obtain ⟨i1, i2⟩ := La.inb e1 q hv
  exact Go.back (fun t kt => Y.laload C.1 (by rw [eT]; exact B.1) (State.isArrayOf_alike C.hZ.alike B.2.1) B.2.2 i1 i2 (g := mkF m pc Ls (.int j :: .ref a :: st)) rfl rfl (C.cd hd) t kt) hr
theorem go_caload (C : Cx p s m meth c Z a0 own bytes maxL ret nm) (X : St Z p l e R s m args below meth c n0 T h k n) {a : Addr} {vs : List Value} {j : Int32} {v : Value} (A : La Z h a .char vs) (q : 0 ≤ j.toInt) (hv : vs[j.toNatClampNeg]? = some v) (hp : pc + 1 = pc') (hd : decode bytes pc = .ok (.caload, 1)) (hr : Go p e below Q (T.setTop (mkF m pc' Ls (v :: st)))) : Go p e below Q (T.setTop (mkF m pc Ls (.int j :: .ref a :: st))) := by
  subst hp
  obtain ⟨locs, Y, N, zs, eT⟩ := X
  obtain ⟨cl, B, e1, e2, e3⟩ := A
  obtain ⟨i1, i2⟩ := La.inb e1 q hv
  exact Go.back (fun t kt => Y.caload C.1 (by rw [eT]; exact B.1) (State.isArrayOf_alike C.hZ.alike B.2.1) B.2.2 i1 i2 (g := mkF m pc Ls (.int j :: .ref a :: st)) rfl rfl (C.cd hd) t kt) hr
theorem go_saload (C : Cx p s m meth c Z a0 own bytes maxL ret nm) (X : St Z p l e R s m args below meth c n0 T h k n) {a : Addr} {vs : List Value} {j : Int32} {v : Value} (A : La Z h a .short vs) (q : 0 ≤ j.toInt) (hv : vs[j.toNatClampNeg]? = some v) (hp : pc + 1 = pc') (hd : decode bytes pc = .ok (.saload, 1)) (hr : Go p e below Q (T.setTop (mkF m pc' Ls (v :: st)))) : Go p e below Q (T.setTop (mkF m pc Ls (.int j :: .ref a :: st))) := by
  subst hp
  obtain ⟨locs, Y, N, zs, eT⟩ := X
  obtain ⟨cl, B, e1, e2, e3⟩ := A
  obtain ⟨i1, i2⟩ := La.inb e1 q hv
  exact Go.back (fun t kt => Y.saload C.1 (by rw [eT]; exact B.1) (State.isArrayOf_alike C.hZ.alike B.2.1) B.2.2 i1 i2 (g := mkF m pc Ls (.int j :: .ref a :: st)) rfl rfl (C.cd hd) t kt) hr
theorem go_daload (C : Cx p s m meth c Z a0 own bytes maxL ret nm) (X : St Z p l e R s m args below meth c n0 T h k n) {a : Addr} {vs : List Value} {j : Int32} {v : Value} (A : La Z h a .double vs) (q : 0 ≤ j.toInt) (hv : vs[j.toNatClampNeg]? = some v) (hp : pc + 1 = pc') (hd : decode bytes pc = .ok (.daload, 1)) (hr : Go p e below Q (T.setTop (mkF m pc' Ls (v :: st)))) : Go p e below Q (T.setTop (mkF m pc Ls (.int j :: .ref a :: st))) := by
  subst hp
  obtain ⟨locs, Y, N, zs, eT⟩ := X
  obtain ⟨cl, B, e1, e2, e3⟩ := A
  obtain ⟨i1, i2⟩ := La.inb e1 q hv
  exact Go.back (fun t kt => Y.daload C.1 (by rw [eT]; exact B.1) (State.isArrayOf_alike C.hZ.alike B.2.1) B.2.2 i1 i2 (g := mkF m pc Ls (.int j :: .ref a :: st)) rfl rfl (C.cd hd) t kt) hr
theorem go_baloadBytes (C : Cx p s m meth c Z a0 own bytes maxL ret nm) (X : St Z p l e R s m args below meth c n0 T h k n) {a : Addr} {vs : List Value} {j : Int32} {v : Value} (A : La Z h a .byte vs) (q : 0 ≤ j.toInt) (hv : vs[j.toNatClampNeg]? = some v) (hp : pc + 1 = pc') (hd : decode bytes pc = .ok (.baload, 1)) (hr : Go p e below Q (T.setTop (mkF m pc' Ls (v :: st)))) : Go p e below Q (T.setTop (mkF m pc Ls (.int j :: .ref a :: st))) := by
  subst hp
  obtain ⟨locs, Y, N, zs, eT⟩ := X
  obtain ⟨cl, B, e1, e2, e3⟩ := A
  obtain ⟨i1, i2⟩ := La.inb e1 q hv
  exact Go.back (fun t kt => Y.baloadBytes C.1 (by rw [eT]; exact B.1) (State.isArrayOf_alike C.hZ.alike B.2.1) B.2.2 i1 i2 (g := mkF m pc Ls (.int j :: .ref a :: st)) rfl rfl (C.cd hd) t kt) hr
theorem go_baloadBooleans (C : Cx p s m meth c Z a0 own bytes maxL ret nm) (X : St Z p l e R s m args below meth c n0 T h k n) {a : Addr} {vs : List Value} {j : Int32} {v : Value} (A : La Z h a .boolean vs) (q : 0 ≤ j.toInt) (hv : vs[j.toNatClampNeg]? = some v) (hp : pc + 1 = pc') (hd : decode bytes pc = .ok (.baload, 1)) (hr : Go p e below Q (T.setTop (mkF m pc' Ls (v :: st)))) : Go p e below Q (T.setTop (mkF m pc Ls (.int j :: .ref a :: st))) := by
  subst hp
  obtain ⟨locs, Y, N, zs, eT⟩ := X
  obtain ⟨cl, B, e1, e2, e3⟩ := A
  obtain ⟨i1, i2⟩ := La.inb e1 q hv
  exact Go.back (fun t kt => Y.baloadBooleans C.1 (by rw [eT]; exact B.1) (State.isArrayOf_alike C.hZ.alike B.2.1) B.2.2 i1 i2 (g := mkF m pc Ls (.int j :: .ref a :: st)) rfl rfl (C.cd hd) t kt) hr
theorem go_aaload (C : Cx p s m meth c Z a0 own bytes maxL ret nm) (X : St Z p l e R s m args below meth c n0 T h k n) {a : Addr} {vs : List Value} {ty : FieldType} {j : Int32} {v : Value} (A : La Z h a ty vs) (ht : ty.isReference = true) (q : 0 ≤ j.toInt) (hv : vs[j.toNatClampNeg]? = some v) (hp : pc + 1 = pc') (hd : decode bytes pc = .ok (.aaload, 1)) (hr : Go p e below Q (T.setTop (mkF m pc' Ls (v :: st)))) : Go p e below Q (T.setTop (mkF m pc Ls (.int j :: .ref a :: st))) := by
  subst hp
  obtain ⟨locs, Y, N, zs, eT⟩ := X
  obtain ⟨cl, B, e1, e2, e3⟩ := A
  obtain ⟨i1, i2⟩ := La.inb e1 q hv
  exact Go.back (fun t kt => Y.aaload C.1 (by rw [eT]; exact B.1) (State.isArrayOf_alike C.hZ.alike B.2.1) ht B.2.2 i1 i2 (g := mkF m pc Ls (.int j :: .ref a :: st)) rfl rfl (C.cd hd) t kt) hr
theorem go_iastore (C : Cx p s m meth c Z a0 own bytes maxL ret nm) (X : St Z p l e R s m args below meth c n0 T h k n) {a : Addr} {vs : List Value} {j : Int32} {x : Int32} (A : La Z h a .int vs) (q : 0 ≤ j.toInt) (hj : j.toInt < vs.length) (ga : n0 ≤ a) (hp : pc + 1 = pc') (hd : decode bytes pc = .ok (.iastore, 1))
    (hr : ∀ T' h', Wr h h' a j.toNatClampNeg (.int x) → La Z h' a .int (vs.set j.toNatClampNeg (.int x)) → St Z p l e R s m args below meth c n0 T' h' k n → Go p e below Q (T'.setTop (mkF m pc' Ls st))) : Go p e below Q (T.setTop (mkF m pc Ls (.int x :: .int j :: .ref a :: st))) := by
  subst hp
  obtain ⟨locs, Y, N, zs, eT⟩ := X
  have A' := A
  obtain ⟨cl, B, e1, e2, e3⟩ := A
  have i1 : ¬ (j < 0 ∨ cl.slots.size ≤ j.toNatClampNeg) := fun r => r.elim (neg_not q) fun r => by
    rw [e1] at r; simp at r; have := clamp_eq q; omega
  obtain ⟨T', h', X', e', W, stp⟩ := stI Y C.1 C.hZ eT B i1 (g := mkF m pc Ls (.int x :: .int j :: .ref a :: st)) rfl rfl (C.cd hd)
  exact Go.back stp (hr T' h' W (A'.set W rfl) ⟨_, X', Fr.snoc X' N ga, zs, e'⟩)
theorem go_lastore (C : Cx p s m meth c Z a0 own bytes maxL ret nm) (X : St Z p l e R s m args below meth c n0 T h k n) {a : Addr} {vs : List Value} {j : Int32} {x : Int64} (A : La Z h a .long vs) (q : 0 ≤ j.toInt) (hj : j.toInt < vs.length) (ga : n0 ≤ a) (hp : pc + 1 = pc') (hd : decode bytes pc = .ok (.lastore, 1))
    (hr : ∀ T' h', Wr h h' a j.toNatClampNeg (.long x) → La Z h' a .long (vs.set j.toNatClampNeg (.long x)) → St Z p l e R s m args below meth c n0 T' h' k n → Go p e below Q (T'.setTop (mkF m pc' Ls st))) : Go p e below Q (T.setTop (mkF m pc Ls (.long x :: .int j :: .ref a :: st))) := by
  subst hp
  obtain ⟨locs, Y, N, zs, eT⟩ := X
  have A' := A
  obtain ⟨cl, B, e1, e2, e3⟩ := A
  have i1 : ¬ (j < 0 ∨ cl.slots.size ≤ j.toNatClampNeg) := fun r => r.elim (neg_not q) fun r => by
    rw [e1] at r; simp at r; have := clamp_eq q; omega
  obtain ⟨T', h', X', e', W, stp⟩ := stJ Y C.1 C.hZ eT B i1 (g := mkF m pc Ls (.long x :: .int j :: .ref a :: st)) rfl rfl (C.cd hd)
  exact Go.back stp (hr T' h' W (A'.set W rfl) ⟨_, X', Fr.snoc X' N ga, zs, e'⟩)
theorem go_dastore (C : Cx p s m meth c Z a0 own bytes maxL ret nm) (X : St Z p l e R s m args below meth c n0 T h k n) {a : Addr} {vs : List Value} {j : Int32} {x : UInt64} (A : La Z h a .double vs) (q : 0 ≤ j.toInt) (hj : j.toInt < vs.length) (ga : n0 ≤ a) (hp : pc + 1 = pc') (hd : decode bytes pc = .ok (.dastore, 1))
    (hr : ∀ T' h', Wr h h' a j.toNatClampNeg (.double x) → La Z h' a .double (vs.set j.toNatClampNeg (.double x)) → St Z p l e R s m args below meth c n0 T' h' k n → Go p e below Q (T'.setTop (mkF m pc' Ls st))) : Go p e below Q (T.setTop (mkF m pc Ls (.double x :: .int j :: .ref a :: st))) := by
  subst hp
  obtain ⟨locs, Y, N, zs, eT⟩ := X
  have A' := A
  obtain ⟨cl, B, e1, e2, e3⟩ := A
  have i1 : ¬ (j < 0 ∨ cl.slots.size ≤ j.toNatClampNeg) := fun r => r.elim (neg_not q) fun r => by
    rw [e1] at r; simp at r; have := clamp_eq q; omega
  obtain ⟨T', h', X', e', W, stp⟩ := stD Y C.1 C.hZ eT B i1 (g := mkF m pc Ls (.double x :: .int j :: .ref a :: st)) rfl rfl (C.cd hd)
  exact Go.back stp (hr T' h' W (A'.set W rfl) ⟨_, X', Fr.snoc X' N ga, zs, e'⟩)
theorem go_newarr (C : Cx p s m meth c Z a0 own bytes maxL ret nm) (X : St Z p l e R s m args below meth c n0 T h k n) {aty : ArrayType} (w : (Jvm.Cond.arrayClass (newarray.typeOf aty)).before a0 Z = true) {z : Int32} {cap : Nat} (hz : 0 ≤ z.toInt) (hcap : z.toInt ≤ cap) (hb8 : cap * 8 ≤ 536870912) (hc : k + 1 ≤ R.cells) (hl : n + cap ≤ R.slots) (hp : pc + 2 = pc') (hd : decode bytes pc = .ok (.newarray aty, 2))
    (hr : ∀ T' h' a, a = h.size → n0 ≤ a → Ext h h' → La Z h' a (newarray.typeOf aty) (List.replicate z.toNatClampNeg (defaultValue (newarray.typeOf aty))) → St Z p l e R s m args below meth c n0 T' h' (k + 1) (n + cap) → Go p e below Q (T'.setTop (mkF m pc' Ls (.ref a :: st)))) : Go p e below Q (T.setTop (mkF m pc Ls (.int z :: st))) := by
  subst hp
  have hsz := X.sz
  obtain ⟨locs, Y, N, zs, eT⟩ := X
  have hzc := clamp_eq hz
  obtain ⟨T', h', cA, X', e', E, A, stp⟩ := newP Y C.1 C.hZ w eT (g := mkF m pc Ls (.int z :: st)) rfl (C.cd hd) rfl (neg_not hz) (cap := cap) (by omega) hb8 hc hl
  refine Go.back stp (hr T' h' _ rfl hsz E ⟨_, A, by simp [newA], ?_, fun v hv => ?_⟩ ⟨_, X', N, zs, e'⟩)
  · have := z.toInt_lt; simp; omega
  · obtain ⟨-, rfl⟩ := List.mem_replicate.mp hv; cases aty <;> rfl
theorem go_newarrE (C : Cx p s m meth c Z a0 own bytes maxL ret nm) (X : St Z p l e R s m args below meth c n0 T h k n) {aty : ArrayType} (w : (Jvm.Cond.arrayClass (newarray.typeOf aty)).before a0 Z = true) {z : Int32} {cap : Nat} {ad : String} (had : "[" ++ (newarray.typeOf aty).toString = ad) (hz : 0 ≤ z.toInt) (hcap : z.toInt ≤ cap) (hb8 : cap * 8 ≤ 536870912) (hc : k + 1 ≤ R.cells) (hl : n + cap ≤ R.slots) (hp : pc + 2 = pc') (hd : decode bytes pc = .ok (.newarray aty, 2))
    (hr : ∀ T' h' a, a = h.size → n0 ≤ a → Ext h h' → La Z h' a (newarray.typeOf aty) (List.replicate z.toNatClampNeg (defaultValue (newarray.typeOf aty))) → Exa Z h' a ad → St Z p l e R s m args below meth c n0 T' h' (k + 1) (n + cap) → Go p e below Q (T'.setTop (mkF m pc' Ls (.ref a :: st)))) : Go p e below Q (T.setTop (mkF m pc Ls (.int z :: st))) := by
  subst hp
  have hsz := X.sz
  obtain ⟨locs, Y, N, zs, eT⟩ := X
  have hzc := clamp_eq hz
  obtain ⟨T', h', cA, X', e', E, A, EX, stp⟩ := newPE Y C.1 C.hZ w eT (g := mkF m pc Ls (.int z :: st)) rfl (C.cd hd) rfl (neg_not hz) (cap := cap) (by omega) hb8 hc hl had
  refine Go.back stp (hr T' h' _ rfl hsz E ⟨_, A, by simp [newA], ?_, fun v hv => ?_⟩ EX ⟨_, X', N, zs, e'⟩)
  · have := z.toInt_lt; simp; omega
  · obtain ⟨-, rfl⟩ := List.mem_replicate.mp hv; cases aty <;> rfl
theorem go_ifnull_n (C : Cx p s m meth c Z a0 own bytes maxL ret nm) (X : St Z p l e R s m args below meth c n0 T h k n) {o : Int} (hd : decode bytes pc = .ok (.ifnull o, 3)) (ho : 0 ≤ (pc : Int) + o) (hp2 : ((pc : Int) + o).toNat = pc2) (hr : Go p e below Q (T.setTop (mkF m pc2 Ls st))) : Go p e below Q (T.setTop (mkF m pc Ls (.null :: st))) := by
  obtain ⟨locs, Y, -, -, -⟩ := X
  exact Go.back (fun t kt => Jvm.Free.XS.ifnullYes Y.here C.1 rfl (pc0 := pc) rfl (C.cd hd) rfl ho hp2 kt) hr
theorem go_ifnull_r (C : Cx p s m meth c Z a0 own bytes maxL ret nm) (X : St Z p l e R s m args below meth c n0 T h k n) {o : Int} {b : Addr} (hp : pc + 3 = pc') (hd : decode bytes pc = .ok (.ifnull o, 3)) (hr : Go p e below Q (T.setTop (mkF m pc' Ls st))) : Go p e below Q (T.setTop (mkF m pc Ls (.ref b :: st))) := by
  subst hp
  obtain ⟨locs, Y, -, -, -⟩ := X
  exact Go.back (fun t kt => Jvm.Free.XS.ifnullNo Y.here C.1 rfl (C.cd hd) rfl kt) hr
theorem go_ifnonnull_r (C : Cx p s m meth c Z a0 own bytes maxL ret nm) (X : St Z p l e R s m args below meth c n0 T h k n) {o : Int} {b : Addr} (hd : decode bytes pc = .ok (.ifnonnull o, 3)) (ho : 0 ≤ (pc : Int) + o) (hp2 : ((pc : Int) + o).toNat = pc2) (hr : Go p e below Q (T.setTop (mkF m pc2 Ls st))) : Go p e below Q (T.setTop (mkF m pc Ls (.ref b :: st))) := by
  obtain ⟨locs, Y, -, -, -⟩ := X
  exact Go.back (fun t kt => Jvm.Free.XS.ifnonnullYes Y.here C.1 rfl (pc0 := pc) rfl (C.cd hd) rfl ho hp2 kt) hr
theorem go_ifnonnull_n (C : Cx p s m meth c Z a0 own bytes maxL ret nm) (X : St Z p l e R s m args below meth c n0 T h k n) {o : Int} (hp : pc + 3 = pc') (hd : decode bytes pc = .ok (.ifnonnull o, 3)) (hr : Go p e below Q (T.setTop (mkF m pc' Ls st))) : Go p e below Q (T.setTop (mkF m pc Ls (.null :: st))) := by
  subst hp
  obtain ⟨locs, Y, -, -, -⟩ := X
  exact Go.back (fun t kt => Jvm.Free.XS.ifnonnullNo Y.here C.1 rfl (C.cd hd) rfl kt) hr
theorem go_acmp_eq (C : Cx p s m meth c Z a0 own bytes maxL ret nm) (X : St Z p l e R s m args below meth c n0 T h k n) {o : Int} {x y : Value} (hx : x.isRef = true) (hy : y.isRef = true) (hd : decode bytes pc = .ok (.if_acmp .eq o, 3)) (hp : pc + 3 = pc') (ho : 0 ≤ (pc : Int) + o) (hp2 : ((pc : Int) + o).toNat = pc2) (h1 : x = y → Go p e below Q (T.setTop (mkF m pc2 Ls st))) (h2 : ¬ x = y → Go p e below Q (T.setTop (mkF m pc' Ls st))) : Go p e below Q (T.setTop (mkF m pc Ls (y :: x :: st))) := by
  obtain ⟨locs, Y, -, -, -⟩ := X
  by_cases q : x = y
  · exact Go.back (fun t kt => acmp (g := mkF m pc Ls (y :: x :: st)) Y C.1 rfl hx hy (pc0 := pc) (pc' := pc2) (same := true) rfl (C.cd hd) rfl (decide_eq_true q) ho (by simp [acV, hp2]) kt) (h1 q)
  · exact Go.back (fun t kt => acmp (g := mkF m pc Ls (y :: x :: st)) Y C.1 rfl hx hy (pc0 := pc) (pc' := pc') (same := false) rfl (C.cd hd) rfl (decide_eq_false q) ho (by simp [acV, hp]) kt) (h2 q)
theorem go_acmp_ne (C : Cx p s m meth c Z a0 own bytes maxL ret nm) (X : St Z p l e R s m args below meth c n0 T h k n) {o : Int} {x y : Value} (hx : x.isRef = true) (hy : y.isRef = true) (hd : decode bytes pc = .ok (.if_acmp .ne o, 3)) (hp : pc + 3 = pc') (ho : 0 ≤ (pc : Int) + o) (hp2 : ((pc : Int) + o).toNat = pc2) (h1 : ¬ x = y → Go p e below Q (T.setTop (mkF m pc2 Ls st))) (h2 : x = y → Go p e below Q (T.setTop (mkF m pc' Ls st))) : Go p e below Q (T.setTop (mkF m pc Ls (y :: x :: st))) := by
  obtain ⟨locs, Y, -, -, -⟩ := X
  by_cases q : x = y
  · exact Go.back (fun t kt => acmp (g := mkF m pc Ls (y :: x :: st)) Y C.1 rfl hx hy (pc0 := pc) (pc' := pc') (same := true) rfl (C.cd hd) rfl (decide_eq_true q) ho (by simp [acV, hp]) kt) (h2 q)
  · exact Go.back (fun t kt => acmp (g := mkF m pc Ls (y :: x :: st)) Y C.1 rfl hx hy (pc0 := pc) (pc' := pc2) (same := false) rfl (C.cd hd) rfl (decide_eq_false q) ho (by simp [acV, hp2]) kt) (h1 q)
theorem go_cast (C : Cx p s m meth c Z a0 own bytes maxL ret nm) (X : St Z p l e R s m args below meth c n0 T h k n) {cn : String} {a : Addr} (w : (Jvm.Cond.classLink own idx cn).before a0 Z = true) (F : Ins Z h a cn true) (hp : pc + 3 = pc') (hd : decode bytes pc = .ok (.checkcast idx, 3)) (hr : ∀ T', St Z p l e R s m args below meth c n0 T' h k n → Go p e below Q (T'.setTop (mkF m pc' Ls (.ref a :: st)))) : Go p e below Q (T.setTop (mkF m pc Ls (.ref a :: st))) := by
  subst hp
  obtain ⟨locs, Y, N, zs, eT⟩ := X
  obtain ⟨T', X', e', stp⟩ := castY Y C.1 C.hZ C.ow w eT F (g := mkF m pc Ls (.ref a :: st)) rfl rfl (C.cd hd)
  exact Go.back stp (hr T' ⟨_, X', N, zs, e'⟩)
theorem go_clone (C : Cx p s m meth c Z a0 own bytes maxL ret nm) (X : St Z p l e R s m args below meth c n0 T h k n) {ad : String} {a : Addr} {ty : FieldType} {vs : List Value} {cap : Nat} (w1 : (Jvm.Cond.methodLink own idx ⟨ad, "clone", "()Ljava/lang/Object;"⟩).before a0 Z = true) (w2 : (Jvm.Cond.sameMethod ad "java/lang/Object" "clone" "()Ljava/lang/Object;").before a0 Z = true) (w3 : (Jvm.Cond.native ⟨"java/lang/Object", "clone", "()Ljava/lang/Object;"⟩).before a0 Z = true)
    (w4 : (Jvm.Cond.instanceMethod ⟨"java/lang/Object", "clone", "()Ljava/lang/Object;"⟩).before a0 Z = true) (w5 : (Jvm.Cond.selects ad ⟨ad, "clone", "()Ljava/lang/Object;"⟩ ⟨"java/lang/Object", "clone", "()Ljava/lang/Object;"⟩).before a0 Z = true) (w6 : (Jvm.Cond.castable ad "java/lang/Cloneable").before a0 Z = true)
    (A : La Z h a ty vs) (E : Exa Z h a ad) (hf : 1 ≤ R.frames) (hl : (st.map fun v => v.category).sum + 14 ≤ R.locals) (hcap : vs.length ≤ cap) (hc : k + 1 ≤ R.cells) (hsl : n + cap ≤ R.slots) (hsz : Ls.size = maxL) (hp : pc + 3 = pc') (hd : decode bytes pc = .ok (.invokevirtual idx, 3))
    (hr : ∀ T' h' b, b = h.size → n0 ≤ b → Ext h h' → La Z h' b ty vs → Exa Z h' b ad → St Z p l e R s m args below meth c n0 T' h' (k + 1) (n + cap) → Go p e below Q (T'.setTop (mkF m pc' Ls (.ref b :: st)))) : Go p e below Q (T.setTop (mkF m pc Ls (.ref a :: st))) := by
  subst hp
  have hs0 := X.sz
  obtain ⟨locs, Y, N, zs, eT⟩ := X
  obtain ⟨cl, B, e1, e2, e3⟩ := A
  have FC : FitC Z cl := fitC_of B fun i hi v hv => e3 v (by rw [e1] at hv; simp at hv; exact List.mem_of_getElem? hv)
  obtain ⟨T', h', X', e', ex, A', E', stp⟩ := cloneA Y C.1 C.hZ C.ow w1 w2 w3 w4 w5 w6 eT B E FC (g := mkF m pc Ls (.ref a :: st)) rfl (hsz.trans C.ml.symm) rfl (C.cd hd) hf (W := (st.map fun v => v.category).sum) (cap := cap) (by show 2 * 0 + _ ≤ _; omega) hl (by rw [e1]; simpa using hcap) hc hsl
  exact Go.back stp (hr T' h' _ rfl hs0 ex ⟨_, A', e1, e2, e3⟩ E' ⟨_, X', N, zs, e'⟩)

theorem Laid.of {cn O fn d : String} (w : (Jvm.Cond.lays cn O fn d).before a0 Z = true) : Laid Z a0 cn O fn d := Or.inl w
theorem Laid.ofF {cn O fn d : String} (w : (Jvm.Cond.laysFinal cn O fn d).before a0 Z = true) : Laid Z a0 cn O fn d := Or.inr w
end Steps1
/-! numbers -/
theorem i_add {a b : Int32} {x y : Int} (ha : a.toInt = x) (hb : b.toInt = y) (h1 : -2147483648 ≤ x + y) (h2 : x + y < 2147483648) : (a + b).toInt = x + y := by have := c_iadd a b; have := rng32 (a + b); omega
theorem i_sub {a b : Int32} {x y : Int} (ha : a.toInt = x) (hb : b.toInt = y) (h1 : -2147483648 ≤ x - y) (h2 : x - y < 2147483648) : (a - b).toInt = x - y := by have := c_isub a b; have := rng32 (a - b); omega
theorem i_mul {a b : Int32} {x y : Int} (ha : a.toInt = x) (hb : b.toInt = y) (h1 : -2147483648 ≤ x * y) (h2 : x * y < 2147483648) : (a * b).toInt = x * y := by have := c_imul a b; have := rng32 (a * b); rw [ha, hb] at *; generalize x * y = z at *; omega
theorem l_add {a b : Int64} {x y : Int} (ha : a.toInt = x) (hb : b.toInt = y) (h1 : -9223372036854775808 ≤ x + y) (h2 : x + y < 9223372036854775808) : (a + b).toInt = x + y := by have := c_ladd a b; have := rng64 (a + b); omega
theorem l_sub {a b : Int64} {x y : Int} (ha : a.toInt = x) (hb : b.toInt = y) (h1 : -9223372036854775808 ≤ x - y) (h2 : x - y < 9223372036854775808) : (a - b).toInt = x - y := by have := c_lsub a b; have := rng64 (a - b); omega
theorem l_mul {a b : Int64} {x y : Int} (ha : a.toInt = x) (hb : b.toInt = y) (h1 : -9223372036854775808 ≤ x * y) (h2 : x * y < 9223372036854775808) : (a * b).toInt = x * y := by have := c_lmul a b; have := rng64 (a * b); rw [ha, hb] at *; generalize x * y = z at *; omega
theorem i_div {a b : Int32} {x y : Int} (ha : a.toInt = x) (hb : b.toInt = y) (h1 : 0 ≤ x) (h2 : 0 < y) : (a / b).toInt = x / y := by
  have := (c_idiv a b y hb (fun q => by subst q; have : (-1 : Int32).toInt = -1 := rfl; omega)).1 (by omega); rw [this, ha]
theorem l_div {a b : Int64} {x y : Int} (ha : a.toInt = x) (hb : b.toInt = y) (h1 : 0 ≤ x) (h2 : 0 < y) : (a / b).toInt = x / y := by
  have := (c_ldiv a b y hb (fun q => by subst q; have : (-1 : Int64).toInt = -1 := rfl; omega)).1 (by omega); rw [this, ha]
theorem i_rem {a b : Int32} {x y : Int} (ha : a.toInt = x) (hb : b.toInt = y) (h1 : 0 ≤ x) : (a % b).toInt = x % y := by
  have := (c_irem a b y hb).1 (by omega); rw [this, ha]
theorem l_rem {a b : Int64} {x y : Int} (ha : a.toInt = x) (hb : b.toInt = y) (h1 : 0 ≤ x) : (a % b).toInt = x % y := by
  rw [← lrem_mod]; have := (c_lrem a b y hb).1 (by omega); rw [this, ha]
/-- arrays of ints and longs as lists -/
def ia (xs : List Int32) : List Value := xs.map Value.int
def ja (xs : List Int64) : List Value := xs.map Value.long
def at32 (xs : List Int32) (i : Int32) : Int32 := xs.getD i.toNatClampNeg 0
def at64 (xs : List Int64) (i : Int32) : Int64 := xs.getD i.toNatClampNeg 0
def put32 (xs : List Int32) (i y : Int32) : List Int32 := xs.set i.toNatClampNeg y
def put64 (xs : List Int64) (i : Int32) (y : Int64) : List Int64 := xs.set i.toNatClampNeg y
theorem clamp_lt {i : Int32} {n : Nat} (h0 : 0 ≤ i.toInt) (h1 : i.toInt < n) : i.toNatClampNeg < n := by
  have := clamp_eq h0
  omega
theorem ia_at {xs : List Int32} {i : Int32} (h0 : 0 ≤ i.toInt) (h1 : i.toInt < xs.length) : (ia xs)[i.toNatClampNeg]? = some (.int (at32 xs i)) := by
  have := clamp_lt h0 h1; simp [ia, at32, this]
theorem ja_at {xs : List Int64} {i : Int32} (h0 : 0 ≤ i.toInt) (h1 : i.toInt < xs.length) : (ja xs)[i.toNatClampNeg]? = some (.long (at64 xs i)) := by
  have := clamp_lt h0 h1; simp [ja, at64, this]
theorem ia_put (xs : List Int32) (i y : Int32) : (ia xs).set i.toNatClampNeg (.int y) = ia (put32 xs i y) := by simp [ia, put32, List.map_set]
theorem ja_put (xs : List Int64) (i : Int32) (y : Int64) : (ja xs).set i.toNatClampNeg (.long y) = ja (put64 xs i y) := by simp [ja, put64, List.map_set]
theorem ia_len (xs : List Int32) : (ia xs).length = xs.length := by simp [ia]
theorem ja_len (xs : List Int64) : (ja xs).length = xs.length := by simp [ja]
theorem put32_len (xs : List Int32) (i y : Int32) : (put32 xs i y).length = xs.length := by simp [put32]
theorem put64_len (xs : List Int64) (i : Int32) (y : Int64) : (put64 xs i y).length = xs.length := by simp [put64]
theorem La.of {Z : State} {h : Heap} {a : Addr} {ty : FieldType} {c : Cell} (A : Arr Z h a c ty) (vs : List Value) (hl : c.slots.size = vs.length) (h31 : vs.length < 2 ^ 31) (H : ∀ i, i < vs.length → c.slots[i]? = vs[i]?) (G : ∀ v ∈ vs, fits ty v = true) : La Z h a ty vs := by
  refine ⟨c, A, Array.ext_getElem? fun i => ?_, h31, G⟩
  by_cases q : i < vs.length
  · rw [H i q]; simp
  · rw [Array.getElem?_eq_none (by omega)]; simp; omega
theorem eqv_r {Z : State} {args : Array Value} {X F : Term} {idx : List Nat} {y : Addr} (hF : F.eval args Z none idx Z = some (.ref y)) (h : (Jvm.Cond.eq X F).value args Z none Z idx = some true) : X.eval args Z none idx Z = some (.ref y) := by
  simp only [Jvm.Cond.value, hF] at h
  cases hx : X.eval args Z none idx Z with
  | none => simp [hx] at h
  | some v => cases v <;> simp [hx] at h ⊢; exact h
theorem i_eq {a b : Int32} (h : a.toInt = b.toInt) : a = b := Int32.toInt_inj.mp h
theorem l_eq {a b : Int64} (h : a.toInt = b.toInt) : a = b := Int64.toInt_inj.mp h
theorem i_ne {a b : Int32} (h : ¬ a = b) : ¬ a.toInt = b.toInt := fun q => h (i_eq q)
theorem l_ne {a b : Int64} (h : ¬ a = b) : ¬ a.toInt = b.toInt := fun q => h (l_eq q)

def own_kind (k1 k2 k3 k4 k5 k6 k7 : Addr) (b : Int32) : Value := if b = 1 then .ref k1 else if b = 2 then .ref k2 else if b = 3 then .ref k3 else if b = 4 then .ref k4 else if b = 5 then .ref k5 else if b = 6 then .ref k6 else if b = 7 then .ref k7 else .null
theorem own_fv {Z : State} {args : Array Value} {t : Term} {idx : List Nat} {a : Addr} {c n d : String} {v : Value} (e : t.eval args Z none idx Z = some (.ref a)) (q : (Term.field t c n d).eval args Z none idx Z = some v) : Z.fieldOf? a c n d = some v := by
  simpa [Term.eval, e] using q
theorem own_lv {Z : State} {args : Array Value} {t : Term} {idx : List Nat} {a : Addr} {cv : Cell} {z : Int32} (e : t.eval args Z none idx Z = some (.ref a)) (hav : Z.arrayAt? a = some cv) (h31 : cv.slots.size < 2 ^ 31) (q : (Term.length t).eval args Z none idx Z = some (.int z)) : Int32.ofNat cv.slots.size = z := by
  simpa [Term.eval, e, hav, h31] using q
theorem own_st5 {v : Value} (hv : v.isRef = true) {a b : Int32} {o : Addr} : storeLocals #[iv a, iv b, rv o, un, un] 3 v = some #[iv a, iv b, rv o, .val v, un] := by
  cases v <;> first | rfl | cases hv
theorem own_kind_ref (k1 k2 k3 k4 k5 k6 k7 : Addr) (b : Int32) : (own_kind k1 k2 k3 k4 k5 k6 k7 b).isRef = true := by
  unfold own_kind
  repeat' split
  all_goals rfl
theorem d2_0 : decode jdk_32_method_1_code 0 = .ok (.getstatic 1, 3) := by decide +kernel
theorem d2_3 : decode jdk_32_method_1_code 3 = .ok (.astore_n 0, 1) := by decide +kernel
theorem d2_4 : decode jdk_32_method_1_code 4 = .ok (.aload_n 0, 1) := by decide +kernel
theorem d2_5 : decode jdk_32_method_1_code 5 = .ok (.areturn, 1) := by decide +kernel
theorem pn_java_util_Optional : plainName "java/util/Optional" = true := by first | (simp [plainName, overriddenIn]; done) | decide +kernel
theorem ef_own_empty (m : MethodId)  : entryFrame m #[] 1 = mkF m 0 #[un] [] := by first | (simp [entryFrame, mkF, argsToLocals, Value.category]; done) | rfl
set_option maxRecDepth 65536 in
set_option maxHeartbeats 40000000 in
theorem own_empty (l : Launch) (Z : State) (a0 : Array Value) (hw : ∀ d ∈ tables_1, d.before a0 Z = true)  (em : Addr) (h : Heap) (n0 : Nat) (hn0 : Old Z n0 h) (SE : Sta Z Z.heap "java/util/Optional" "EMPTY" "Ljava/util/Optional;" (.ref em)) :
    Con l Z (⟨"java/util/Optional", "empty", "()Ljava/util/Optional;"⟩ : MethodName) jdk_32_method_1_code 1 (some (.object "java/util/Optional")) ({ frames := 0, cells := 0, slots := 0, locals := 0 } : Room) #[] h n0 (fun v h' => v = some (.ref em) ∧ h = h') := by
  refine con_of hw (plainFor_of_name pn_java_util_Optional) hn0 ?_
  intro p e s m below meth c T0 C X0
  refine Go.cast (congrArg T0.setTop (ef_own_empty m )) ?_
  refine go_getS C X0 (C.w 8 rfl) (SE.ext X0.old.2) (pc' := 3) rfl d2_0 (fun T1 X2 => ?_)
  refine go_astoreN C X2 4 rfl d2_3 rfl #[rv em] rfl ?_
  refine go_aloadN C X2 5 rfl d2_4 rfl rfl ?_
  exact go_retA C X2 d2_5 rfl rfl ⟨rfl, rfl⟩ (by decide) (by decide)
theorem d3_0 : decode prog_34_method_1_code 0 = .ok (.getstatic 25, 3) := by decide +kernel
theorem d3_3 : decode prog_34_method_1_code 3 = .ok (.invokevirtual 29, 3) := by decide +kernel
theorem d3_6 : decode prog_34_method_1_code 6 = .ok (.checkcast 30, 3) := by decide +kernel
theorem d3_9 : decode prog_34_method_1_code 9 = .ok (.areturn, 1) := by decide +kernel
theorem pn_com_example_rivus_rivus_store_JobKind : plainName "com/example/rivus/rivus/store/JobKind" = true := by first | (simp [plainName, overriddenIn]; done) | decide +kernel
theorem ef_own_values (m : MethodId)  : entryFrame m #[] 0 = mkF m 0 #[] [] := by first | (simp [entryFrame, mkF, argsToLocals, Value.category]; done) | rfl
set_option maxRecDepth 65536 in
set_option maxHeartbeats 40000000 in
theorem own_values (l : Launch) (Z : State) (a0 : Array Value) (hw : ∀ d ∈ tables_1, d.before a0 Z = true)  (va k1 k2 k3 k4 k5 k6 k7 : Addr) (h : Heap) (n0 : Nat) (hn0 : Old Z n0 h) (SV : Sta Z Z.heap "com/example/rivus/rivus/store/JobKind" "$VALUES" "[Lcom/example/rivus/rivus/store/JobKind;" (.ref va)) (AV : La Z Z.heap va (.object "com/example/rivus/rivus/store/JobKind") [.ref k1, .ref k2, .ref k3, .ref k4, .ref k5, .ref k6, .ref k7]) (EV : Exa Z Z.heap va "[Lcom/example/rivus/rivus/store/JobKind;") :
    Con l Z (⟨"com/example/rivus/rivus/store/JobKind", "values", "()[Lcom/example/rivus/rivus/store/JobKind;"⟩ : MethodName) prog_34_method_1_code 0 (some (.array (.object "com/example/rivus/rivus/store/JobKind"))) ({ frames := 1, cells := 1, slots := 7, locals := 14 } : Room) #[] h n0 (fun v h' => ∃ b : Addr, v = some (.ref b) ∧ h.size ≤ b ∧ Ext h h' ∧ La Z h' b (.object "com/example/rivus/rivus/store/JobKind") [.ref k1, .ref k2, .ref k3, .ref k4, .ref k5, .ref k6, .ref k7]) := by
  refine con_of hw (plainFor_of_name pn_com_example_rivus_rivus_store_JobKind) hn0 ?_
  intro p e s m below meth c T0 C X0
  refine Go.cast (congrArg T0.setTop (ef_own_values m )) ?_
  refine go_getS C X0 (C.w 12 rfl) (SV.ext X0.old.2) (pc' := 3) rfl d3_0 (fun T1 X2 => ?_)
  refine go_clone C X2 (cap := 7) (C.w 14 rfl) (C.w 15 rfl) (C.w 19 rfl) (C.w 17 rfl) (C.w 18 rfl) (C.w 20 rfl) (AV.ext X2.old.2) (EV.ext X2.old.2) (by first | decide | exact Nat.le_of_ble_eq_true rfl) (by first | decide | exact Nat.le_of_ble_eq_true rfl) (by first | decide | exact Nat.le_of_ble_eq_true rfl) (by first | decide | exact Nat.le_of_ble_eq_true rfl) (by first | decide | exact Nat.le_of_ble_eq_true rfl) rfl (pc' := 6) rfl d3_3 (fun T3 h5 b ha_b ga_b E6 A7 E8 X4 => ?_)
  refine go_cast C X4 (C.w 29 rfl) (Ins.self E8) (pc' := 9) rfl d3_6 (fun T9 X10 => ?_)
  exact go_retA C X10 d3_9 rfl rfl ⟨b, rfl, Nat.le_of_eq ha_b.symm, E6, A7⟩ (by decide) (by decide)
theorem d7_0 : decode jdk_31_method_10_code 0 = .ok (.aload_n 0, 1) := by decide +kernel
theorem d7_1 : decode jdk_31_method_10_code 1 = .ok (.ifnonnull 11, 3) := by decide +kernel
theorem d7_12 : decode jdk_31_method_10_code 12 = .ok (.aload_n 0, 1) := by decide +kernel
theorem d7_13 : decode jdk_31_method_10_code 13 = .ok (.areturn, 1) := by decide +kernel
theorem pn_java_util_Objects : plainName "java/util/Objects" = true := by first | (simp [plainName, overriddenIn]; done) | decide +kernel
theorem ef_own_req (m : MethodId) (a : Addr) : entryFrame m #[(.ref a)] 1 = mkF m 0 #[rv a] [] := by first | (simp [entryFrame, mkF, argsToLocals, Value.category]; done) | rfl
set_option maxRecDepth 65536 in
set_option maxHeartbeats 40000000 in
theorem own_req (l : Launch) (Z : State) (a0 : Array Value) (hw : ∀ d ∈ tables_1, d.before a0 Z = true) (a : Addr)  (h : Heap) (n0 : Nat) (hn0 : Old Z n0 h)  :
    Con l Z (⟨"java/util/Objects", "requireNonNull", "(Ljava/lang/Object;)Ljava/lang/Object;"⟩ : MethodName) jdk_31_method_10_code 1 (some (.object "java/lang/Object")) ({ frames := 0, cells := 0, slots := 0, locals := 0 } : Room) #[(.ref a)] h n0 (fun v h' => v = some (.ref a) ∧ h = h') := by
  refine con_of hw (plainFor_of_name pn_java_util_Objects) hn0 ?_
  intro p e s m below meth c T0 C X0
  refine Go.cast (congrArg T0.setTop (ef_own_req m a)) ?_
  refine go_aloadN C X0 1 rfl d7_0 rfl rfl ?_
  refine go_ifnonnull_r C X0 d7_1 (pc2 := 12) (by decide) (by decide) ?_
  refine go_aloadN C X0 13 rfl d7_12 rfl rfl ?_
  exact go_retA C X0 d7_13 rfl rfl ⟨rfl, rfl⟩ (by decide) (by decide)
theorem d8_0 : decode jdk_32_method_2_code 0 = .ok (.aload_n 0, 1) := by decide +kernel
theorem d8_1 : decode jdk_32_method_2_code 1 = .ok (.invokespecial 7, 3) := by decide +kernel
theorem d8_4 : decode jdk_32_method_2_code 4 = .ok (.aload_n 0, 1) := by decide +kernel
theorem d8_5 : decode jdk_32_method_2_code 5 = .ok (.aload_n 1, 1) := by decide +kernel
theorem d8_6 : decode jdk_32_method_2_code 6 = .ok (.putfield 13, 3) := by decide +kernel
theorem d8_9 : decode jdk_32_method_2_code 9 = .ok (.return_, 1) := by decide +kernel
theorem ef_own_oinit (m : MethodId) (a : Addr) (x : Addr) : entryFrame m #[(.ref a), (.ref x)] 2 = mkF m 0 #[rv a, rv x] [] := by first | (simp [entryFrame, mkF, argsToLocals, Value.category]; done) | rfl
set_option maxRecDepth 65536 in
set_option maxHeartbeats 40000000 in
theorem own_oinit (l : Launch) (Z : State) (a0 : Array Value) (hw : ∀ d ∈ tables_1, d.before a0 Z = true) (a : Addr) (x : Addr)  (h : Heap) (n0 : Nat) (hn0 : Old Z n0 h) (E0 : Exa Z h a "java/util/Optional") (F1 : Fld Z h a "java/util/Optional" "value" "Ljava/lang/Object;" .null) (ga : n0 ≤ a) :
    Con l Z (⟨"java/util/Optional", "<init>", "(Ljava/lang/Object;)V"⟩ : MethodName) jdk_32_method_2_code 2 none ({ frames := 1, cells := 0, slots := 0, locals := 12 } : Room) #[(.ref a), (.ref x)] h n0 (fun v h' => v = none ∧ Keep h h' [a] ∧ Exa Z h' a "java/util/Optional" ∧ Fld Z h' a "java/util/Optional" "value" "Ljava/lang/Object;" (.ref x)) := by
  refine con_of hw (plainFor_of_name pn_java_util_Optional) hn0 ?_
  intro p e s m below meth c T0 C X0
  refine Go.cast (congrArg T0.setTop (ef_own_oinit m a x)) ?_
  refine go_aloadN C X0 1 rfl d8_0 rfl rfl ?_
  refine go_initO C X0 (C.w 57 rfl) (C.w 58 rfl) (C.w 59 rfl) (by decide) (Nat.le_of_ble_eq_true rfl) rfl (pc' := 4) rfl d8_1 (fun T1 X2 => ?_)
  refine go_aloadN C X2 5 rfl d8_4 rfl rfl ?_
  refine go_aloadN C X2 6 rfl d8_5 rfl rfl ?_
  refine go_putF C X2 (C.w 42 rfl) Via.refl F1 E0 (Or.inr ⟨C.w 43 rfl, rfl, C.nmE⟩) (C.w 48 rfl) ga (ty := (.object "java/lang/Object")) (by decide) rfl rfl (pc' := 9) rfl d8_6 (fun T3 h5 W6 X4 => ?_)
  have F7 := F1.same W6
  have E8 := E0.wr W6
  have K9 := (Keep.refl h [a]).wr W6 (Or.inl (List.mem_of_getElem? (i := 0) rfl))
  exact go_ret0 C X4 d8_9 ⟨rfl, K9, E8, F7⟩ (by decide) (by decide)
theorem d6_0 : decode jdk_32_method_3_code 0 = .ok (.new 2, 3) := by decide +kernel
theorem d6_3 : decode jdk_32_method_3_code 3 = .ok (.dup, 1) := by decide +kernel
theorem d6_4 : decode jdk_32_method_3_code 4 = .ok (.aload_n 0, 1) := by decide +kernel
theorem pd_0 : parseMethodDescriptor "(Ljava/lang/Object;)Ljava/lang/Object;" = some ⟨[(.object "java/lang/Object")], some (.object "java/lang/Object")⟩ := by decide +kernel
theorem d6_5 : decode jdk_32_method_3_code 5 = .ok (.invokestatic 17, 3) := by decide +kernel
theorem pd_1 : parseMethodDescriptor "(Ljava/lang/Object;)V" = some ⟨[(.object "java/lang/Object")], none⟩ := by decide +kernel
theorem d6_8 : decode jdk_32_method_3_code 8 = .ok (.invokespecial 23, 3) := by decide +kernel
theorem d6_11 : decode jdk_32_method_3_code 11 = .ok (.areturn, 1) := by decide +kernel
theorem ef_own_oof (m : MethodId) (x : Addr) : entryFrame m #[(.ref x)] 1 = mkF m 0 #[rv x] [] := by first | (simp [entryFrame, mkF, argsToLocals, Value.category]; done) | rfl
set_option maxRecDepth 65536 in
set_option maxHeartbeats 40000000 in
theorem own_oof (l : Launch) (Z : State) (a0 : Array Value) (hw : ∀ d ∈ tables_1, d.before a0 Z = true) (x : Addr)  (h : Heap) (n0 : Nat) (hn0 : Old Z n0 h)  :
    Con l Z (⟨"java/util/Optional", "of", "(Ljava/lang/Object;)Ljava/util/Optional;"⟩ : MethodName) jdk_32_method_3_code 1 (some (.object "java/util/Optional")) ({ frames := 2, cells := 1, slots := 1, locals := 26 } : Room) #[(.ref x)] h n0 (fun v h' => ∃ b : Addr, v = some (.ref b) ∧ h.size ≤ b ∧ Keep h h' [] ∧ Exa Z h' b "java/util/Optional" ∧ Fld Z h' b "java/util/Optional" "value" "Ljava/lang/Object;" (.ref x)) := by
  refine con_of hw (plainFor_of_name pn_java_util_Optional) hn0 ?_
  intro p e s m below meth c T0 C X0
  refine Go.cast (congrArg T0.setTop (ef_own_oof m x)) ?_
  refine go_new C X0 (C.w 47 rfl) (C.w 48 rfl) (C.w 6 rfl) (by decide) (by decide) (pc' := 3) rfl d6_0 (fun T1 h3 ob ha_ob ga_ob E4 E5 D6 X2 => ?_)
  have sz_ob : h.size ≤ ob := Nat.le_trans (Keep.refl h []).1 (Nat.le_of_eq ha_ob.symm)
  have K7 := (Keep.refl h []).ext E4
  have F8 : Fld Z h3 ob "java/util/Optional" "value" "Ljava/lang/Object;" .null := D6 (Or.inr (C.w 43 rfl)) (ty := (.object "java/lang/Object")) (by decide)
  refine go_dup C X2 4 rfl d6_3 rfl ?_
  refine go_aloadN C X2 5 rfl d6_4 rfl rfl ?_
  refine go_callS C X2 (C.w 49 rfl) (C.w 50 rfl) (C.w 51 rfl) (C.w 52 rfl) (own_req l Z a0 C.ws x h3 n0 X2.old ) (argsL := [(.ref x)]) (rest := [(.ref ob), (.ref ob)]) (lenOf pd_0 rfl) rfl (by decide) (by decide) (Nat.le_of_ble_eq_true rfl) (by decide) (by decide) rfl rfl (pc' := 8) rfl d6_5 ?_
  rintro T9 _ _ ⟨rfl, rfl⟩ X10
  show Go p e below _ (T9.setTop (mkF m 8 #[rv x] [(.ref x), (.ref ob), (.ref ob)]))
  refine go_special C X10 (C.w 53 rfl) (C.w 54 rfl) (C.w 6 rfl) (C.w 56 rfl) rfl (own_oinit l Z a0 C.ws ob x h3 n0 X10.old E5 F8 ga_ob) (argsL := [(.ref x)]) (rest := [(.ref ob)]) (lenOf pd_1 rfl) rfl (by decide) (by decide) (Nat.le_of_ble_eq_true rfl) (by decide) (by decide) rfl rfl (pc' := 11) rfl d6_8 ?_
  rintro T12 h14 _ ⟨rfl, K9, E9, F9⟩ X13
  show Go p e below _ (T12.setTop (mkF m 11 #[rv x] [(.ref ob)]))
  have E15 := E5.keep K9
  have K16 := K7.trans K9 (allS (Or.inr sz_ob) all0)
  exact go_retA C X13 d6_11 rfl rfl ⟨ob, rfl, sz_ob, K16, E9, F9⟩ (by decide) (by decide)
theorem pd_2 : parseMethodDescriptor "()Ljava/util/Optional;" = some ⟨[], some (.object "java/util/Optional")⟩ := by decide +kernel
theorem d1_0 : decode prog_34_method_5_code 0 = .ok (.invokestatic 48, 3) := by decide +kernel
theorem d1_3 : decode prog_34_method_5_code 3 = .ok (.astore_n 1, 1) := by decide +kernel
theorem pd_3 : parseMethodDescriptor "()[Lcom/example/rivus/rivus/store/JobKind;" = some ⟨[], some (.array (.object "com/example/rivus/rivus/store/JobKind"))⟩ := by decide +kernel
theorem d1_4 : decode prog_34_method_5_code 4 = .ok (.invokestatic 54, 3) := by decide +kernel
theorem d1_7 : decode prog_34_method_5_code 7 = .ok (.astore_n 2, 1) := by decide +kernel
theorem d1_8 : decode prog_34_method_5_code 8 = .ok (.aload_n 2, 1) := by decide +kernel
theorem d1_9 : decode prog_34_method_5_code 9 = .ok (.arraylength, 1) := by decide +kernel
theorem d1_10 : decode prog_34_method_5_code 10 = .ok (.istore_n 3, 1) := by decide +kernel
theorem d1_11 : decode prog_34_method_5_code 11 = .ok (.iconst 0, 1) := by decide +kernel
theorem d1_12 : decode prog_34_method_5_code 12 = .ok (.istore 4, 2) := by decide +kernel
theorem d1_14 : decode prog_34_method_5_code 14 = .ok (.iload 4, 2) := by decide +kernel
theorem d1_16 : decode prog_34_method_5_code 16 = .ok (.iload_n 3, 1) := by decide +kernel
theorem d1_17 : decode prog_34_method_5_code 17 = .ok (.if_icmp .ge 30, 3) := by decide +kernel
theorem d1_20 : decode prog_34_method_5_code 20 = .ok (.aload_n 2, 1) := by decide +kernel
theorem d1_21 : decode prog_34_method_5_code 21 = .ok (.iload 4, 2) := by decide +kernel
theorem d1_23 : decode prog_34_method_5_code 23 = .ok (.aaload, 1) := by decide +kernel
theorem d1_24 : decode prog_34_method_5_code 24 = .ok (.astore 5, 2) := by decide +kernel
theorem d1_26 : decode prog_34_method_5_code 26 = .ok (.aload 5, 2) := by decide +kernel
theorem d1_28 : decode prog_34_method_5_code 28 = .ok (.getfield 44, 3) := by decide +kernel
theorem d1_31 : decode prog_34_method_5_code 31 = .ok (.iload_n 0, 1) := by decide +kernel
theorem d1_32 : decode prog_34_method_5_code 32 = .ok (.if_icmp .ne 9, 3) := by decide +kernel
theorem d1_41 : decode prog_34_method_5_code 41 = .ok (.iinc 4 1, 3) := by decide +kernel
theorem d1_44 : decode prog_34_method_5_code 44 = .ok (.goto (-30), 3) := by decide +kernel
theorem d1_47 : decode prog_34_method_5_code 47 = .ok (.aload_n 1, 1) := by decide +kernel
theorem d1_48 : decode prog_34_method_5_code 48 = .ok (.areturn, 1) := by decide +kernel
theorem d1_35 : decode prog_34_method_5_code 35 = .ok (.aload 5, 2) := by decide +kernel
theorem pd_4 : parseMethodDescriptor "(Ljava/lang/Object;)Ljava/util/Optional;" = some ⟨[(.object "java/lang/Object")], some (.object "java/util/Optional")⟩ := by decide +kernel
theorem d1_37 : decode prog_34_method_5_code 37 = .ok (.invokestatic 58, 3) := by decide +kernel
theorem d1_40 : decode prog_34_method_5_code 40 = .ok (.astore_n 1, 1) := by decide +kernel
theorem ef_own_of (m : MethodId) (b : Int32) : entryFrame m #[(.int b)] 6 = mkF m 0 #[iv b, un, un, un, un, un] [] := by first | (simp [entryFrame, mkF, argsToLocals, Value.category]; done) | rfl
set_option maxRecDepth 65536 in
set_option maxHeartbeats 40000000 in
theorem own_of (l : Launch) (Z : State) (a0 : Array Value) (hw : ∀ d ∈ tables_1, d.before a0 Z = true) (b : Int32) (em va k1 k2 k3 k4 k5 k6 k7 : Addr) (h : Heap) (n0 : Nat) (hn0 : Old Z n0 h) (SE : Sta Z Z.heap "java/util/Optional" "EMPTY" "Ljava/util/Optional;" (.ref em)) (EE : Exa Z Z.heap em "java/util/Optional") (FE : Fld Z Z.heap em "java/util/Optional" "value" "Ljava/lang/Object;" .null) (SV : Sta Z Z.heap "com/example/rivus/rivus/store/JobKind" "$VALUES" "[Lcom/example/rivus/rivus/store/JobKind;" (.ref va)) (AV : La Z Z.heap va (.object "com/example/rivus/rivus/store/JobKind") [.ref k1, .ref k2, .ref k3, .ref k4, .ref k5, .ref k6, .ref k7]) (EV : Exa Z Z.heap va "[Lcom/example/rivus/rivus/store/JobKind;") (EK1 : Exa Z Z.heap k1 "com/example/rivus/rivus/store/JobKind") (FK1 : Fld Z Z.heap k1 "com/example/rivus/rivus/store/JobKind" "code" "B" (.int 1)) (EK2 : Exa Z Z.heap k2 "com/example/rivus/rivus/store/JobKind") (FK2 : Fld Z Z.heap k2 "com/example/rivus/rivus/store/JobKind" "code" "B" (.int 2)) (EK3 : Exa Z Z.heap k3 "com/example/rivus/rivus/store/JobKind") (FK3 : Fld Z Z.heap k3 "com/example/rivus/rivus/store/JobKind" "code" "B" (.int 3)) (EK4 : Exa Z Z.heap k4 "com/example/rivus/rivus/store/JobKind") (FK4 : Fld Z Z.heap k4 "com/example/rivus/rivus/store/JobKind" "code" "B" (.int 4)) (EK5 : Exa Z Z.heap k5 "com/example/rivus/rivus/store/JobKind") (FK5 : Fld Z Z.heap k5 "com/example/rivus/rivus/store/JobKind" "code" "B" (.int 5)) (EK6 : Exa Z Z.heap k6 "com/example/rivus/rivus/store/JobKind") (FK6 : Fld Z Z.heap k6 "com/example/rivus/rivus/store/JobKind" "code" "B" (.int 6)) (EK7 : Exa Z Z.heap k7 "com/example/rivus/rivus/store/JobKind") (FK7 : Fld Z Z.heap k7 "com/example/rivus/rivus/store/JobKind" "code" "B" (.int 7)) :
    Con l Z (⟨"com/example/rivus/rivus/store/JobKind", "of", "(B)Ljava/util/Optional;"⟩ : MethodName) prog_34_method_5_code 6 (some (.object "java/util/Optional")) ({ frames := 3, cells := 2, slots := 8, locals := 38 } : Room) #[(.int b)] h n0 (fun v h' => ∃ (o : Addr) (u : Value), v = some (.ref o) ∧ Exa Z h' o "java/util/Optional" ∧ Fld Z h' o "java/util/Optional" "value" "Ljava/lang/Object;" u ∧ u = own_kind k1 k2 k3 k4 k5 k6 k7 b) := by
  refine con_of hw (plainFor_of_name pn_com_example_rivus_rivus_store_JobKind) hn0 ?_
  intro p e s m below meth c T0 C X0
  refine Go.cast (congrArg T0.setTop (ef_own_of m b)) ?_
  refine go_callS C X0 (C.w 4 rfl) (C.w 5 rfl) (C.w 6 rfl) (C.w 7 rfl) (own_empty l Z a0 C.ws em h n0 X0.old SE) (argsL := []) (rest := []) (lenOf pd_2 rfl) rfl (by decide) (by decide) (Nat.le_of_ble_eq_true rfl) (by decide) (by decide) rfl rfl (pc' := 3) rfl d1_0 ?_
  rintro T1 _ _ ⟨rfl, rfl⟩ X2
  show Go p e below _ (T1.setTop (mkF m 3 #[iv b, un, un, un, un, un] [(.ref em)]))
  refine go_astoreN C X2 4 rfl d1_3 rfl #[iv b, rv em, un, un, un, un] rfl ?_
  have hsz_4 := X2.sz
  refine go_callS C X2 (C.w 9 rfl) (C.w 10 rfl) (C.w 2 rfl) (C.w 11 rfl) (own_values l Z a0 C.ws va k1 k2 k3 k4 k5 k6 k7 h n0 X2.old SV AV EV) (argsL := []) (rest := []) (lenOf pd_3 rfl) rfl (by decide) (by decide) (Nat.le_of_ble_eq_true rfl) (by decide) (by decide) rfl rfl (pc' := 7) rfl d1_4 ?_
  rintro T4 h6 _ ⟨vb, rfl, szv, EXv, AVb⟩ X5
  show Go p e below _ (T4.setTop (mkF m 7 #[iv b, rv em, un, un, un, un] [(.ref vb)]))
  have ga_vb : n0 ≤ vb := Nat.le_trans hsz_4 szv
  refine go_astoreN C X5 8 rfl d1_7 rfl #[iv b, rv em, rv vb, un, un, un] rfl ?_
  refine go_aloadN C X5 9 rfl d1_8 rfl rfl ?_
  refine go_alen C X5 AVb (z := (7 : Int32)) rfl (pc' := 10) rfl d1_9 ?_
  refine go_istoreN C X5 11 rfl d1_10 #[iv b, rv em, rv vb, iv (7 : Int32), un, un] rfl ?_
  refine go_iconst C X5 12 rfl d1_11 (z := 0) rfl ?_
  refine go_istore C X5 14 rfl d1_12 #[iv b, rv em, rv vb, iv (7 : Int32), iv (0 : Int32), un] rfl ?_
  refine go_iload C X5 16 rfl d1_14 rfl ?_
  refine go_iloadN C X5 17 rfl d1_16 rfl ?_
  refine go_icmp_ge C X5 d1_17 (pc' := 20) (pc2 := 47) rfl (by decide) (by decide) (fun (c17 : 7 ≤ 0) => False.elim (by first | omega | exact absurd c17 (by decide))) (fun (c17 : 0 < 7) => ?_)
  refine go_aloadN C X5 21 rfl d1_20 rfl rfl ?_
  refine go_iload C X5 23 rfl d1_21 rfl ?_
  refine go_aaload C X5 AVb rfl (by decide) (v := (.ref k1)) rfl (pc' := 24) rfl d1_23 ?_
  refine go_astore C X5 26 rfl d1_24 rfl #[iv b, rv em, rv vb, iv (7 : Int32), iv (0 : Int32), rv k1] rfl ?_
  refine go_aload C X5 28 rfl d1_26 rfl rfl ?_
  refine go_getF C X5 (C.w 31 rfl) Via.refl (FK1.ext X5.old.2) (pc' := 31) rfl d1_28 (fun T7 X8 => ?_)
  refine go_iloadN C X8 32 rfl d1_31 rfl ?_
  refine go_icmp_ne C X8 d1_32 (pc' := 35) (pc2 := 41) rfl (by decide) (by decide) (fun (d1 : ¬ (1 : Int32) = b) => ?_) (fun (d1 : (1 : Int32) = b) => ?_)
  · refine go_iinc C X8 44 rfl d1_41 rfl (z := 1) rfl #[iv b, rv em, rv vb, iv (7 : Int32), iv (1 : Int32), rv k1] rfl ?_
    refine go_goto C X8 d1_44 (pc' := 14) (by decide) (by decide) ?_
    refine go_iload C X8 16 rfl d1_14 rfl ?_
    refine go_iloadN C X8 17 rfl d1_16 rfl ?_
    refine go_icmp_ge C X8 d1_17 (pc' := 20) (pc2 := 47) rfl (by decide) (by decide) (fun (c17 : 7 ≤ 1) => False.elim (by first | omega | exact absurd c17 (by decide))) (fun (c17 : 1 < 7) => ?_)
    refine go_aloadN C X8 21 rfl d1_20 rfl rfl ?_
    refine go_iload C X8 23 rfl d1_21 rfl ?_
    refine go_aaload C X8 AVb rfl (by decide) (v := (.ref k2)) rfl (pc' := 24) rfl d1_23 ?_
    refine go_astore C X8 26 rfl d1_24 rfl #[iv b, rv em, rv vb, iv (7 : Int32), iv (1 : Int32), rv k2] rfl ?_
    refine go_aload C X8 28 rfl d1_26 rfl rfl ?_
    refine go_getF C X8 (C.w 31 rfl) Via.refl (FK2.ext X8.old.2) (pc' := 31) rfl d1_28 (fun T9 X10 => ?_)
    refine go_iloadN C X10 32 rfl d1_31 rfl ?_
    refine go_icmp_ne C X10 d1_32 (pc' := 35) (pc2 := 41) rfl (by decide) (by decide) (fun (d2 : ¬ (2 : Int32) = b) => ?_) (fun (d2 : (2 : Int32) = b) => ?_)
    · refine go_iinc C X10 44 rfl d1_41 rfl (z := 1) rfl #[iv b, rv em, rv vb, iv (7 : Int32), iv (2 : Int32), rv k2] rfl ?_
      refine go_goto C X10 d1_44 (pc' := 14) (by decide) (by decide) ?_
      refine go_iload C X10 16 rfl d1_14 rfl ?_
      refine go_iloadN C X10 17 rfl d1_16 rfl ?_
      refine go_icmp_ge C X10 d1_17 (pc' := 20) (pc2 := 47) rfl (by decide) (by decide) (fun (c17 : 7 ≤ 2) => False.elim (by first | omega | exact absurd c17 (by decide))) (fun (c17 : 2 < 7) => ?_)
      refine go_aloadN C X10 21 rfl d1_20 rfl rfl ?_
      refine go_iload C X10 23 rfl d1_21 rfl ?_
      refine go_aaload C X10 AVb rfl (by decide) (v := (.ref k3)) rfl (pc' := 24) rfl d1_23 ?_
      refine go_astore C X10 26 rfl d1_24 rfl #[iv b, rv em, rv vb, iv (7 : Int32), iv (2 : Int32), rv k3] rfl ?_
      refine go_aload C X10 28 rfl d1_26 rfl rfl ?_
      refine go_getF C X10 (C.w 31 rfl) Via.refl (FK3.ext X10.old.2) (pc' := 31) rfl d1_28 (fun T11 X12 => ?_)
      refine go_iloadN C X12 32 rfl d1_31 rfl ?_
      refine go_icmp_ne C X12 d1_32 (pc' := 35) (pc2 := 41) rfl (by decide) (by decide) (fun (d3 : ¬ (3 : Int32) = b) => ?_) (fun (d3 : (3 : Int32) = b) => ?_)
      · refine go_iinc C X12 44 rfl d1_41 rfl (z := 1) rfl #[iv b, rv em, rv vb, iv (7 : Int32), iv (3 : Int32), rv k3] rfl ?_
        refine go_goto C X12 d1_44 (pc' := 14) (by decide) (by decide) ?_
        refine go_iload C X12 16 rfl d1_14 rfl ?_
        refine go_iloadN C X12 17 rfl d1_16 rfl ?_
        refine go_icmp_ge C X12 d1_17 (pc' := 20) (pc2 := 47) rfl (by decide) (by decide) (fun (c17 : 7 ≤ 3) => False.elim (by first | omega | exact absurd c17 (by decide))) (fun (c17 : 3 < 7) => ?_)
        refine go_aloadN C X12 21 rfl d1_20 rfl rfl ?_
        refine go_iload C X12 23 rfl d1_21 rfl ?_
        refine go_aaload C X12 AVb rfl (by decide) (v := (.ref k4)) rfl (pc' := 24) rfl d1_23 ?_
        refine go_astore C X12 26 rfl d1_24 rfl #[iv b, rv em, rv vb, iv (7 : Int32), iv (3 : Int32), rv k4] rfl ?_
        refine go_aload C X12 28 rfl d1_26 rfl rfl ?_
        refine go_getF C X12 (C.w 31 rfl) Via.refl (FK4.ext X12.old.2) (pc' := 31) rfl d1_28 (fun T13 X14 => ?_)
        refine go_iloadN C X14 32 rfl d1_31 rfl ?_
        refine go_icmp_ne C X14 d1_32 (pc' := 35) (pc2 := 41) rfl (by decide) (by decide) (fun (d4 : ¬ (4 : Int32) = b) => ?_) (fun (d4 : (4 : Int32) = b) => ?_)
        · refine go_iinc C X14 44 rfl d1_41 rfl (z := 1) rfl #[iv b, rv em, rv vb, iv (7 : Int32), iv (4 : Int32), rv k4] rfl ?_
          refine go_goto C X14 d1_44 (pc' := 14) (by decide) (by decide) ?_
          refine go_iload C X14 16 rfl d1_14 rfl ?_
          refine go_iloadN C X14 17 rfl d1_16 rfl ?_
          refine go_icmp_ge C X14 d1_17 (pc' := 20) (pc2 := 47) rfl (by decide) (by decide) (fun (c17 : 7 ≤ 4) => False.elim (by first | omega | exact absurd c17 (by decide))) (fun (c17 : 4 < 7) => ?_)
          refine go_aloadN C X14 21 rfl d1_20 rfl rfl ?_
          refine go_iload C X14 23 rfl d1_21 rfl ?_
          refine go_aaload C X14 AVb rfl (by decide) (v := (.ref k5)) rfl (pc' := 24) rfl d1_23 ?_
          refine go_astore C X14 26 rfl d1_24 rfl #[iv b, rv em, rv vb, iv (7 : Int32), iv (4 : Int32), rv k5] rfl ?_
          refine go_aload C X14 28 rfl d1_26 rfl rfl ?_
          refine go_getF C X14 (C.w 31 rfl) Via.refl (FK5.ext X14.old.2) (pc' := 31) rfl d1_28 (fun T15 X16 => ?_)
          refine go_iloadN C X16 32 rfl d1_31 rfl ?_
          refine go_icmp_ne C X16 d1_32 (pc' := 35) (pc2 := 41) rfl (by decide) (by decide) (fun (d5 : ¬ (5 : Int32) = b) => ?_) (fun (d5 : (5 : Int32) = b) => ?_)
          · refine go_iinc C X16 44 rfl d1_41 rfl (z := 1) rfl #[iv b, rv em, rv vb, iv (7 : Int32), iv (5 : Int32), rv k5] rfl ?_
            refine go_goto C X16 d1_44 (pc' := 14) (by decide) (by decide) ?_
            refine go_iload C X16 16 rfl d1_14 rfl ?_
            refine go_iloadN C X16 17 rfl d1_16 rfl ?_
            refine go_icmp_ge C X16 d1_17 (pc' := 20) (pc2 := 47) rfl (by decide) (by decide) (fun (c17 : 7 ≤ 5) => False.elim (by first | omega | exact absurd c17 (by decide))) (fun (c17 : 5 < 7) => ?_)
            refine go_aloadN C X16 21 rfl d1_20 rfl rfl ?_
            refine go_iload C X16 23 rfl d1_21 rfl ?_
            refine go_aaload C X16 AVb rfl (by decide) (v := (.ref k6)) rfl (pc' := 24) rfl d1_23 ?_
            refine go_astore C X16 26 rfl d1_24 rfl #[iv b, rv em, rv vb, iv (7 : Int32), iv (5 : Int32), rv k6] rfl ?_
            refine go_aload C X16 28 rfl d1_26 rfl rfl ?_
            refine go_getF C X16 (C.w 31 rfl) Via.refl (FK6.ext X16.old.2) (pc' := 31) rfl d1_28 (fun T17 X18 => ?_)
            refine go_iloadN C X18 32 rfl d1_31 rfl ?_
            refine go_icmp_ne C X18 d1_32 (pc' := 35) (pc2 := 41) rfl (by decide) (by decide) (fun (d6 : ¬ (6 : Int32) = b) => ?_) (fun (d6 : (6 : Int32) = b) => ?_)
            · refine go_iinc C X18 44 rfl d1_41 rfl (z := 1) rfl #[iv b, rv em, rv vb, iv (7 : Int32), iv (6 : Int32), rv k6] rfl ?_
              refine go_goto C X18 d1_44 (pc' := 14) (by decide) (by decide) ?_
              refine go_iload C X18 16 rfl d1_14 rfl ?_
              refine go_iloadN C X18 17 rfl d1_16 rfl ?_
              refine go_icmp_ge C X18 d1_17 (pc' := 20) (pc2 := 47) rfl (by decide) (by decide) (fun (c17 : 7 ≤ 6) => False.elim (by first | omega | exact absurd c17 (by decide))) (fun (c17 : 6 < 7) => ?_)
              refine go_aloadN C X18 21 rfl d1_20 rfl rfl ?_
              refine go_iload C X18 23 rfl d1_21 rfl ?_
              refine go_aaload C X18 AVb rfl (by decide) (v := (.ref k7)) rfl (pc' := 24) rfl d1_23 ?_
              refine go_astore C X18 26 rfl d1_24 rfl #[iv b, rv em, rv vb, iv (7 : Int32), iv (6 : Int32), rv k7] rfl ?_
              refine go_aload C X18 28 rfl d1_26 rfl rfl ?_
              refine go_getF C X18 (C.w 31 rfl) Via.refl (FK7.ext X18.old.2) (pc' := 31) rfl d1_28 (fun T19 X20 => ?_)
              refine go_iloadN C X20 32 rfl d1_31 rfl ?_
              refine go_icmp_ne C X20 d1_32 (pc' := 35) (pc2 := 41) rfl (by decide) (by decide) (fun (d7 : ¬ (7 : Int32) = b) => ?_) (fun (d7 : (7 : Int32) = b) => ?_)
              · refine go_iinc C X20 44 rfl d1_41 rfl (z := 1) rfl #[iv b, rv em, rv vb, iv (7 : Int32), iv (7 : Int32), rv k7] rfl ?_
                refine go_goto C X20 d1_44 (pc' := 14) (by decide) (by decide) ?_
                refine go_iload C X20 16 rfl d1_14 rfl ?_
                refine go_iloadN C X20 17 rfl d1_16 rfl ?_
                refine go_icmp_ge C X20 d1_17 (pc' := 20) (pc2 := 47) rfl (by decide) (by decide) (fun (c17 : 7 ≤ 7) => ?_) (fun (c17 : 7 < 7) => False.elim (by first | omega | exact absurd c17 (by decide)))
                refine go_aloadN C X20 48 rfl d1_47 rfl rfl ?_
                exact go_retA C X20 d1_48 rfl rfl ⟨em, .null, rfl, EE.ext X20.old.2, FE.ext X20.old.2, by unfold own_kind; rw [if_neg (Ne.symm d1)]; rw [if_neg (Ne.symm d2)]; rw [if_neg (Ne.symm d3)]; rw [if_neg (Ne.symm d4)]; rw [if_neg (Ne.symm d5)]; rw [if_neg (Ne.symm d6)]; rw [if_neg (Ne.symm d7)]⟩ (by decide) (by decide)
              · subst d7
                refine go_aload C X20 37 rfl d1_35 rfl rfl ?_
                have hsz_37 := X20.sz
                have lt_vb_37 := AVb.lt
                refine go_callS C X20 (C.w 44 rfl) (C.w 45 rfl) (C.w 6 rfl) (C.w 46 rfl) (own_oof l Z a0 C.ws k7 h6 n0 X20.old) (argsL := [(.ref k7)]) (rest := []) (lenOf pd_4 rfl) rfl (by decide) (by decide) (Nat.le_of_ble_eq_true rfl) (by decide) (by decide) rfl rfl (pc' := 40) rfl d1_37 ?_
                rintro T21 h23 _ ⟨ob, rfl, szo, Ko, Eo, Fo⟩ X22
                show Go p e below _ (T21.setTop (mkF m 40 #[iv (7 : Int32), rv em, rv vb, iv (7 : Int32), iv (6 : Int32), rv k7] [(.ref ob)]))
                have ne_vb_ob : vb ≠ ob := Nat.ne_of_lt (Nat.lt_of_lt_of_le lt_vb_37 szo)
                have ga_ob : n0 ≤ ob := Nat.le_trans hsz_37 szo
                have A24 := AVb.keep Ko nin0
                refine go_astoreN C X22 41 rfl d1_40 rfl #[iv (7 : Int32), rv ob, rv vb, iv (7 : Int32), iv (6 : Int32), rv k7] rfl ?_
                refine go_iinc C X22 44 rfl d1_41 rfl (z := 1) rfl #[iv (7 : Int32), rv ob, rv vb, iv (7 : Int32), iv (7 : Int32), rv k7] rfl ?_
                refine go_goto C X22 d1_44 (pc' := 14) (by decide) (by decide) ?_
                refine go_iload C X22 16 rfl d1_14 rfl ?_
                refine go_iloadN C X22 17 rfl d1_16 rfl ?_
                refine go_icmp_ge C X22 d1_17 (pc' := 20) (pc2 := 47) rfl (by decide) (by decide) (fun (c17 : 7 ≤ 7) => ?_) (fun (c17 : 7 < 7) => False.elim (by first | omega | exact absurd c17 (by decide)))
                refine go_aloadN C X22 48 rfl d1_47 rfl rfl ?_
                exact go_retA C X22 d1_48 rfl rfl ⟨ob, _, rfl, Eo, Fo, by unfold own_kind; rw [if_neg (by decide)]; rw [if_neg (by decide)]; rw [if_neg (by decide)]; rw [if_neg (by decide)]; rw [if_neg (by decide)]; rw [if_neg (by decide)]; rw [if_pos rfl]⟩ (by decide) (by decide)
            · subst d6
              refine go_aload C X18 37 rfl d1_35 rfl rfl ?_
              have hsz_37 := X18.sz
              have lt_vb_37 := AVb.lt
              refine go_callS C X18 (C.w 44 rfl) (C.w 45 rfl) (C.w 6 rfl) (C.w 46 rfl) (own_oof l Z a0 C.ws k6 h6 n0 X18.old) (argsL := [(.ref k6)]) (rest := []) (lenOf pd_4 rfl) rfl (by decide) (by decide) (Nat.le_of_ble_eq_true rfl) (by decide) (by decide) rfl rfl (pc' := 40) rfl d1_37 ?_
              rintro T25 h27 _ ⟨ob, rfl, szo, Ko, Eo, Fo⟩ X26
              show Go p e below _ (T25.setTop (mkF m 40 #[iv (6 : Int32), rv em, rv vb, iv (7 : Int32), iv (5 : Int32), rv k6] [(.ref ob)]))
              have ne_vb_ob : vb ≠ ob := Nat.ne_of_lt (Nat.lt_of_lt_of_le lt_vb_37 szo)
              have ga_ob : n0 ≤ ob := Nat.le_trans hsz_37 szo
              have A28 := AVb.keep Ko nin0
              refine go_astoreN C X26 41 rfl d1_40 rfl #[iv (6 : Int32), rv ob, rv vb, iv (7 : Int32), iv (5 : Int32), rv k6] rfl ?_
              refine go_iinc C X26 44 rfl d1_41 rfl (z := 1) rfl #[iv (6 : Int32), rv ob, rv vb, iv (7 : Int32), iv (6 : Int32), rv k6] rfl ?_
              refine go_goto C X26 d1_44 (pc' := 14) (by decide) (by decide) ?_
              refine go_iload C X26 16 rfl d1_14 rfl ?_
              refine go_iloadN C X26 17 rfl d1_16 rfl ?_
              refine go_icmp_ge C X26 d1_17 (pc' := 20) (pc2 := 47) rfl (by decide) (by decide) (fun (c17 : 7 ≤ 6) => False.elim (by first | omega | exact absurd c17 (by decide))) (fun (c17 : 6 < 7) => ?_)
              refine go_aloadN C X26 21 rfl d1_20 rfl rfl ?_
              refine go_iload C X26 23 rfl d1_21 rfl ?_
              refine go_aaload C X26 A28 rfl (by decide) (v := (.ref k7)) rfl (pc' := 24) rfl d1_23 ?_
              refine go_astore C X26 26 rfl d1_24 rfl #[iv (6 : Int32), rv ob, rv vb, iv (7 : Int32), iv (6 : Int32), rv k7] rfl ?_
              refine go_aload C X26 28 rfl d1_26 rfl rfl ?_
              refine go_getF C X26 (C.w 31 rfl) Via.refl (FK7.ext X26.old.2) (pc' := 31) rfl d1_28 (fun T29 X30 => ?_)
              refine go_iloadN C X30 32 rfl d1_31 rfl ?_
              refine go_icmp_ne C X30 d1_32 (pc' := 35) (pc2 := 41) rfl (by decide) (by decide) (fun (c32 : ¬ (7 : Int32) = (6 : Int32)) => ?_) (fun (c32 : (7 : Int32) = (6 : Int32)) => False.elim (by first | omega | exact absurd c32 (by decide)))
              refine go_iinc C X30 44 rfl d1_41 rfl (z := 1) rfl #[iv (6 : Int32), rv ob, rv vb, iv (7 : Int32), iv (7 : Int32), rv k7] rfl ?_
              refine go_goto C X30 d1_44 (pc' := 14) (by decide) (by decide) ?_
              refine go_iload C X30 16 rfl d1_14 rfl ?_
              refine go_iloadN C X30 17 rfl d1_16 rfl ?_
              refine go_icmp_ge C X30 d1_17 (pc' := 20) (pc2 := 47) rfl (by decide) (by decide) (fun (c17 : 7 ≤ 7) => ?_) (fun (c17 : 7 < 7) => False.elim (by first | omega | exact absurd c17 (by decide)))
              refine go_aloadN C X30 48 rfl d1_47 rfl rfl ?_
              exact go_retA C X30 d1_48 rfl rfl ⟨ob, _, rfl, Eo, Fo, by unfold own_kind; rw [if_neg (by decide)]; rw [if_neg (by decide)]; rw [if_neg (by decide)]; rw [if_neg (by decide)]; rw [if_neg (by decide)]; rw [if_pos rfl]⟩ (by decide) (by decide)
          · subst d5
            refine go_aload C X16 37 rfl d1_35 rfl rfl ?_
            have hsz_37 := X16.sz
            have lt_vb_37 := AVb.lt
            refine go_callS C X16 (C.w 44 rfl) (C.w 45 rfl) (C.w 6 rfl) (C.w 46 rfl) (own_oof l Z a0 C.ws k5 h6 n0 X16.old) (argsL := [(.ref k5)]) (rest := []) (lenOf pd_4 rfl) rfl (by decide) (by decide) (Nat.le_of_ble_eq_true rfl) (by decide) (by decide) rfl rfl (pc' := 40) rfl d1_37 ?_
            rintro T31 h33 _ ⟨ob, rfl, szo, Ko, Eo, Fo⟩ X32
            show Go p e below _ (T31.setTop (mkF m 40 #[iv (5 : Int32), rv em, rv vb, iv (7 : Int32), iv (4 : Int32), rv k5] [(.ref ob)]))
            have ne_vb_ob : vb ≠ ob := Nat.ne_of_lt (Nat.lt_of_lt_of_le lt_vb_37 szo)
            have ga_ob : n0 ≤ ob := Nat.le_trans hsz_37 szo
            have A34 := AVb.keep Ko nin0
            refine go_astoreN C X32 41 rfl d1_40 rfl #[iv (5 : Int32), rv ob, rv vb, iv (7 : Int32), iv (4 : Int32), rv k5] rfl ?_
            refine go_iinc C X32 44 rfl d1_41 rfl (z := 1) rfl #[iv (5 : Int32), rv ob, rv vb, iv (7 : Int32), iv (5 : Int32), rv k5] rfl ?_
            refine go_goto C X32 d1_44 (pc' := 14) (by decide) (by decide) ?_
            refine go_iload C X32 16 rfl d1_14 rfl ?_
            refine go_iloadN C X32 17 rfl d1_16 rfl ?_
            refine go_icmp_ge C X32 d1_17 (pc' := 20) (pc2 := 47) rfl (by decide) (by decide) (fun (c17 : 7 ≤ 5) => False.elim (by first | omega | exact absurd c17 (by decide))) (fun (c17 : 5 < 7) => ?_)
            refine go_aloadN C X32 21 rfl d1_20 rfl rfl ?_
            refine go_iload C X32 23 rfl d1_21 rfl ?_
            refine go_aaload C X32 A34 rfl (by decide) (v := (.ref k6)) rfl (pc' := 24) rfl d1_23 ?_
            refine go_astore C X32 26 rfl d1_24 rfl #[iv (5 : Int32), rv ob, rv vb, iv (7 : Int32), iv (5 : Int32), rv k6] rfl ?_
            refine go_aload C X32 28 rfl d1_26 rfl rfl ?_
            refine go_getF C X32 (C.w 31 rfl) Via.refl (FK6.ext X32.old.2) (pc' := 31) rfl d1_28 (fun T35 X36 => ?_)
            refine go_iloadN C X36 32 rfl d1_31 rfl ?_
            refine go_icmp_ne C X36 d1_32 (pc' := 35) (pc2 := 41) rfl (by decide) (by decide) (fun (c32 : ¬ (6 : Int32) = (5 : Int32)) => ?_) (fun (c32 : (6 : Int32) = (5 : Int32)) => False.elim (by first | omega | exact absurd c32 (by decide)))
            refine go_iinc C X36 44 rfl d1_41 rfl (z := 1) rfl #[iv (5 : Int32), rv ob, rv vb, iv (7 : Int32), iv (6 : Int32), rv k6] rfl ?_
            refine go_goto C X36 d1_44 (pc' := 14) (by decide) (by decide) ?_
            refine go_iload C X36 16 rfl d1_14 rfl ?_
            refine go_iloadN C X36 17 rfl d1_16 rfl ?_
            refine go_icmp_ge C X36 d1_17 (pc' := 20) (pc2 := 47) rfl (by decide) (by decide) (fun (c17 : 7 ≤ 6) => False.elim (by first | omega | exact absurd c17 (by decide))) (fun (c17 : 6 < 7) => ?_)
            refine go_aloadN C X36 21 rfl d1_20 rfl rfl ?_
            refine go_iload C X36 23 rfl d1_21 rfl ?_
            refine go_aaload C X36 A34 rfl (by decide) (v := (.ref k7)) rfl (pc' := 24) rfl d1_23 ?_
            refine go_astore C X36 26 rfl d1_24 rfl #[iv (5 : Int32), rv ob, rv vb, iv (7 : Int32), iv (6 : Int32), rv k7] rfl ?_
            refine go_aload C X36 28 rfl d1_26 rfl rfl ?_
            refine go_getF C X36 (C.w 31 rfl) Via.refl (FK7.ext X36.old.2) (pc' := 31) rfl d1_28 (fun T37 X38 => ?_)
            refine go_iloadN C X38 32 rfl d1_31 rfl ?_
            refine go_icmp_ne C X38 d1_32 (pc' := 35) (pc2 := 41) rfl (by decide) (by decide) (fun (c32 : ¬ (7 : Int32) = (5 : Int32)) => ?_) (fun (c32 : (7 : Int32) = (5 : Int32)) => False.elim (by first | omega | exact absurd c32 (by decide)))
            refine go_iinc C X38 44 rfl d1_41 rfl (z := 1) rfl #[iv (5 : Int32), rv ob, rv vb, iv (7 : Int32), iv (7 : Int32), rv k7] rfl ?_
            refine go_goto C X38 d1_44 (pc' := 14) (by decide) (by decide) ?_
            refine go_iload C X38 16 rfl d1_14 rfl ?_
            refine go_iloadN C X38 17 rfl d1_16 rfl ?_
            refine go_icmp_ge C X38 d1_17 (pc' := 20) (pc2 := 47) rfl (by decide) (by decide) (fun (c17 : 7 ≤ 7) => ?_) (fun (c17 : 7 < 7) => False.elim (by first | omega | exact absurd c17 (by decide)))
            refine go_aloadN C X38 48 rfl d1_47 rfl rfl ?_
            exact go_retA C X38 d1_48 rfl rfl ⟨ob, _, rfl, Eo, Fo, by unfold own_kind; rw [if_neg (by decide)]; rw [if_neg (by decide)]; rw [if_neg (by decide)]; rw [if_neg (by decide)]; rw [if_pos rfl]⟩ (by decide) (by decide)
        · subst d4
          refine go_aload C X14 37 rfl d1_35 rfl rfl ?_
          have hsz_37 := X14.sz
          have lt_vb_37 := AVb.lt
          refine go_callS C X14 (C.w 44 rfl) (C.w 45 rfl) (C.w 6 rfl) (C.w 46 rfl) (own_oof l Z a0 C.ws k4 h6 n0 X14.old) (argsL := [(.ref k4)]) (rest := []) (lenOf pd_4 rfl) rfl (by decide) (by decide) (Nat.le_of_ble_eq_true rfl) (by decide) (by decide) rfl rfl (pc' := 40) rfl d1_37 ?_
          rintro T39 h41 _ ⟨ob, rfl, szo, Ko, Eo, Fo⟩ X40
          show Go p e below _ (T39.setTop (mkF m 40 #[iv (4 : Int32), rv em, rv vb, iv (7 : Int32), iv (3 : Int32), rv k4] [(.ref ob)]))
          have ne_vb_ob : vb ≠ ob := Nat.ne_of_lt (Nat.lt_of_lt_of_le lt_vb_37 szo)
          have ga_ob : n0 ≤ ob := Nat.le_trans hsz_37 szo
          have A42 := AVb.keep Ko nin0
          refine go_astoreN C X40 41 rfl d1_40 rfl #[iv (4 : Int32), rv ob, rv vb, iv (7 : Int32), iv (3 : Int32), rv k4] rfl ?_
          refine go_iinc C X40 44 rfl d1_41 rfl (z := 1) rfl #[iv (4 : Int32), rv ob, rv vb, iv (7 : Int32), iv (4 : Int32), rv k4] rfl ?_
          refine go_goto C X40 d1_44 (pc' := 14) (by decide) (by decide) ?_
          refine go_iload C X40 16 rfl d1_14 rfl ?_
          refine go_iloadN C X40 17 rfl d1_16 rfl ?_
          refine go_icmp_ge C X40 d1_17 (pc' := 20) (pc2 := 47) rfl (by decide) (by decide) (fun (c17 : 7 ≤ 4) => False.elim (by first | omega | exact absurd c17 (by decide))) (fun (c17 : 4 < 7) => ?_)
          refine go_aloadN C X40 21 rfl d1_20 rfl rfl ?_
          refine go_iload C X40 23 rfl d1_21 rfl ?_
          refine go_aaload C X40 A42 rfl (by decide) (v := (.ref k5)) rfl (pc' := 24) rfl d1_23 ?_
          refine go_astore C X40 26 rfl d1_24 rfl #[iv (4 : Int32), rv ob, rv vb, iv (7 : Int32), iv (4 : Int32), rv k5] rfl ?_
          refine go_aload C X40 28 rfl d1_26 rfl rfl ?_
          refine go_getF C X40 (C.w 31 rfl) Via.refl (FK5.ext X40.old.2) (pc' := 31) rfl d1_28 (fun T43 X44 => ?_)
          refine go_iloadN C X44 32 rfl d1_31 rfl ?_
          refine go_icmp_ne C X44 d1_32 (pc' := 35) (pc2 := 41) rfl (by decide) (by decide) (fun (c32 : ¬ (5 : Int32) = (4 : Int32)) => ?_) (fun (c32 : (5 : Int32) = (4 : Int32)) => False.elim (by first | omega | exact absurd c32 (by decide)))
          refine go_iinc C X44 44 rfl d1_41 rfl (z := 1) rfl #[iv (4 : Int32), rv ob, rv vb, iv (7 : Int32), iv (5 : Int32), rv k5] rfl ?_
          refine go_goto C X44 d1_44 (pc' := 14) (by decide) (by decide) ?_
          refine go_iload C X44 16 rfl d1_14 rfl ?_
          refine go_iloadN C X44 17 rfl d1_16 rfl ?_
          refine go_icmp_ge C X44 d1_17 (pc' := 20) (pc2 := 47) rfl (by decide) (by decide) (fun (c17 : 7 ≤ 5) => False.elim (by first | omega | exact absurd c17 (by decide))) (fun (c17 : 5 < 7) => ?_)
          refine go_aloadN C X44 21 rfl d1_20 rfl rfl ?_
          refine go_iload C X44 23 rfl d1_21 rfl ?_
          refine go_aaload C X44 A42 rfl (by decide) (v := (.ref k6)) rfl (pc' := 24) rfl d1_23 ?_
          refine go_astore C X44 26 rfl d1_24 rfl #[iv (4 : Int32), rv ob, rv vb, iv (7 : Int32), iv (5 : Int32), rv k6] rfl ?_
          refine go_aload C X44 28 rfl d1_26 rfl rfl ?_
          refine go_getF C X44 (C.w 31 rfl) Via.refl (FK6.ext X44.old.2) (pc' := 31) rfl d1_28 (fun T45 X46 => ?_)
          refine go_iloadN C X46 32 rfl d1_31 rfl ?_
          refine go_icmp_ne C X46 d1_32 (pc' := 35) (pc2 := 41) rfl (by decide) (by decide) (fun (c32 : ¬ (6 : Int32) = (4 : Int32)) => ?_) (fun (c32 : (6 : Int32) = (4 : Int32)) => False.elim (by first | omega | exact absurd c32 (by decide)))
          refine go_iinc C X46 44 rfl d1_41 rfl (z := 1) rfl #[iv (4 : Int32), rv ob, rv vb, iv (7 : Int32), iv (6 : Int32), rv k6] rfl ?_
          refine go_goto C X46 d1_44 (pc' := 14) (by decide) (by decide) ?_
          refine go_iload C X46 16 rfl d1_14 rfl ?_
          refine go_iloadN C X46 17 rfl d1_16 rfl ?_
          refine go_icmp_ge C X46 d1_17 (pc' := 20) (pc2 := 47) rfl (by decide) (by decide) (fun (c17 : 7 ≤ 6) => False.elim (by first | omega | exact absurd c17 (by decide))) (fun (c17 : 6 < 7) => ?_)
          refine go_aloadN C X46 21 rfl d1_20 rfl rfl ?_
          refine go_iload C X46 23 rfl d1_21 rfl ?_
          refine go_aaload C X46 A42 rfl (by decide) (v := (.ref k7)) rfl (pc' := 24) rfl d1_23 ?_
          refine go_astore C X46 26 rfl d1_24 rfl #[iv (4 : Int32), rv ob, rv vb, iv (7 : Int32), iv (6 : Int32), rv k7] rfl ?_
          refine go_aload C X46 28 rfl d1_26 rfl rfl ?_
          refine go_getF C X46 (C.w 31 rfl) Via.refl (FK7.ext X46.old.2) (pc' := 31) rfl d1_28 (fun T47 X48 => ?_)
          refine go_iloadN C X48 32 rfl d1_31 rfl ?_
          refine go_icmp_ne C X48 d1_32 (pc' := 35) (pc2 := 41) rfl (by decide) (by decide) (fun (c32 : ¬ (7 : Int32) = (4 : Int32)) => ?_) (fun (c32 : (7 : Int32) = (4 : Int32)) => False.elim (by first | omega | exact absurd c32 (by decide)))
          refine go_iinc C X48 44 rfl d1_41 rfl (z := 1) rfl #[iv (4 : Int32), rv ob, rv vb, iv (7 : Int32), iv (7 : Int32), rv k7] rfl ?_
          refine go_goto C X48 d1_44 (pc' := 14) (by decide) (by decide) ?_
          refine go_iload C X48 16 rfl d1_14 rfl ?_
          refine go_iloadN C X48 17 rfl d1_16 rfl ?_
          refine go_icmp_ge C X48 d1_17 (pc' := 20) (pc2 := 47) rfl (by decide) (by decide) (fun (c17 : 7 ≤ 7) => ?_) (fun (c17 : 7 < 7) => False.elim (by first | omega | exact absurd c17 (by decide)))
          refine go_aloadN C X48 48 rfl d1_47 rfl rfl ?_
          exact go_retA C X48 d1_48 rfl rfl ⟨ob, _, rfl, Eo, Fo, by unfold own_kind; rw [if_neg (by decide)]; rw [if_neg (by decide)]; rw [if_neg (by decide)]; rw [if_pos rfl]⟩ (by decide) (by decide)
      · subst d3
        refine go_aload C X12 37 rfl d1_35 rfl rfl ?_
        have hsz_37 := X12.sz
        have lt_vb_37 := AVb.lt
        refine go_callS C X12 (C.w 44 rfl) (C.w 45 rfl) (C.w 6 rfl) (C.w 46 rfl) (own_oof l Z a0 C.ws k3 h6 n0 X12.old) (argsL := [(.ref k3)]) (rest := []) (lenOf pd_4 rfl) rfl (by decide) (by decide) (Nat.le_of_ble_eq_true rfl) (by decide) (by decide) rfl rfl (pc' := 40) rfl d1_37 ?_
        rintro T49 h51 _ ⟨ob, rfl, szo, Ko, Eo, Fo⟩ X50
        show Go p e below _ (T49.setTop (mkF m 40 #[iv (3 : Int32), rv em, rv vb, iv (7 : Int32), iv (2 : Int32), rv k3] [(.ref ob)]))
        have ne_vb_ob : vb ≠ ob := Nat.ne_of_lt (Nat.lt_of_lt_of_le lt_vb_37 szo)
        have ga_ob : n0 ≤ ob := Nat.le_trans hsz_37 szo
        have A52 := AVb.keep Ko nin0
        refine go_astoreN C X50 41 rfl d1_40 rfl #[iv (3 : Int32), rv ob, rv vb, iv (7 : Int32), iv (2 : Int32), rv k3] rfl ?_
        refine go_iinc C X50 44 rfl d1_41 rfl (z := 1) rfl #[iv (3 : Int32), rv ob, rv vb, iv (7 : Int32), iv (3 : Int32), rv k3] rfl ?_
        refine go_goto C X50 d1_44 (pc' := 14) (by decide) (by decide) ?_
        refine go_iload C X50 16 rfl d1_14 rfl ?_
        refine go_iloadN C X50 17 rfl d1_16 rfl ?_
        refine go_icmp_ge C X50 d1_17 (pc' := 20) (pc2 := 47) rfl (by decide) (by decide) (fun (c17 : 7 ≤ 3) => False.elim (by first | omega | exact absurd c17 (by decide))) (fun (c17 : 3 < 7) => ?_)
        refine go_aloadN C X50 21 rfl d1_20 rfl rfl ?_
        refine go_iload C X50 23 rfl d1_21 rfl ?_
        refine go_aaload C X50 A52 rfl (by decide) (v := (.ref k4)) rfl (pc' := 24) rfl d1_23 ?_
        refine go_astore C X50 26 rfl d1_24 rfl #[iv (3 : Int32), rv ob, rv vb, iv (7 : Int32), iv (3 : Int32), rv k4] rfl ?_
        refine go_aload C X50 28 rfl d1_26 rfl rfl ?_
        refine go_getF C X50 (C.w 31 rfl) Via.refl (FK4.ext X50.old.2) (pc' := 31) rfl d1_28 (fun T53 X54 => ?_)
        refine go_iloadN C X54 32 rfl d1_31 rfl ?_
        refine go_icmp_ne C X54 d1_32 (pc' := 35) (pc2 := 41) rfl (by decide) (by decide) (fun (c32 : ¬ (4 : Int32) = (3 : Int32)) => ?_) (fun (c32 : (4 : Int32) = (3 : Int32)) => False.elim (by first | omega | exact absurd c32 (by decide)))
        refine go_iinc C X54 44 rfl d1_41 rfl (z := 1) rfl #[iv (3 : Int32), rv ob, rv vb, iv (7 : Int32), iv (4 : Int32), rv k4] rfl ?_
        refine go_goto C X54 d1_44 (pc' := 14) (by decide) (by decide) ?_
        refine go_iload C X54 16 rfl d1_14 rfl ?_
        refine go_iloadN C X54 17 rfl d1_16 rfl ?_
        refine go_icmp_ge C X54 d1_17 (pc' := 20) (pc2 := 47) rfl (by decide) (by decide) (fun (c17 : 7 ≤ 4) => False.elim (by first | omega | exact absurd c17 (by decide))) (fun (c17 : 4 < 7) => ?_)
        refine go_aloadN C X54 21 rfl d1_20 rfl rfl ?_
        refine go_iload C X54 23 rfl d1_21 rfl ?_
        refine go_aaload C X54 A52 rfl (by decide) (v := (.ref k5)) rfl (pc' := 24) rfl d1_23 ?_
        refine go_astore C X54 26 rfl d1_24 rfl #[iv (3 : Int32), rv ob, rv vb, iv (7 : Int32), iv (4 : Int32), rv k5] rfl ?_
        refine go_aload C X54 28 rfl d1_26 rfl rfl ?_
        refine go_getF C X54 (C.w 31 rfl) Via.refl (FK5.ext X54.old.2) (pc' := 31) rfl d1_28 (fun T55 X56 => ?_)
        refine go_iloadN C X56 32 rfl d1_31 rfl ?_
        refine go_icmp_ne C X56 d1_32 (pc' := 35) (pc2 := 41) rfl (by decide) (by decide) (fun (c32 : ¬ (5 : Int32) = (3 : Int32)) => ?_) (fun (c32 : (5 : Int32) = (3 : Int32)) => False.elim (by first | omega | exact absurd c32 (by decide)))
        refine go_iinc C X56 44 rfl d1_41 rfl (z := 1) rfl #[iv (3 : Int32), rv ob, rv vb, iv (7 : Int32), iv (5 : Int32), rv k5] rfl ?_
        refine go_goto C X56 d1_44 (pc' := 14) (by decide) (by decide) ?_
        refine go_iload C X56 16 rfl d1_14 rfl ?_
        refine go_iloadN C X56 17 rfl d1_16 rfl ?_
        refine go_icmp_ge C X56 d1_17 (pc' := 20) (pc2 := 47) rfl (by decide) (by decide) (fun (c17 : 7 ≤ 5) => False.elim (by first | omega | exact absurd c17 (by decide))) (fun (c17 : 5 < 7) => ?_)
        refine go_aloadN C X56 21 rfl d1_20 rfl rfl ?_
        refine go_iload C X56 23 rfl d1_21 rfl ?_
        refine go_aaload C X56 A52 rfl (by decide) (v := (.ref k6)) rfl (pc' := 24) rfl d1_23 ?_
        refine go_astore C X56 26 rfl d1_24 rfl #[iv (3 : Int32), rv ob, rv vb, iv (7 : Int32), iv (5 : Int32), rv k6] rfl ?_
        refine go_aload C X56 28 rfl d1_26 rfl rfl ?_
        refine go_getF C X56 (C.w 31 rfl) Via.refl (FK6.ext X56.old.2) (pc' := 31) rfl d1_28 (fun T57 X58 => ?_)
        refine go_iloadN C X58 32 rfl d1_31 rfl ?_
        refine go_icmp_ne C X58 d1_32 (pc' := 35) (pc2 := 41) rfl (by decide) (by decide) (fun (c32 : ¬ (6 : Int32) = (3 : Int32)) => ?_) (fun (c32 : (6 : Int32) = (3 : Int32)) => False.elim (by first | omega | exact absurd c32 (by decide)))
        refine go_iinc C X58 44 rfl d1_41 rfl (z := 1) rfl #[iv (3 : Int32), rv ob, rv vb, iv (7 : Int32), iv (6 : Int32), rv k6] rfl ?_
        refine go_goto C X58 d1_44 (pc' := 14) (by decide) (by decide) ?_
        refine go_iload C X58 16 rfl d1_14 rfl ?_
        refine go_iloadN C X58 17 rfl d1_16 rfl ?_
        refine go_icmp_ge C X58 d1_17 (pc' := 20) (pc2 := 47) rfl (by decide) (by decide) (fun (c17 : 7 ≤ 6) => False.elim (by first | omega | exact absurd c17 (by decide))) (fun (c17 : 6 < 7) => ?_)
        refine go_aloadN C X58 21 rfl d1_20 rfl rfl ?_
        refine go_iload C X58 23 rfl d1_21 rfl ?_
        refine go_aaload C X58 A52 rfl (by decide) (v := (.ref k7)) rfl (pc' := 24) rfl d1_23 ?_
        refine go_astore C X58 26 rfl d1_24 rfl #[iv (3 : Int32), rv ob, rv vb, iv (7 : Int32), iv (6 : Int32), rv k7] rfl ?_
        refine go_aload C X58 28 rfl d1_26 rfl rfl ?_
        refine go_getF C X58 (C.w 31 rfl) Via.refl (FK7.ext X58.old.2) (pc' := 31) rfl d1_28 (fun T59 X60 => ?_)
        refine go_iloadN C X60 32 rfl d1_31 rfl ?_
        refine go_icmp_ne C X60 d1_32 (pc' := 35) (pc2 := 41) rfl (by decide) (by decide) (fun (c32 : ¬ (7 : Int32) = (3 : Int32)) => ?_) (fun (c32 : (7 : Int32) = (3 : Int32)) => False.elim (by first | omega | exact absurd c32 (by decide)))
        refine go_iinc C X60 44 rfl d1_41 rfl (z := 1) rfl #[iv (3 : Int32), rv ob, rv vb, iv (7 : Int32), iv (7 : Int32), rv k7] rfl ?_
        refine go_goto C X60 d1_44 (pc' := 14) (by decide) (by decide) ?_
        refine go_iload C X60 16 rfl d1_14 rfl ?_
        refine go_iloadN C X60 17 rfl d1_16 rfl ?_
        refine go_icmp_ge C X60 d1_17 (pc' := 20) (pc2 := 47) rfl (by decide) (by decide) (fun (c17 : 7 ≤ 7) => ?_) (fun (c17 : 7 < 7) => False.elim (by first | omega | exact absurd c17 (by decide)))
        refine go_aloadN C X60 48 rfl d1_47 rfl rfl ?_
        exact go_retA C X60 d1_48 rfl rfl ⟨ob, _, rfl, Eo, Fo, by unfold own_kind; rw [if_neg (by decide)]; rw [if_neg (by decide)]; rw [if_pos rfl]⟩ (by decide) (by decide)
    · subst d2
      refine go_aload C X10 37 rfl d1_35 rfl rfl ?_
      have hsz_37 := X10.sz
      have lt_vb_37 := AVb.lt
      refine go_callS C X10 (C.w 44 rfl) (C.w 45 rfl) (C.w 6 rfl) (C.w 46 rfl) (own_oof l Z a0 C.ws k2 h6 n0 X10.old) (argsL := [(.ref k2)]) (rest := []) (lenOf pd_4 rfl) rfl (by decide) (by decide) (Nat.le_of_ble_eq_true rfl) (by decide) (by decide) rfl rfl (pc' := 40) rfl d1_37 ?_
      rintro T61 h63 _ ⟨ob, rfl, szo, Ko, Eo, Fo⟩ X62
      show Go p e below _ (T61.setTop (mkF m 40 #[iv (2 : Int32), rv em, rv vb, iv (7 : Int32), iv (1 : Int32), rv k2] [(.ref ob)]))
      have ne_vb_ob : vb ≠ ob := Nat.ne_of_lt (Nat.lt_of_lt_of_le lt_vb_37 szo)
      have ga_ob : n0 ≤ ob := Nat.le_trans hsz_37 szo
      have A64 := AVb.keep Ko nin0
      refine go_astoreN C X62 41 rfl d1_40 rfl #[iv (2 : Int32), rv ob, rv vb, iv (7 : Int32), iv (1 : Int32), rv k2] rfl ?_
      refine go_iinc C X62 44 rfl d1_41 rfl (z := 1) rfl #[iv (2 : Int32), rv ob, rv vb, iv (7 : Int32), iv (2 : Int32), rv k2] rfl ?_
      refine go_goto C X62 d1_44 (pc' := 14) (by decide) (by decide) ?_
      refine go_iload C X62 16 rfl d1_14 rfl ?_
      refine go_iloadN C X62 17 rfl d1_16 rfl ?_
      refine go_icmp_ge C X62 d1_17 (pc' := 20) (pc2 := 47) rfl (by decide) (by decide) (fun (c17 : 7 ≤ 2) => False.elim (by first | omega | exact absurd c17 (by decide))) (fun (c17 : 2 < 7) => ?_)
      refine go_aloadN C X62 21 rfl d1_20 rfl rfl ?_
      refine go_iload C X62 23 rfl d1_21 rfl ?_
      refine go_aaload C X62 A64 rfl (by decide) (v := (.ref k3)) rfl (pc' := 24) rfl d1_23 ?_
      refine go_astore C X62 26 rfl d1_24 rfl #[iv (2 : Int32), rv ob, rv vb, iv (7 : Int32), iv (2 : Int32), rv k3] rfl ?_
      refine go_aload C X62 28 rfl d1_26 rfl rfl ?_
      refine go_getF C X62 (C.w 31 rfl) Via.refl (FK3.ext X62.old.2) (pc' := 31) rfl d1_28 (fun T65 X66 => ?_)
      refine go_iloadN C X66 32 rfl d1_31 rfl ?_
      refine go_icmp_ne C X66 d1_32 (pc' := 35) (pc2 := 41) rfl (by decide) (by decide) (fun (c32 : ¬ (3 : Int32) = (2 : Int32)) => ?_) (fun (c32 : (3 : Int32) = (2 : Int32)) => False.elim (by first | omega | exact absurd c32 (by decide)))
      refine go_iinc C X66 44 rfl d1_41 rfl (z := 1) rfl #[iv (2 : Int32), rv ob, rv vb, iv (7 : Int32), iv (3 : Int32), rv k3] rfl ?_
      refine go_goto C X66 d1_44 (pc' := 14) (by decide) (by decide) ?_
      refine go_iload C X66 16 rfl d1_14 rfl ?_
      refine go_iloadN C X66 17 rfl d1_16 rfl ?_
      refine go_icmp_ge C X66 d1_17 (pc' := 20) (pc2 := 47) rfl (by decide) (by decide) (fun (c17 : 7 ≤ 3) => False.elim (by first | omega | exact absurd c17 (by decide))) (fun (c17 : 3 < 7) => ?_)
      refine go_aloadN C X66 21 rfl d1_20 rfl rfl ?_
      refine go_iload C X66 23 rfl d1_21 rfl ?_
      refine go_aaload C X66 A64 rfl (by decide) (v := (.ref k4)) rfl (pc' := 24) rfl d1_23 ?_
      refine go_astore C X66 26 rfl d1_24 rfl #[iv (2 : Int32), rv ob, rv vb, iv (7 : Int32), iv (3 : Int32), rv k4] rfl ?_
      refine go_aload C X66 28 rfl d1_26 rfl rfl ?_
      refine go_getF C X66 (C.w 31 rfl) Via.refl (FK4.ext X66.old.2) (pc' := 31) rfl d1_28 (fun T67 X68 => ?_)
      refine go_iloadN C X68 32 rfl d1_31 rfl ?_
      refine go_icmp_ne C X68 d1_32 (pc' := 35) (pc2 := 41) rfl (by decide) (by decide) (fun (c32 : ¬ (4 : Int32) = (2 : Int32)) => ?_) (fun (c32 : (4 : Int32) = (2 : Int32)) => False.elim (by first | omega | exact absurd c32 (by decide)))
      refine go_iinc C X68 44 rfl d1_41 rfl (z := 1) rfl #[iv (2 : Int32), rv ob, rv vb, iv (7 : Int32), iv (4 : Int32), rv k4] rfl ?_
      refine go_goto C X68 d1_44 (pc' := 14) (by decide) (by decide) ?_
      refine go_iload C X68 16 rfl d1_14 rfl ?_
      refine go_iloadN C X68 17 rfl d1_16 rfl ?_
      refine go_icmp_ge C X68 d1_17 (pc' := 20) (pc2 := 47) rfl (by decide) (by decide) (fun (c17 : 7 ≤ 4) => False.elim (by first | omega | exact absurd c17 (by decide))) (fun (c17 : 4 < 7) => ?_)
      refine go_aloadN C X68 21 rfl d1_20 rfl rfl ?_
      refine go_iload C X68 23 rfl d1_21 rfl ?_
      refine go_aaload C X68 A64 rfl (by decide) (v := (.ref k5)) rfl (pc' := 24) rfl d1_23 ?_
      refine go_astore C X68 26 rfl d1_24 rfl #[iv (2 : Int32), rv ob, rv vb, iv (7 : Int32), iv (4 : Int32), rv k5] rfl ?_
      refine go_aload C X68 28 rfl d1_26 rfl rfl ?_
      refine go_getF C X68 (C.w 31 rfl) Via.refl (FK5.ext X68.old.2) (pc' := 31) rfl d1_28 (fun T69 X70 => ?_)
      refine go_iloadN C X70 32 rfl d1_31 rfl ?_
      refine go_icmp_ne C X70 d1_32 (pc' := 35) (pc2 := 41) rfl (by decide) (by decide) (fun (c32 : ¬ (5 : Int32) = (2 : Int32)) => ?_) (fun (c32 : (5 : Int32) = (2 : Int32)) => False.elim (by first | omega | exact absurd c32 (by decide)))
      refine go_iinc C X70 44 rfl d1_41 rfl (z := 1) rfl #[iv (2 : Int32), rv ob, rv vb, iv (7 : Int32), iv (5 : Int32), rv k5] rfl ?_
      refine go_goto C X70 d1_44 (pc' := 14) (by decide) (by decide) ?_
      refine go_iload C X70 16 rfl d1_14 rfl ?_
      refine go_iloadN C X70 17 rfl d1_16 rfl ?_
      refine go_icmp_ge C X70 d1_17 (pc' := 20) (pc2 := 47) rfl (by decide) (by decide) (fun (c17 : 7 ≤ 5) => False.elim (by first | omega | exact absurd c17 (by decide))) (fun (c17 : 5 < 7) => ?_)
      refine go_aloadN C X70 21 rfl d1_20 rfl rfl ?_
      refine go_iload C X70 23 rfl d1_21 rfl ?_
      refine go_aaload C X70 A64 rfl (by decide) (v := (.ref k6)) rfl (pc' := 24) rfl d1_23 ?_
      refine go_astore C X70 26 rfl d1_24 rfl #[iv (2 : Int32), rv ob, rv vb, iv (7 : Int32), iv (5 : Int32), rv k6] rfl ?_
      refine go_aload C X70 28 rfl d1_26 rfl rfl ?_
      refine go_getF C X70 (C.w 31 rfl) Via.refl (FK6.ext X70.old.2) (pc' := 31) rfl d1_28 (fun T71 X72 => ?_)
      refine go_iloadN C X72 32 rfl d1_31 rfl ?_
      refine go_icmp_ne C X72 d1_32 (pc' := 35) (pc2 := 41) rfl (by decide) (by decide) (fun (c32 : ¬ (6 : Int32) = (2 : Int32)) => ?_) (fun (c32 : (6 : Int32) = (2 : Int32)) => False.elim (by first | omega | exact absurd c32 (by decide)))
      refine go_iinc C X72 44 rfl d1_41 rfl (z := 1) rfl #[iv (2 : Int32), rv ob, rv vb, iv (7 : Int32), iv (6 : Int32), rv k6] rfl ?_
      refine go_goto C X72 d1_44 (pc' := 14) (by decide) (by decide) ?_
      refine go_iload C X72 16 rfl d1_14 rfl ?_
      refine go_iloadN C X72 17 rfl d1_16 rfl ?_
      refine go_icmp_ge C X72 d1_17 (pc' := 20) (pc2 := 47) rfl (by decide) (by decide) (fun (c17 : 7 ≤ 6) => False.elim (by first | omega | exact absurd c17 (by decide))) (fun (c17 : 6 < 7) => ?_)
      refine go_aloadN C X72 21 rfl d1_20 rfl rfl ?_
      refine go_iload C X72 23 rfl d1_21 rfl ?_
      refine go_aaload C X72 A64 rfl (by decide) (v := (.ref k7)) rfl (pc' := 24) rfl d1_23 ?_
      refine go_astore C X72 26 rfl d1_24 rfl #[iv (2 : Int32), rv ob, rv vb, iv (7 : Int32), iv (6 : Int32), rv k7] rfl ?_
      refine go_aload C X72 28 rfl d1_26 rfl rfl ?_
      refine go_getF C X72 (C.w 31 rfl) Via.refl (FK7.ext X72.old.2) (pc' := 31) rfl d1_28 (fun T73 X74 => ?_)
      refine go_iloadN C X74 32 rfl d1_31 rfl ?_
      refine go_icmp_ne C X74 d1_32 (pc' := 35) (pc2 := 41) rfl (by decide) (by decide) (fun (c32 : ¬ (7 : Int32) = (2 : Int32)) => ?_) (fun (c32 : (7 : Int32) = (2 : Int32)) => False.elim (by first | omega | exact absurd c32 (by decide)))
      refine go_iinc C X74 44 rfl d1_41 rfl (z := 1) rfl #[iv (2 : Int32), rv ob, rv vb, iv (7 : Int32), iv (7 : Int32), rv k7] rfl ?_
      refine go_goto C X74 d1_44 (pc' := 14) (by decide) (by decide) ?_
      refine go_iload C X74 16 rfl d1_14 rfl ?_
      refine go_iloadN C X74 17 rfl d1_16 rfl ?_
      refine go_icmp_ge C X74 d1_17 (pc' := 20) (pc2 := 47) rfl (by decide) (by decide) (fun (c17 : 7 ≤ 7) => ?_) (fun (c17 : 7 < 7) => False.elim (by first | omega | exact absurd c17 (by decide)))
      refine go_aloadN C X74 48 rfl d1_47 rfl rfl ?_
      exact go_retA C X74 d1_48 rfl rfl ⟨ob, _, rfl, Eo, Fo, by unfold own_kind; rw [if_neg (by decide)]; rw [if_pos rfl]⟩ (by decide) (by decide)
  · subst d1
    refine go_aload C X8 37 rfl d1_35 rfl rfl ?_
    have hsz_37 := X8.sz
    have lt_vb_37 := AVb.lt
    refine go_callS C X8 (C.w 44 rfl) (C.w 45 rfl) (C.w 6 rfl) (C.w 46 rfl) (own_oof l Z a0 C.ws k1 h6 n0 X8.old) (argsL := [(.ref k1)]) (rest := []) (lenOf pd_4 rfl) rfl (by decide) (by decide) (Nat.le_of_ble_eq_true rfl) (by decide) (by decide) rfl rfl (pc' := 40) rfl d1_37 ?_
    rintro T75 h77 _ ⟨ob, rfl, szo, Ko, Eo, Fo⟩ X76
    show Go p e below _ (T75.setTop (mkF m 40 #[iv (1 : Int32), rv em, rv vb, iv (7 : Int32), iv (0 : Int32), rv k1] [(.ref ob)]))
    have ne_vb_ob : vb ≠ ob := Nat.ne_of_lt (Nat.lt_of_lt_of_le lt_vb_37 szo)
    have ga_ob : n0 ≤ ob := Nat.le_trans hsz_37 szo
    have A78 := AVb.keep Ko nin0
    refine go_astoreN C X76 41 rfl d1_40 rfl #[iv (1 : Int32), rv ob, rv vb, iv (7 : Int32), iv (0 : Int32), rv k1] rfl ?_
    refine go_iinc C X76 44 rfl d1_41 rfl (z := 1) rfl #[iv (1 : Int32), rv ob, rv vb, iv (7 : Int32), iv (1 : Int32), rv k1] rfl ?_
    refine go_goto C X76 d1_44 (pc' := 14) (by decide) (by decide) ?_
    refine go_iload C X76 16 rfl d1_14 rfl ?_
    refine go_iloadN C X76 17 rfl d1_16 rfl ?_
    refine go_icmp_ge C X76 d1_17 (pc' := 20) (pc2 := 47) rfl (by decide) (by decide) (fun (c17 : 7 ≤ 1) => False.elim (by first | omega | exact absurd c17 (by decide))) (fun (c17 : 1 < 7) => ?_)
    refine go_aloadN C X76 21 rfl d1_20 rfl rfl ?_
    refine go_iload C X76 23 rfl d1_21 rfl ?_
    refine go_aaload C X76 A78 rfl (by decide) (v := (.ref k2)) rfl (pc' := 24) rfl d1_23 ?_
    refine go_astore C X76 26 rfl d1_24 rfl #[iv (1 : Int32), rv ob, rv vb, iv (7 : Int32), iv (1 : Int32), rv k2] rfl ?_
    refine go_aload C X76 28 rfl d1_26 rfl rfl ?_
    refine go_getF C X76 (C.w 31 rfl) Via.refl (FK2.ext X76.old.2) (pc' := 31) rfl d1_28 (fun T79 X80 => ?_)
    refine go_iloadN C X80 32 rfl d1_31 rfl ?_
    refine go_icmp_ne C X80 d1_32 (pc' := 35) (pc2 := 41) rfl (by decide) (by decide) (fun (c32 : ¬ (2 : Int32) = (1 : Int32)) => ?_) (fun (c32 : (2 : Int32) = (1 : Int32)) => False.elim (by first | omega | exact absurd c32 (by decide)))
    refine go_iinc C X80 44 rfl d1_41 rfl (z := 1) rfl #[iv (1 : Int32), rv ob, rv vb, iv (7 : Int32), iv (2 : Int32), rv k2] rfl ?_
    refine go_goto C X80 d1_44 (pc' := 14) (by decide) (by decide) ?_
    refine go_iload C X80 16 rfl d1_14 rfl ?_
    refine go_iloadN C X80 17 rfl d1_16 rfl ?_
    refine go_icmp_ge C X80 d1_17 (pc' := 20) (pc2 := 47) rfl (by decide) (by decide) (fun (c17 : 7 ≤ 2) => False.elim (by first | omega | exact absurd c17 (by decide))) (fun (c17 : 2 < 7) => ?_)
    refine go_aloadN C X80 21 rfl d1_20 rfl rfl ?_
    refine go_iload C X80 23 rfl d1_21 rfl ?_
    refine go_aaload C X80 A78 rfl (by decide) (v := (.ref k3)) rfl (pc' := 24) rfl d1_23 ?_
    refine go_astore C X80 26 rfl d1_24 rfl #[iv (1 : Int32), rv ob, rv vb, iv (7 : Int32), iv (2 : Int32), rv k3] rfl ?_
    refine go_aload C X80 28 rfl d1_26 rfl rfl ?_
    refine go_getF C X80 (C.w 31 rfl) Via.refl (FK3.ext X80.old.2) (pc' := 31) rfl d1_28 (fun T81 X82 => ?_)
    refine go_iloadN C X82 32 rfl d1_31 rfl ?_
    refine go_icmp_ne C X82 d1_32 (pc' := 35) (pc2 := 41) rfl (by decide) (by decide) (fun (c32 : ¬ (3 : Int32) = (1 : Int32)) => ?_) (fun (c32 : (3 : Int32) = (1 : Int32)) => False.elim (by first | omega | exact absurd c32 (by decide)))
    refine go_iinc C X82 44 rfl d1_41 rfl (z := 1) rfl #[iv (1 : Int32), rv ob, rv vb, iv (7 : Int32), iv (3 : Int32), rv k3] rfl ?_
    refine go_goto C X82 d1_44 (pc' := 14) (by decide) (by decide) ?_
    refine go_iload C X82 16 rfl d1_14 rfl ?_
    refine go_iloadN C X82 17 rfl d1_16 rfl ?_
    refine go_icmp_ge C X82 d1_17 (pc' := 20) (pc2 := 47) rfl (by decide) (by decide) (fun (c17 : 7 ≤ 3) => False.elim (by first | omega | exact absurd c17 (by decide))) (fun (c17 : 3 < 7) => ?_)
    refine go_aloadN C X82 21 rfl d1_20 rfl rfl ?_
    refine go_iload C X82 23 rfl d1_21 rfl ?_
    refine go_aaload C X82 A78 rfl (by decide) (v := (.ref k4)) rfl (pc' := 24) rfl d1_23 ?_
    refine go_astore C X82 26 rfl d1_24 rfl #[iv (1 : Int32), rv ob, rv vb, iv (7 : Int32), iv (3 : Int32), rv k4] rfl ?_
    refine go_aload C X82 28 rfl d1_26 rfl rfl ?_
    refine go_getF C X82 (C.w 31 rfl) Via.refl (FK4.ext X82.old.2) (pc' := 31) rfl d1_28 (fun T83 X84 => ?_)
    refine go_iloadN C X84 32 rfl d1_31 rfl ?_
    refine go_icmp_ne C X84 d1_32 (pc' := 35) (pc2 := 41) rfl (by decide) (by decide) (fun (c32 : ¬ (4 : Int32) = (1 : Int32)) => ?_) (fun (c32 : (4 : Int32) = (1 : Int32)) => False.elim (by first | omega | exact absurd c32 (by decide)))
    refine go_iinc C X84 44 rfl d1_41 rfl (z := 1) rfl #[iv (1 : Int32), rv ob, rv vb, iv (7 : Int32), iv (4 : Int32), rv k4] rfl ?_
    refine go_goto C X84 d1_44 (pc' := 14) (by decide) (by decide) ?_
    refine go_iload C X84 16 rfl d1_14 rfl ?_
    refine go_iloadN C X84 17 rfl d1_16 rfl ?_
    refine go_icmp_ge C X84 d1_17 (pc' := 20) (pc2 := 47) rfl (by decide) (by decide) (fun (c17 : 7 ≤ 4) => False.elim (by first | omega | exact absurd c17 (by decide))) (fun (c17 : 4 < 7) => ?_)
    refine go_aloadN C X84 21 rfl d1_20 rfl rfl ?_
    refine go_iload C X84 23 rfl d1_21 rfl ?_
    refine go_aaload C X84 A78 rfl (by decide) (v := (.ref k5)) rfl (pc' := 24) rfl d1_23 ?_
    refine go_astore C X84 26 rfl d1_24 rfl #[iv (1 : Int32), rv ob, rv vb, iv (7 : Int32), iv (4 : Int32), rv k5] rfl ?_
    refine go_aload C X84 28 rfl d1_26 rfl rfl ?_
    refine go_getF C X84 (C.w 31 rfl) Via.refl (FK5.ext X84.old.2) (pc' := 31) rfl d1_28 (fun T85 X86 => ?_)
    refine go_iloadN C X86 32 rfl d1_31 rfl ?_
    refine go_icmp_ne C X86 d1_32 (pc' := 35) (pc2 := 41) rfl (by decide) (by decide) (fun (c32 : ¬ (5 : Int32) = (1 : Int32)) => ?_) (fun (c32 : (5 : Int32) = (1 : Int32)) => False.elim (by first | omega | exact absurd c32 (by decide)))
    refine go_iinc C X86 44 rfl d1_41 rfl (z := 1) rfl #[iv (1 : Int32), rv ob, rv vb, iv (7 : Int32), iv (5 : Int32), rv k5] rfl ?_
    refine go_goto C X86 d1_44 (pc' := 14) (by decide) (by decide) ?_
    refine go_iload C X86 16 rfl d1_14 rfl ?_
    refine go_iloadN C X86 17 rfl d1_16 rfl ?_
    refine go_icmp_ge C X86 d1_17 (pc' := 20) (pc2 := 47) rfl (by decide) (by decide) (fun (c17 : 7 ≤ 5) => False.elim (by first | omega | exact absurd c17 (by decide))) (fun (c17 : 5 < 7) => ?_)
    refine go_aloadN C X86 21 rfl d1_20 rfl rfl ?_
    refine go_iload C X86 23 rfl d1_21 rfl ?_
    refine go_aaload C X86 A78 rfl (by decide) (v := (.ref k6)) rfl (pc' := 24) rfl d1_23 ?_
    refine go_astore C X86 26 rfl d1_24 rfl #[iv (1 : Int32), rv ob, rv vb, iv (7 : Int32), iv (5 : Int32), rv k6] rfl ?_
    refine go_aload C X86 28 rfl d1_26 rfl rfl ?_
    refine go_getF C X86 (C.w 31 rfl) Via.refl (FK6.ext X86.old.2) (pc' := 31) rfl d1_28 (fun T87 X88 => ?_)
    refine go_iloadN C X88 32 rfl d1_31 rfl ?_
    refine go_icmp_ne C X88 d1_32 (pc' := 35) (pc2 := 41) rfl (by decide) (by decide) (fun (c32 : ¬ (6 : Int32) = (1 : Int32)) => ?_) (fun (c32 : (6 : Int32) = (1 : Int32)) => False.elim (by first | omega | exact absurd c32 (by decide)))
    refine go_iinc C X88 44 rfl d1_41 rfl (z := 1) rfl #[iv (1 : Int32), rv ob, rv vb, iv (7 : Int32), iv (6 : Int32), rv k6] rfl ?_
    refine go_goto C X88 d1_44 (pc' := 14) (by decide) (by decide) ?_
    refine go_iload C X88 16 rfl d1_14 rfl ?_
    refine go_iloadN C X88 17 rfl d1_16 rfl ?_
    refine go_icmp_ge C X88 d1_17 (pc' := 20) (pc2 := 47) rfl (by decide) (by decide) (fun (c17 : 7 ≤ 6) => False.elim (by first | omega | exact absurd c17 (by decide))) (fun (c17 : 6 < 7) => ?_)
    refine go_aloadN C X88 21 rfl d1_20 rfl rfl ?_
    refine go_iload C X88 23 rfl d1_21 rfl ?_
    refine go_aaload C X88 A78 rfl (by decide) (v := (.ref k7)) rfl (pc' := 24) rfl d1_23 ?_
    refine go_astore C X88 26 rfl d1_24 rfl #[iv (1 : Int32), rv ob, rv vb, iv (7 : Int32), iv (6 : Int32), rv k7] rfl ?_
    refine go_aload C X88 28 rfl d1_26 rfl rfl ?_
    refine go_getF C X88 (C.w 31 rfl) Via.refl (FK7.ext X88.old.2) (pc' := 31) rfl d1_28 (fun T89 X90 => ?_)
    refine go_iloadN C X90 32 rfl d1_31 rfl ?_
    refine go_icmp_ne C X90 d1_32 (pc' := 35) (pc2 := 41) rfl (by decide) (by decide) (fun (c32 : ¬ (7 : Int32) = (1 : Int32)) => ?_) (fun (c32 : (7 : Int32) = (1 : Int32)) => False.elim (by first | omega | exact absurd c32 (by decide)))
    refine go_iinc C X90 44 rfl d1_41 rfl (z := 1) rfl #[iv (1 : Int32), rv ob, rv vb, iv (7 : Int32), iv (7 : Int32), rv k7] rfl ?_
    refine go_goto C X90 d1_44 (pc' := 14) (by decide) (by decide) ?_
    refine go_iload C X90 16 rfl d1_14 rfl ?_
    refine go_iloadN C X90 17 rfl d1_16 rfl ?_
    refine go_icmp_ge C X90 d1_17 (pc' := 20) (pc2 := 47) rfl (by decide) (by decide) (fun (c17 : 7 ≤ 7) => ?_) (fun (c17 : 7 < 7) => False.elim (by first | omega | exact absurd c17 (by decide)))
    refine go_aloadN C X90 48 rfl d1_47 rfl rfl ?_
    exact go_retA C X90 d1_48 rfl rfl ⟨ob, _, rfl, Eo, Fo, by unfold own_kind; rw [if_pos rfl]⟩ (by decide) (by decide)
theorem d4_0 : decode method_2_code 0 = .ok (.iload_n 0, 1) := by decide +kernel
theorem d4_1 : decode method_2_code 1 = .ok (.iconst 1, 1) := by decide +kernel
theorem d4_2 : decode method_2_code 2 = .ok (.if_icmp .ne 7, 3) := by decide +kernel
theorem d4_9 : decode method_2_code 9 = .ok (.iload_n 0, 1) := by decide +kernel
theorem d4_10 : decode method_2_code 10 = .ok (.iconst 2, 1) := by decide +kernel
theorem d4_11 : decode method_2_code 11 = .ok (.if_icmp .ne 7, 3) := by decide +kernel
theorem d4_18 : decode method_2_code 18 = .ok (.iload_n 0, 1) := by decide +kernel
theorem d4_19 : decode method_2_code 19 = .ok (.iconst 3, 1) := by decide +kernel
theorem d4_20 : decode method_2_code 20 = .ok (.if_icmp .ne 7, 3) := by decide +kernel
theorem d4_27 : decode method_2_code 27 = .ok (.iload_n 0, 1) := by decide +kernel
theorem d4_28 : decode method_2_code 28 = .ok (.iconst 4, 1) := by decide +kernel
theorem d4_29 : decode method_2_code 29 = .ok (.if_icmp .ne 7, 3) := by decide +kernel
theorem d4_36 : decode method_2_code 36 = .ok (.iload_n 0, 1) := by decide +kernel
theorem d4_37 : decode method_2_code 37 = .ok (.iconst 5, 1) := by decide +kernel
theorem d4_38 : decode method_2_code 38 = .ok (.if_icmp .ne 7, 3) := by decide +kernel
theorem d4_45 : decode method_2_code 45 = .ok (.iload_n 0, 1) := by decide +kernel
theorem d4_46 : decode method_2_code 46 = .ok (.bipush 6, 2) := by decide +kernel
theorem d4_48 : decode method_2_code 48 = .ok (.if_icmp .ne 7, 3) := by decide +kernel
theorem d4_55 : decode method_2_code 55 = .ok (.iload_n 0, 1) := by decide +kernel
theorem d4_56 : decode method_2_code 56 = .ok (.bipush 7, 2) := by decide +kernel
theorem d4_58 : decode method_2_code 58 = .ok (.if_icmp .ne 7, 3) := by decide +kernel
theorem d4_65 : decode method_2_code 65 = .ok (.aconst_null, 1) := by decide +kernel
theorem d4_66 : decode method_2_code 66 = .ok (.areturn, 1) := by decide +kernel
theorem d4_61 : decode method_2_code 61 = .ok (.getstatic 28, 3) := by decide +kernel
theorem d4_64 : decode method_2_code 64 = .ok (.areturn, 1) := by decide +kernel
theorem d4_51 : decode method_2_code 51 = .ok (.getstatic 25, 3) := by decide +kernel
theorem d4_54 : decode method_2_code 54 = .ok (.areturn, 1) := by decide +kernel
theorem d4_41 : decode method_2_code 41 = .ok (.getstatic 22, 3) := by decide +kernel
theorem d4_44 : decode method_2_code 44 = .ok (.areturn, 1) := by decide +kernel
theorem d4_32 : decode method_2_code 32 = .ok (.getstatic 19, 3) := by decide +kernel
theorem d4_35 : decode method_2_code 35 = .ok (.areturn, 1) := by decide +kernel
theorem d4_23 : decode method_2_code 23 = .ok (.getstatic 16, 3) := by decide +kernel
theorem d4_26 : decode method_2_code 26 = .ok (.areturn, 1) := by decide +kernel
theorem d4_14 : decode method_2_code 14 = .ok (.getstatic 13, 3) := by decide +kernel
theorem d4_17 : decode method_2_code 17 = .ok (.areturn, 1) := by decide +kernel
theorem d4_5 : decode method_2_code 5 = .ok (.getstatic 7, 3) := by decide +kernel
theorem d4_8 : decode method_2_code 8 = .ok (.areturn, 1) := by decide +kernel
theorem pn_com_example_rivus_rivus_store_JobKindOfPinLaw : plainName "com/example/rivus/rivus/store/JobKindOfPinLaw" = true := by first | (simp [plainName, overriddenIn]; done) | decide +kernel
theorem ef_own_expected (m : MethodId) (b : Int32) : entryFrame m #[(.int b)] 1 = mkF m 0 #[iv b] [] := by first | (simp [entryFrame, mkF, argsToLocals, Value.category]; done) | rfl
set_option maxRecDepth 65536 in
set_option maxHeartbeats 40000000 in
theorem own_expected (l : Launch) (Z : State) (a0 : Array Value) (hw : ∀ d ∈ tables_1, d.before a0 Z = true) (b : Int32) (k1 k2 k3 k4 k5 k6 k7 : Addr) (h : Heap) (n0 : Nat) (hn0 : Old Z n0 h) (SK1 : Sta Z Z.heap "com/example/rivus/rivus/store/JobKind" "FAN_OUT" "Lcom/example/rivus/rivus/store/JobKind;" (.ref k1)) (SK2 : Sta Z Z.heap "com/example/rivus/rivus/store/JobKind" "DELETE_FAN_OUT" "Lcom/example/rivus/rivus/store/JobKind;" (.ref k2)) (SK3 : Sta Z Z.heap "com/example/rivus/rivus/store/JobKind" "DELIVERY" "Lcom/example/rivus/rivus/store/JobKind;" (.ref k3)) (SK4 : Sta Z Z.heap "com/example/rivus/rivus/store/JobKind" "REFRESHED_FAN_OUT" "Lcom/example/rivus/rivus/store/JobKind;" (.ref k4)) (SK5 : Sta Z Z.heap "com/example/rivus/rivus/store/JobKind" "UPDATE_FAN_OUT" "Lcom/example/rivus/rivus/store/JobKind;" (.ref k5)) (SK6 : Sta Z Z.heap "com/example/rivus/rivus/store/JobKind" "REFRESH_SCHEDULE" "Lcom/example/rivus/rivus/store/JobKind;" (.ref k6)) (SK7 : Sta Z Z.heap "com/example/rivus/rivus/store/JobKind" "REFRESH_LOOKUP" "Lcom/example/rivus/rivus/store/JobKind;" (.ref k7)) :
    Con l Z (⟨"com/example/rivus/rivus/store/JobKindOfPinLaw", "expected", "(I)Lcom/example/rivus/rivus/store/JobKind;"⟩ : MethodName) method_2_code 1 (some (.object "com/example/rivus/rivus/store/JobKind")) ({ frames := 0, cells := 0, slots := 0, locals := 0 } : Room) #[(.int b)] h n0 (fun v h' => v = some (own_kind k1 k2 k3 k4 k5 k6 k7 b) ∧ h = h') := by
  refine con_of hw (plainFor_of_name pn_com_example_rivus_rivus_store_JobKindOfPinLaw) hn0 ?_
  intro p e s m below meth c T0 C X0
  refine Go.cast (congrArg T0.setTop (ef_own_expected m b)) ?_
  refine go_iloadN C X0 1 rfl d4_0 rfl ?_
  refine go_iconst C X0 2 rfl d4_1 (z := 1) rfl ?_
  refine go_icmp_ne C X0 d4_2 (pc' := 5) (pc2 := 9) rfl (by decide) (by decide) (fun (c2 : ¬ b = (1 : Int32)) => ?_) (fun (c2 : b = (1 : Int32)) => ?_)
  · refine go_iloadN C X0 10 rfl d4_9 rfl ?_
    refine go_iconst C X0 11 rfl d4_10 (z := 2) rfl ?_
    refine go_icmp_ne C X0 d4_11 (pc' := 14) (pc2 := 18) rfl (by decide) (by decide) (fun (c11 : ¬ b = (2 : Int32)) => ?_) (fun (c11 : b = (2 : Int32)) => ?_)
    · refine go_iloadN C X0 19 rfl d4_18 rfl ?_
      refine go_iconst C X0 20 rfl d4_19 (z := 3) rfl ?_
      refine go_icmp_ne C X0 d4_20 (pc' := 23) (pc2 := 27) rfl (by decide) (by decide) (fun (c20 : ¬ b = (3 : Int32)) => ?_) (fun (c20 : b = (3 : Int32)) => ?_)
      · refine go_iloadN C X0 28 rfl d4_27 rfl ?_
        refine go_iconst C X0 29 rfl d4_28 (z := 4) rfl ?_
        refine go_icmp_ne C X0 d4_29 (pc' := 32) (pc2 := 36) rfl (by decide) (by decide) (fun (c29 : ¬ b = (4 : Int32)) => ?_) (fun (c29 : b = (4 : Int32)) => ?_)
        · refine go_iloadN C X0 37 rfl d4_36 rfl ?_
          refine go_iconst C X0 38 rfl d4_37 (z := 5) rfl ?_
          refine go_icmp_ne C X0 d4_38 (pc' := 41) (pc2 := 45) rfl (by decide) (by decide) (fun (c38 : ¬ b = (5 : Int32)) => ?_) (fun (c38 : b = (5 : Int32)) => ?_)
          · refine go_iloadN C X0 46 rfl d4_45 rfl ?_
            refine go_bipush C X0 48 rfl d4_46 (z := 6) rfl ?_
            refine go_icmp_ne C X0 d4_48 (pc' := 51) (pc2 := 55) rfl (by decide) (by decide) (fun (c48 : ¬ b = (6 : Int32)) => ?_) (fun (c48 : b = (6 : Int32)) => ?_)
            · refine go_iloadN C X0 56 rfl d4_55 rfl ?_
              refine go_bipush C X0 58 rfl d4_56 (z := 7) rfl ?_
              refine go_icmp_ne C X0 d4_58 (pc' := 61) (pc2 := 65) rfl (by decide) (by decide) (fun (c58 : ¬ b = (7 : Int32)) => ?_) (fun (c58 : b = (7 : Int32)) => ?_)
              · refine go_aconstNull C X0 66 rfl d4_65 ?_
                exact go_retA C X0 d4_66 rfl rfl ⟨by unfold own_kind; rw [if_neg c2]; rw [if_neg c11]; rw [if_neg c20]; rw [if_neg c29]; rw [if_neg c38]; rw [if_neg c48]; rw [if_neg c58], rfl⟩ (by decide) (by decide)
              · refine go_getS C X0 (C.w 73 rfl) (SK7.ext X0.old.2) (pc' := 64) rfl d4_61 (fun T1 X2 => ?_)
                exact go_retA C X2 d4_64 rfl rfl ⟨by unfold own_kind; rw [if_neg c2]; rw [if_neg c11]; rw [if_neg c20]; rw [if_neg c29]; rw [if_neg c38]; rw [if_neg c48]; rw [if_pos c58], rfl⟩ (by decide) (by decide)
            · refine go_getS C X0 (C.w 76 rfl) (SK6.ext X0.old.2) (pc' := 54) rfl d4_51 (fun T3 X4 => ?_)
              exact go_retA C X4 d4_54 rfl rfl ⟨by unfold own_kind; rw [if_neg c2]; rw [if_neg c11]; rw [if_neg c20]; rw [if_neg c29]; rw [if_neg c38]; rw [if_pos c48], rfl⟩ (by decide) (by decide)
          · refine go_getS C X0 (C.w 77 rfl) (SK5.ext X0.old.2) (pc' := 44) rfl d4_41 (fun T5 X6 => ?_)
            exact go_retA C X6 d4_44 rfl rfl ⟨by unfold own_kind; rw [if_neg c2]; rw [if_neg c11]; rw [if_neg c20]; rw [if_neg c29]; rw [if_pos c38], rfl⟩ (by decide) (by decide)
        · refine go_getS C X0 (C.w 78 rfl) (SK4.ext X0.old.2) (pc' := 35) rfl d4_32 (fun T7 X8 => ?_)
          exact go_retA C X8 d4_35 rfl rfl ⟨by unfold own_kind; rw [if_neg c2]; rw [if_neg c11]; rw [if_neg c20]; rw [if_pos c29], rfl⟩ (by decide) (by decide)
      · refine go_getS C X0 (C.w 60 rfl) (SK3.ext X0.old.2) (pc' := 26) rfl d4_23 (fun T9 X10 => ?_)
        exact go_retA C X10 d4_26 rfl rfl ⟨by unfold own_kind; rw [if_neg c2]; rw [if_neg c11]; rw [if_pos c20], rfl⟩ (by decide) (by decide)
    · refine go_getS C X0 (C.w 74 rfl) (SK2.ext X0.old.2) (pc' := 17) rfl d4_14 (fun T11 X12 => ?_)
      exact go_retA C X12 d4_17 rfl rfl ⟨by unfold own_kind; rw [if_neg c2]; rw [if_pos c11], rfl⟩ (by decide) (by decide)
  · refine go_getS C X0 (C.w 75 rfl) (SK1.ext X0.old.2) (pc' := 8) rfl d4_5 (fun T13 X14 => ?_)
    exact go_retA C X14 d4_8 rfl rfl ⟨by unfold own_kind; rw [if_pos c2], rfl⟩ (by decide) (by decide)
theorem d5_0 : decode jdk_32_method_6_code 0 = .ok (.aload_n 0, 1) := by decide +kernel
theorem d5_1 : decode jdk_32_method_6_code 1 = .ok (.getfield 13, 3) := by decide +kernel
theorem d5_4 : decode jdk_32_method_6_code 4 = .ok (.ifnull 7, 3) := by decide +kernel
theorem d5_11 : decode jdk_32_method_6_code 11 = .ok (.iconst 0, 1) := by decide +kernel
theorem d5_12 : decode jdk_32_method_6_code 12 = .ok (.ireturn, 1) := by decide +kernel
theorem ef_own_isP_n (m : MethodId) (a : Addr) : entryFrame m #[(.ref a)] 1 = mkF m 0 #[rv a] [] := by first | (simp [entryFrame, mkF, argsToLocals, Value.category]; done) | rfl
set_option maxRecDepth 65536 in
set_option maxHeartbeats 40000000 in
theorem own_isP_n (l : Launch) (Z : State) (a0 : Array Value) (hw : ∀ d ∈ tables_1, d.before a0 Z = true) (a : Addr)  (h : Heap) (n0 : Nat) (hn0 : Old Z n0 h) (F1 : Fld Z h a "java/util/Optional" "value" "Ljava/lang/Object;" .null) :
    Con l Z (⟨"java/util/Optional", "isPresent", "()Z"⟩ : MethodName) jdk_32_method_6_code 1 (some .boolean) ({ frames := 0, cells := 0, slots := 0, locals := 0 } : Room) #[(.ref a)] h n0 (fun v h' => v = some (.int 0) ∧ h = h') := by
  refine con_of hw (plainFor_of_name pn_java_util_Optional) hn0 ?_
  intro p e s m below meth c T0 C X0
  refine Go.cast (congrArg T0.setTop (ef_own_isP_n m a)) ?_
  refine go_aloadN C X0 1 rfl d5_0 rfl rfl ?_
  refine go_getF C X0 (C.w 42 rfl) Via.refl F1 (pc' := 4) rfl d5_1 (fun T1 X2 => ?_)
  refine go_ifnull_n C X2 d5_4 (pc2 := 11) (by decide) (by decide) ?_
  refine go_iconst C X2 12 rfl d5_11 (z := 0) rfl ?_
  exact go_retN C X2 (by simp) (z' := 0) rfl d5_12 ⟨rfl, rfl⟩ (by decide) (by decide)
theorem d5_7 : decode jdk_32_method_6_code 7 = .ok (.iconst 1, 1) := by decide +kernel
theorem d5_8 : decode jdk_32_method_6_code 8 = .ok (.goto 4, 3) := by decide +kernel
theorem ef_own_isP_r (m : MethodId) (a : Addr) : entryFrame m #[(.ref a)] 1 = mkF m 0 #[rv a] [] := by first | (simp [entryFrame, mkF, argsToLocals, Value.category]; done) | rfl
set_option maxRecDepth 65536 in
set_option maxHeartbeats 40000000 in
theorem own_isP_r (l : Launch) (Z : State) (a0 : Array Value) (hw : ∀ d ∈ tables_1, d.before a0 Z = true) (a : Addr) (x : Addr) (h : Heap) (n0 : Nat) (hn0 : Old Z n0 h) (F1 : Fld Z h a "java/util/Optional" "value" "Ljava/lang/Object;" (.ref x)) :
    Con l Z (⟨"java/util/Optional", "isPresent", "()Z"⟩ : MethodName) jdk_32_method_6_code 1 (some .boolean) ({ frames := 0, cells := 0, slots := 0, locals := 0 } : Room) #[(.ref a)] h n0 (fun v h' => v = some (.int 1) ∧ h = h') := by
  refine con_of hw (plainFor_of_name pn_java_util_Optional) hn0 ?_
  intro p e s m below meth c T0 C X0
  refine Go.cast (congrArg T0.setTop (ef_own_isP_r m a)) ?_
  refine go_aloadN C X0 1 rfl d5_0 rfl rfl ?_
  refine go_getF C X0 (C.w 42 rfl) Via.refl F1 (pc' := 4) rfl d5_1 (fun T1 X2 => ?_)
  refine go_ifnull_r C X2 (pc' := 7) rfl d5_4 ?_
  refine go_iconst C X2 8 rfl d5_7 (z := 1) rfl ?_
  refine go_goto C X2 d5_8 (pc' := 12) (by decide) (by decide) ?_
  exact go_retN C X2 (by simp) (z' := 1) rfl d5_12 ⟨rfl, rfl⟩ (by decide) (by decide)
theorem d10_0 : decode jdk_32_method_5_code 0 = .ok (.aload_n 0, 1) := by decide +kernel
theorem d10_1 : decode jdk_32_method_5_code 1 = .ok (.getfield 13, 3) := by decide +kernel
theorem d10_4 : decode jdk_32_method_5_code 4 = .ok (.ifnonnull 13, 3) := by decide +kernel
theorem d10_17 : decode jdk_32_method_5_code 17 = .ok (.aload_n 0, 1) := by decide +kernel
theorem d10_18 : decode jdk_32_method_5_code 18 = .ok (.getfield 13, 3) := by decide +kernel
theorem d10_21 : decode jdk_32_method_5_code 21 = .ok (.areturn, 1) := by decide +kernel
theorem ef_own_get (m : MethodId) (a : Addr) : entryFrame m #[(.ref a)] 1 = mkF m 0 #[rv a] [] := by first | (simp [entryFrame, mkF, argsToLocals, Value.category]; done) | rfl
set_option maxRecDepth 65536 in
set_option maxHeartbeats 40000000 in
theorem own_get (l : Launch) (Z : State) (a0 : Array Value) (hw : ∀ d ∈ tables_1, d.before a0 Z = true) (a : Addr) (x : Addr) (h : Heap) (n0 : Nat) (hn0 : Old Z n0 h) (F1 : Fld Z h a "java/util/Optional" "value" "Ljava/lang/Object;" (.ref x)) :
    Con l Z (⟨"java/util/Optional", "get", "()Ljava/lang/Object;"⟩ : MethodName) jdk_32_method_5_code 1 (some (.object "java/lang/Object")) ({ frames := 0, cells := 0, slots := 0, locals := 0 } : Room) #[(.ref a)] h n0 (fun v h' => v = some (.ref x) ∧ h = h') := by
  refine con_of hw (plainFor_of_name pn_java_util_Optional) hn0 ?_
  intro p e s m below meth c T0 C X0
  refine Go.cast (congrArg T0.setTop (ef_own_get m a)) ?_
  refine go_aloadN C X0 1 rfl d10_0 rfl rfl ?_
  refine go_getF C X0 (C.w 42 rfl) Via.refl F1 (pc' := 4) rfl d10_1 (fun T1 X2 => ?_)
  refine go_ifnonnull_r C X2 d10_4 (pc2 := 17) (by decide) (by decide) ?_
  refine go_aloadN C X2 18 rfl d10_17 rfl rfl ?_
  refine go_getF C X2 (C.w 42 rfl) Via.refl F1 (pc' := 21) rfl d10_18 (fun T3 X4 => ?_)
  exact go_retA C X4 d10_21 rfl rfl ⟨rfl, rfl⟩ (by decide) (by decide)
theorem d11_0 : decode prog_34_method_4_code 0 = .ok (.aload_n 0, 1) := by decide +kernel
theorem d11_1 : decode prog_34_method_4_code 1 = .ok (.getfield 44, 3) := by decide +kernel
theorem d11_4 : decode prog_34_method_4_code 4 = .ok (.ireturn, 1) := by decide +kernel
theorem ef_own_code (m : MethodId) (a : Addr) : entryFrame m #[(.ref a)] 1 = mkF m 0 #[rv a] [] := by first | (simp [entryFrame, mkF, argsToLocals, Value.category]; done) | rfl
set_option maxRecDepth 65536 in
set_option maxHeartbeats 40000000 in
theorem own_code (l : Launch) (Z : State) (a0 : Array Value) (hw : ∀ d ∈ tables_1, d.before a0 Z = true) (a : Addr) (z : Int32) (h : Heap) (n0 : Nat) (hn0 : Old Z n0 h) (F1 : Fld Z h a "com/example/rivus/rivus/store/JobKind" "code" "B" (.int z)) (hz : nar .byte z = z) :
    Con l Z (⟨"com/example/rivus/rivus/store/JobKind", "code", "()B"⟩ : MethodName) prog_34_method_4_code 1 (some .byte) ({ frames := 0, cells := 0, slots := 0, locals := 0 } : Room) #[(.ref a)] h n0 (fun v h' => v = some (.int z) ∧ h = h') := by
  refine con_of hw (plainFor_of_name pn_com_example_rivus_rivus_store_JobKind) hn0 ?_
  intro p e s m below meth c T0 C X0
  refine Go.cast (congrArg T0.setTop (ef_own_code m a)) ?_
  refine go_aloadN C X0 1 rfl d11_0 rfl rfl ?_
  refine go_getF C X0 (C.w 31 rfl) Via.refl F1 (pc' := 4) rfl d11_1 (fun T1 X2 => ?_)
  exact go_retN C X2 (by simp) rfl d11_4 ⟨by rw [hz], rfl⟩ (by decide) (by decide)
theorem own_kind_cases {Z : State} {k1 k2 k3 k4 k5 k6 k7 : Addr} (b : Int32) (EK1 : Exa Z Z.heap k1 "com/example/rivus/rivus/store/JobKind") (FK1 : Fld Z Z.heap k1 "com/example/rivus/rivus/store/JobKind" "code" "B" (.int 1)) (EK2 : Exa Z Z.heap k2 "com/example/rivus/rivus/store/JobKind") (FK2 : Fld Z Z.heap k2 "com/example/rivus/rivus/store/JobKind" "code" "B" (.int 2)) (EK3 : Exa Z Z.heap k3 "com/example/rivus/rivus/store/JobKind") (FK3 : Fld Z Z.heap k3 "com/example/rivus/rivus/store/JobKind" "code" "B" (.int 3)) (EK4 : Exa Z Z.heap k4 "com/example/rivus/rivus/store/JobKind") (FK4 : Fld Z Z.heap k4 "com/example/rivus/rivus/store/JobKind" "code" "B" (.int 4)) (EK5 : Exa Z Z.heap k5 "com/example/rivus/rivus/store/JobKind") (FK5 : Fld Z Z.heap k5 "com/example/rivus/rivus/store/JobKind" "code" "B" (.int 5)) (EK6 : Exa Z Z.heap k6 "com/example/rivus/rivus/store/JobKind") (FK6 : Fld Z Z.heap k6 "com/example/rivus/rivus/store/JobKind" "code" "B" (.int 6)) (EK7 : Exa Z Z.heap k7 "com/example/rivus/rivus/store/JobKind") (FK7 : Fld Z Z.heap k7 "com/example/rivus/rivus/store/JobKind" "code" "B" (.int 7)) : own_kind k1 k2 k3 k4 k5 k6 k7 b = .null ∨ ∃ a : Addr, own_kind k1 k2 k3 k4 k5 k6 k7 b = .ref a ∧ Exa Z Z.heap a "com/example/rivus/rivus/store/JobKind" ∧ Fld Z Z.heap a "com/example/rivus/rivus/store/JobKind" "code" "B" (.int b) ∧ nar .byte b = b := by
  unfold own_kind
  by_cases q1 : b = 1
  · subst q1; exact Or.inr ⟨k1, by rw [if_pos rfl], EK1, FK1, rfl⟩
  by_cases q2 : b = 2
  · subst q2; exact Or.inr ⟨k2, by rw [if_neg (by decide)]; rw [if_pos rfl], EK2, FK2, rfl⟩
  by_cases q3 : b = 3
  · subst q3; exact Or.inr ⟨k3, by rw [if_neg (by decide)]; rw [if_neg (by decide)]; rw [if_pos rfl], EK3, FK3, rfl⟩
  by_cases q4 : b = 4
  · subst q4; exact Or.inr ⟨k4, by rw [if_neg (by decide)]; rw [if_neg (by decide)]; rw [if_neg (by decide)]; rw [if_pos rfl], EK4, FK4, rfl⟩
  by_cases q5 : b = 5
  · subst q5; exact Or.inr ⟨k5, by rw [if_neg (by decide)]; rw [if_neg (by decide)]; rw [if_neg (by decide)]; rw [if_neg (by decide)]; rw [if_pos rfl], EK5, FK5, rfl⟩
  by_cases q6 : b = 6
  · subst q6; exact Or.inr ⟨k6, by rw [if_neg (by decide)]; rw [if_neg (by decide)]; rw [if_neg (by decide)]; rw [if_neg (by decide)]; rw [if_neg (by decide)]; rw [if_pos rfl], EK6, FK6, rfl⟩
  by_cases q7 : b = 7
  · subst q7; exact Or.inr ⟨k7, by rw [if_neg (by decide)]; rw [if_neg (by decide)]; rw [if_neg (by decide)]; rw [if_neg (by decide)]; rw [if_neg (by decide)]; rw [if_neg (by decide)]; rw [if_pos rfl], EK7, FK7, rfl⟩
  exact Or.inl (by rw [if_neg q1]; rw [if_neg q2]; rw [if_neg q3]; rw [if_neg q4]; rw [if_neg q5]; rw [if_neg q6]; rw [if_neg q7])
theorem pd_5 : parseMethodDescriptor "(B)Ljava/util/Optional;" = some ⟨[.byte], some (.object "java/util/Optional")⟩ := by decide +kernel
theorem pd_6 : parseMethodDescriptor "(I)Lcom/example/rivus/rivus/store/JobKind;" = some ⟨[.int], some (.object "com/example/rivus/rivus/store/JobKind")⟩ := by decide +kernel
theorem pd_7 : parseMethodDescriptor "()Z" = some ⟨[], some .boolean⟩ := by decide +kernel
theorem pd_8 : parseMethodDescriptor "()Ljava/lang/Object;" = some ⟨[], some (.object "java/lang/Object")⟩ := by decide +kernel
theorem pd_9 : parseMethodDescriptor "()B" = some ⟨[], some .byte⟩ := by decide +kernel
theorem ef_own_law (m : MethodId) (c1 : Int32) : entryFrame m #[(.int c1)] maxLocals = mkF m 0 #[iv c1, un, un, un, un] [] := by first | (simp [entryFrame, mkF, argsToLocals, Value.category, maxLocals]; done) | rfl
set_option maxRecDepth 65536 in
set_option maxHeartbeats 40000000 in
theorem own_law (l : Launch) (Z : State) (a0 : Array Value) (hw : ∀ d ∈ tables_1, d.before a0 Z = true) (c1 : Int32) (em va k1 k2 k3 k4 k5 k6 k7 : Addr) (h : Heap) (n0 : Nat) (hn0 : Old Z n0 h) (SE : Sta Z Z.heap "java/util/Optional" "EMPTY" "Ljava/util/Optional;" (.ref em)) (EE : Exa Z Z.heap em "java/util/Optional") (FE : Fld Z Z.heap em "java/util/Optional" "value" "Ljava/lang/Object;" .null) (SV : Sta Z Z.heap "com/example/rivus/rivus/store/JobKind" "$VALUES" "[Lcom/example/rivus/rivus/store/JobKind;" (.ref va)) (AV : La Z Z.heap va (.object "com/example/rivus/rivus/store/JobKind") [.ref k1, .ref k2, .ref k3, .ref k4, .ref k5, .ref k6, .ref k7]) (EV : Exa Z Z.heap va "[Lcom/example/rivus/rivus/store/JobKind;") (EK1 : Exa Z Z.heap k1 "com/example/rivus/rivus/store/JobKind") (FK1 : Fld Z Z.heap k1 "com/example/rivus/rivus/store/JobKind" "code" "B" (.int 1)) (EK2 : Exa Z Z.heap k2 "com/example/rivus/rivus/store/JobKind") (FK2 : Fld Z Z.heap k2 "com/example/rivus/rivus/store/JobKind" "code" "B" (.int 2)) (EK3 : Exa Z Z.heap k3 "com/example/rivus/rivus/store/JobKind") (FK3 : Fld Z Z.heap k3 "com/example/rivus/rivus/store/JobKind" "code" "B" (.int 3)) (EK4 : Exa Z Z.heap k4 "com/example/rivus/rivus/store/JobKind") (FK4 : Fld Z Z.heap k4 "com/example/rivus/rivus/store/JobKind" "code" "B" (.int 4)) (EK5 : Exa Z Z.heap k5 "com/example/rivus/rivus/store/JobKind") (FK5 : Fld Z Z.heap k5 "com/example/rivus/rivus/store/JobKind" "code" "B" (.int 5)) (EK6 : Exa Z Z.heap k6 "com/example/rivus/rivus/store/JobKind") (FK6 : Fld Z Z.heap k6 "com/example/rivus/rivus/store/JobKind" "code" "B" (.int 6)) (EK7 : Exa Z Z.heap k7 "com/example/rivus/rivus/store/JobKind") (FK7 : Fld Z Z.heap k7 "com/example/rivus/rivus/store/JobKind" "code" "B" (.int 7)) (SK1 : Sta Z Z.heap "com/example/rivus/rivus/store/JobKind" "FAN_OUT" "Lcom/example/rivus/rivus/store/JobKind;" (.ref k1)) (SK2 : Sta Z Z.heap "com/example/rivus/rivus/store/JobKind" "DELETE_FAN_OUT" "Lcom/example/rivus/rivus/store/JobKind;" (.ref k2)) (SK3 : Sta Z Z.heap "com/example/rivus/rivus/store/JobKind" "DELIVERY" "Lcom/example/rivus/rivus/store/JobKind;" (.ref k3)) (SK4 : Sta Z Z.heap "com/example/rivus/rivus/store/JobKind" "REFRESHED_FAN_OUT" "Lcom/example/rivus/rivus/store/JobKind;" (.ref k4)) (SK5 : Sta Z Z.heap "com/example/rivus/rivus/store/JobKind" "UPDATE_FAN_OUT" "Lcom/example/rivus/rivus/store/JobKind;" (.ref k5)) (SK6 : Sta Z Z.heap "com/example/rivus/rivus/store/JobKind" "REFRESH_SCHEDULE" "Lcom/example/rivus/rivus/store/JobKind;" (.ref k6)) (SK7 : Sta Z Z.heap "com/example/rivus/rivus/store/JobKind" "REFRESH_LOOKUP" "Lcom/example/rivus/rivus/store/JobKind;" (.ref k7)) :
    Con l Z x code maxLocals ret room_1 #[(.int c1)] h n0 (fun v h' => v = some (.int 1)) := by
  refine con_of hw (plainFor_of_name pn_com_example_rivus_rivus_store_JobKindOfPinLaw) hn0 ?_
  intro p e s m below meth c T0 C X0
  refine Go.cast (congrArg T0.setTop (ef_own_law m c1)) ?_
  refine go_iloadN C X0 1 rfl at_0 rfl ?_
  refine go_i2b C X0 2 rfl at_1 ?_
  refine go_istoreN C X0 3 rfl at_2 #[iv c1, iv (c1.toInt8.toInt32), un, un, un] rfl ?_
  generalize ebb : (c1.toInt8.toInt32) = bb
  refine go_iloadN C X0 4 rfl at_3 rfl ?_
  refine go_callS C X0 (C.w 0 rfl) (C.w 1 rfl) (C.w 2 rfl) (C.w 3 rfl) (own_of l Z a0 C.ws bb em va k1 k2 k3 k4 k5 k6 k7 h n0 X0.old SE EE FE SV AV EV EK1 FK1 EK2 FK2 EK3 FK3 EK4 FK4 EK5 FK5 EK6 FK6 EK7 FK7) (argsL := [(.int bb)]) (rest := []) (lenOf pd_5 rfl) rfl (by decide) (by decide) (Nat.le_of_ble_eq_true rfl) (by decide) (by decide) rfl rfl (pc' := 7) rfl at_4 ?_
  rintro T1 h3 _ ⟨o1, u1, rfl, Eo1, Fo1, eu1⟩ X2
  show Go p e below _ (T1.setTop (mkF m 7 #[iv c1, iv bb, un, un, un] [(.ref o1)]))
  refine go_astoreN C X2 8 rfl at_7 rfl #[iv c1, iv bb, rv o1, un, un] rfl ?_
  refine go_iloadN C X2 9 rfl at_8 rfl ?_
  refine go_callS C X2 (C.w 33 rfl) (C.w 34 rfl) (C.w 35 rfl) (C.w 36 rfl) (own_expected l Z a0 C.ws bb k1 k2 k3 k4 k5 k6 k7 h3 n0 X2.old SK1 SK2 SK3 SK4 SK5 SK6 SK7) (argsL := [(.int bb)]) (rest := []) (lenOf pd_6 rfl) rfl (by decide) (by decide) (Nat.le_of_ble_eq_true rfl) (by decide) (by decide) rfl rfl (pc' := 12) rfl at_9 ?_
  rintro T4 _ _ ⟨rfl, rfl⟩ X5
  show Go p e below _ (T4.setTop (mkF m 12 #[iv c1, iv bb, rv o1, un, un] [(own_kind k1 k2 k3 k4 k5 k6 k7 bb)]))
  refine go_astoreN C X5 13 rfl at_12 (own_kind_ref k1 k2 k3 k4 k5 k6 k7 bb) #[iv c1, iv bb, rv o1, .val (own_kind k1 k2 k3 k4 k5 k6 k7 bb), un] (own_st5 (own_kind_ref k1 k2 k3 k4 k5 k6 k7 bb)) ?_
  have hc := own_kind_cases (Z := Z) bb EK1 FK1 EK2 FK2 EK3 FK3 EK4 FK4 EK5 FK5 EK6 FK6 EK7 FK7
  rcases hc with hc | ⟨ka, hc, EX, FX, hz⟩
  · rw [hc] at eu1
    subst eu1
    rw [hc]
    refine go_aloadN C X5 14 rfl at_13 rfl rfl ?_
    refine go_ifnonnull_n C X5 (pc' := 17) rfl at_14 ?_
    refine go_aloadN C X5 18 rfl at_17 rfl rfl ?_
    refine go_virtual C X5 Eo1 (C.w 37 rfl) (C.w 38 rfl) (notFace_of_selects (args := #[]) (mvT C.hZ (C.w 40 rfl))) (C.w 40 rfl) (C.w 39 rfl) (C.w 6 rfl) (C.w 41 rfl) (own_isP_n l Z a0 C.ws o1 h3 n0 X5.old Fo1) (argsL := []) (rest := []) (lenOf pd_7 rfl) rfl (by decide) (by decide) (Nat.le_of_ble_eq_true rfl) (by decide) (by decide) rfl rfl (pc' := 21) rfl at_18 ?_
    rintro T7 _ _ ⟨rfl, rfl⟩ X8
    show Go p e below _ (T7.setTop (mkF m 21 #[iv c1, iv bb, rv o1, .val .null, un] [(.int (0 : Int32))]))
    refine go_if_ne C X8 at_21 (pc' := 24) (pc2 := 28) rfl (by decide) (by decide) (fun (c21 : ¬ (0 : Int32) = (0 : Int32)) => False.elim (by first | omega | exact absurd c21 (by decide))) (fun (c21 : (0 : Int32) = (0 : Int32)) => ?_)
    refine go_iconst C X8 25 rfl at_24 (z := 1) rfl ?_
    refine go_goto C X8 at_25 (pc' := 29) (by decide) (by decide) ?_
    exact go_retN C X8 (by simp) (z' := 1) rfl at_29 rfl (by decide) (by decide)
  · rw [hc] at eu1
    subst eu1
    rw [hc]
    refine go_aloadN C X5 14 rfl at_13 rfl rfl ?_
    refine go_ifnonnull_r C X5 at_14 (pc2 := 30) (by decide) (by decide) ?_
    refine go_aloadN C X5 31 rfl at_30 rfl rfl ?_
    refine go_virtual C X5 Eo1 (C.w 37 rfl) (C.w 38 rfl) (notFace_of_selects (args := #[]) (mvT C.hZ (C.w 40 rfl))) (C.w 40 rfl) (C.w 39 rfl) (C.w 6 rfl) (C.w 41 rfl) (own_isP_r l Z a0 C.ws o1 ka h3 n0 X5.old Fo1) (argsL := []) (rest := []) (lenOf pd_7 rfl) rfl (by decide) (by decide) (Nat.le_of_ble_eq_true rfl) (by decide) (by decide) rfl rfl (pc' := 34) rfl at_31 ?_
    rintro T10 _ _ ⟨rfl, rfl⟩ X11
    show Go p e below _ (T10.setTop (mkF m 34 #[iv c1, iv bb, rv o1, rv ka, un] [(.int (1 : Int32))]))
    refine go_if_ne C X11 at_34 (pc' := 37) (pc2 := 39) rfl (by decide) (by decide) (fun (c34 : ¬ (1 : Int32) = (0 : Int32)) => ?_) (fun (c34 : (1 : Int32) = (0 : Int32)) => False.elim (by first | omega | exact absurd c34 (by decide)))
    refine go_aloadN C X11 40 rfl at_39 rfl rfl ?_
    refine go_virtual C X11 Eo1 (C.w 61 rfl) (C.w 62 rfl) (notFace_of_selects (args := #[]) (mvT C.hZ (C.w 64 rfl))) (C.w 64 rfl) (C.w 63 rfl) (C.w 6 rfl) (C.w 65 rfl) (own_get l Z a0 C.ws o1 ka h3 n0 X11.old Fo1) (argsL := []) (rest := []) (lenOf pd_8 rfl) rfl (by decide) (by decide) (Nat.le_of_ble_eq_true rfl) (by decide) (by decide) rfl rfl (pc' := 43) rfl at_40 ?_
    rintro T13 _ _ ⟨rfl, rfl⟩ X14
    show Go p e below _ (T13.setTop (mkF m 43 #[iv c1, iv bb, rv o1, rv ka, un] [(.ref ka)]))
    refine go_cast C X14 (C.w 66 rfl) (Ins.self (EX.ext X14.old.2)) (pc' := 46) rfl at_43 (fun T16 X17 => ?_)
    refine go_astore C X17 48 rfl at_46 rfl #[iv c1, iv bb, rv o1, rv ka, rv ka] rfl ?_
    refine go_aload C X17 50 rfl at_48 rfl rfl ?_
    refine go_aloadN C X17 51 rfl at_50 rfl rfl ?_
    refine go_acmp_ne C X17 rfl rfl at_51 (pc' := 54) (pc2 := 67) rfl (by decide) (by decide) (fun (c51 : ¬ ((.ref ka) : Value) = (.ref ka)) => False.elim (c51 rfl)) (fun (c51 : ((.ref ka) : Value) = (.ref ka)) => ?_)
    refine go_aload C X17 56 rfl at_54 rfl rfl ?_
    refine go_virtual C X17 (EX.ext X17.old.2) (C.w 68 rfl) (C.w 69 rfl) (notFace_of_selects (args := #[]) (mvT C.hZ (C.w 71 rfl))) (C.w 71 rfl) (C.w 70 rfl) (C.w 2 rfl) (C.w 72 rfl) (own_code l Z a0 C.ws ka bb h3 n0 X17.old (FX.ext X17.old.2) hz) (argsL := []) (rest := []) (lenOf pd_9 rfl) rfl (by decide) (by decide) (Nat.le_of_ble_eq_true rfl) (by decide) (by decide) rfl rfl (pc' := 59) rfl at_56 ?_
    rintro T18 _ _ ⟨rfl, rfl⟩ X19
    show Go p e below _ (T18.setTop (mkF m 59 #[iv c1, iv bb, rv o1, rv ka, rv ka] [(.int bb)]))
    refine go_iloadN C X19 60 rfl at_59 rfl ?_
    refine go_icmp_ne C X19 at_60 (pc' := 63) (pc2 := 67) rfl (by decide) (by decide) (fun (c60 : ¬ bb = bb) => False.elim (by first | exact c60 rfl | omega)) (fun (c60 : bb = bb) => ?_)
    refine go_iconst C X19 64 rfl at_63 (z := 1) rfl ?_
    refine go_goto C X19 at_64 (pc' := 68) (by decide) (by decide) ?_
    exact go_retN C X19 (by simp) (z' := 1) rfl at_68 rfl (by decide) (by decide)
set_option maxRecDepth 65536 in
set_option maxHeartbeats 40000000 in
theorem comes_1 {Post : Tables → Env → Array Value → State → Outcome → State → Prop} (hpost : ∀ tb e args s v u, (limb_1_1.after args s (.returned v) u = true ∧ limb_1_2.after args s (.returned v) u = true ∧ True) → FrameEnd s (.returned v) u (Jvm.fieldLocs frame_1_writes args s ++ Jvm.arrayLocs frame_1_arrays args s ++ Jvm.staticLocs frame_1_statics s) 16 128 → Post tb e args s (.returned v) u) :
    ArmFor flags0 classFile x code maxLocals ret World_1 tables_1 room_1 Calls_1 rest_1 Pre_1 Post := by
  intro l hfl _ _ p e ha hc hk s m args below hf hA hF happ hP
  obtain ⟨hcalls, hrest, hpre⟩ := hP
  obtain ⟨-, -, -, hnamed, -, -, -, hat⟩ := (Spec.applies_iff hf).mp happ
  obtain ⟨hg, hn⟩ := and_e (Cond.before_iff.mp (show (Jvm.Cond.and given_1 narrow_1).before args s = true from hpre))
  obtain ⟨g1, g2⟩ := and_e hg
  obtain ⟨w0, rfl⟩ : ∃ w0 : Value, args = #[w0] := by
    have hs : args.size = 1 := by simpa [Cond.value, given_1] using g1
    obtain ⟨L⟩ := args
    match L, hs with
    | [w0], _ => exact ⟨w0, rfl⟩
  have hw := fun d (hd : d ∈ tables_1) => atoms_spec (ws := Jvm.Cond.code x code maxLocals ret :: tables_1) hat d (List.mem_cons_of_mem _ hd)
  have hfit : Fit s := fun {y c} hc i hi => by
    obtain ⟨ha, rfl⟩ := Array.getElem?_eq_some_iff.mp hc
    have q := List.all_eq_true.mp ((Array.all_eq_true_iff_forall_mem.mp hF) _ (Array.getElem_mem ha)) i (List.mem_range.mpr hi)
    simpa [Array.getElem?_eq_getElem hi] using q
  obtain ⟨hsets, hown0⟩ := atoms_of _ (rest_1_c_eq ▸ (show rest_1_c.before _ s = true from hrest))
  have hr0 := Cond.before_iff.mp hown0
  obtain ⟨i0, ei0⟩ := is_v g2
  obtain rfl : w0 = (.int i0) := Option.some.inj ei0
  obtain ⟨v0, hn⟩ := and_e hn
  obtain ⟨v1, hn⟩ := and_e hn
  obtain ⟨v2, hn⟩ := and_e hn
  obtain ⟨x1, hn⟩ := and_e hn
  obtain ⟨y1, hn⟩ := and_e hn
  obtain ⟨x2, hn⟩ := and_e hn
  obtain ⟨y2, hn⟩ := and_e hn
  obtain ⟨x3, hn⟩ := and_e hn
  obtain ⟨y3, hn⟩ := and_e hn
  obtain ⟨x4, hn⟩ := and_e hn
  obtain ⟨y4, hn⟩ := and_e hn
  obtain ⟨x5, hn⟩ := and_e hn
  obtain ⟨y5, hn⟩ := and_e hn
  obtain ⟨x6, hn⟩ := and_e hn
  obtain ⟨y6, hn⟩ := and_e hn
  obtain ⟨x7, hn⟩ := and_e hn
  obtain ⟨y7, hn⟩ := and_e hn
  obtain ⟨z1, hn⟩ := and_e hn
  obtain ⟨z2, hn⟩ := and_e hn
  obtain ⟨z3, hn⟩ := and_e hn
  obtain ⟨z4, hn⟩ := and_e hn
  obtain ⟨z5, hn⟩ := and_e hn
  obtain ⟨z6, hn⟩ := and_e hn
  have z7 := hn
  obtain ⟨k1, ek1⟩ := exa_v x1
  have EK1 := Exa.start ek1 x1
  have SK1 := Sta.start ek1 (Or.inr ⟨(hw _ (List.mem_of_getElem? (i := 2) rfl)), (hw _ (List.mem_of_getElem? (i := 21) rfl))⟩)
  have FK1 : Fld s s.heap k1 "com/example/rivus/rivus/store/JobKind" "code" "B" (.int 1) := Fld.start (own_fv ek1 (eqv_i rfl z1))
  obtain ⟨k2, ek2⟩ := exa_v x2
  have EK2 := Exa.start ek2 x2
  have SK2 := Sta.start ek2 (Or.inr ⟨(hw _ (List.mem_of_getElem? (i := 2) rfl)), (hw _ (List.mem_of_getElem? (i := 22) rfl))⟩)
  have FK2 : Fld s s.heap k2 "com/example/rivus/rivus/store/JobKind" "code" "B" (.int 2) := Fld.start (own_fv ek2 (eqv_i rfl z2))
  obtain ⟨k3, ek3⟩ := exa_v x3
  have EK3 := Exa.start ek3 x3
  have SK3 := Sta.start ek3 (Or.inr ⟨(hw _ (List.mem_of_getElem? (i := 2) rfl)), (hw _ (List.mem_of_getElem? (i := 23) rfl))⟩)
  have FK3 : Fld s s.heap k3 "com/example/rivus/rivus/store/JobKind" "code" "B" (.int 3) := Fld.start (own_fv ek3 (eqv_i rfl z3))
  obtain ⟨k4, ek4⟩ := exa_v x4
  have EK4 := Exa.start ek4 x4
  have SK4 := Sta.start ek4 (Or.inr ⟨(hw _ (List.mem_of_getElem? (i := 2) rfl)), (hw _ (List.mem_of_getElem? (i := 24) rfl))⟩)
  have FK4 : Fld s s.heap k4 "com/example/rivus/rivus/store/JobKind" "code" "B" (.int 4) := Fld.start (own_fv ek4 (eqv_i rfl z4))
  obtain ⟨k5, ek5⟩ := exa_v x5
  have EK5 := Exa.start ek5 x5
  have SK5 := Sta.start ek5 (Or.inr ⟨(hw _ (List.mem_of_getElem? (i := 2) rfl)), (hw _ (List.mem_of_getElem? (i := 25) rfl))⟩)
  have FK5 : Fld s s.heap k5 "com/example/rivus/rivus/store/JobKind" "code" "B" (.int 5) := Fld.start (own_fv ek5 (eqv_i rfl z5))
  obtain ⟨k6, ek6⟩ := exa_v x6
  have EK6 := Exa.start ek6 x6
  have SK6 := Sta.start ek6 (Or.inr ⟨(hw _ (List.mem_of_getElem? (i := 2) rfl)), (hw _ (List.mem_of_getElem? (i := 26) rfl))⟩)
  have FK6 : Fld s s.heap k6 "com/example/rivus/rivus/store/JobKind" "code" "B" (.int 6) := Fld.start (own_fv ek6 (eqv_i rfl z6))
  obtain ⟨k7, ek7⟩ := exa_v x7
  have EK7 := Exa.start ek7 x7
  have SK7 := Sta.start ek7 (Or.inr ⟨(hw _ (List.mem_of_getElem? (i := 2) rfl)), (hw _ (List.mem_of_getElem? (i := 27) rfl))⟩)
  have FK7 : Fld s s.heap k7 "com/example/rivus/rivus/store/JobKind" "code" "B" (.int 7) := Fld.start (own_fv ek7 (eqv_i rfl z7))
  obtain ⟨va, eva⟩ := arr_v v0
  obtain ⟨cv, Av⟩ := Arr.start eva v0
  have EV := Exa.start eva v1
  have SV := Sta.start eva (Or.inr ⟨(hw _ (List.mem_of_getElem? (i := 2) rfl)), (hw _ (List.mem_of_getElem? (i := 13) rfl))⟩)
  have hav := Av.fin (Vm.Alike.refl _)
  have ln := eqv_i rfl v2
  have h31 := SBG.length_lt eva hav ln
  have lz : cv.slots.size = 7 := by
    have e1 : Int32.ofNat cv.slots.size = 7 := own_lv eva hav h31 ln
    have e2 := congrArg Int32.toInt e1
    rw [Int32.toInt_ofNat_small h31] at e2
    have : (7 : Int32).toInt = 7 := rfl
    omega
  have a1 : cv.slots[0]? = some (.ref k1) := by have q := eqv_r ek1 y1; rw [SBG.elem_at (i := 0) eva hav (by omega) h31 rfl] at q; exact q
  have a2 : cv.slots[1]? = some (.ref k2) := by have q := eqv_r ek2 y2; rw [SBG.elem_at (i := 1) eva hav (by omega) h31 rfl] at q; exact q
  have a3 : cv.slots[2]? = some (.ref k3) := by have q := eqv_r ek3 y3; rw [SBG.elem_at (i := 2) eva hav (by omega) h31 rfl] at q; exact q
  have a4 : cv.slots[3]? = some (.ref k4) := by have q := eqv_r ek4 y4; rw [SBG.elem_at (i := 3) eva hav (by omega) h31 rfl] at q; exact q
  have a5 : cv.slots[4]? = some (.ref k5) := by have q := eqv_r ek5 y5; rw [SBG.elem_at (i := 4) eva hav (by omega) h31 rfl] at q; exact q
  have a6 : cv.slots[5]? = some (.ref k6) := by have q := eqv_r ek6 y6; rw [SBG.elem_at (i := 5) eva hav (by omega) h31 rfl] at q; exact q
  have a7 : cv.slots[6]? = some (.ref k7) := by have q := eqv_r ek7 y7; rw [SBG.elem_at (i := 6) eva hav (by omega) h31 rfl] at q; exact q
  have AV : La s s.heap va (.object "com/example/rivus/rivus/store/JobKind") [.ref k1, .ref k2, .ref k3, .ref k4, .ref k5, .ref k6, .ref k7] := La.of Av _ lz (by show (7 : Nat) < _; decide) (fun i hi => by
      have hi7 : i < 7 := hi
      rcases (by omega : i = 0 ∨ i = 1 ∨ i = 2 ∨ i = 3 ∨ i = 4 ∨ i = 5 ∨ i = 6) with rfl | rfl | rfl | rfl | rfl | rfl | rfl
      all_goals first | exact a1 | exact a2 | exact a3 | exact a4 | exact a5 | exact a6 | exact a7) (fun v hv => by simp only [List.mem_cons, List.not_mem_nil, or_false] at hv; rcases hv with rfl | rfl | rfl | rfl | rfl | rfl | rfl <;> rfl)
  obtain ⟨em, eem⟩ := exa_v (Cond.before_iff.mp (hsets _ (List.mem_of_getElem? (i := 2) rfl)))
  have EE := Exa.start eem (Cond.before_iff.mp (hsets _ (List.mem_of_getElem? (i := 2) rfl)))
  have SE := Sta.start eem (Or.inl (hsets _ (List.mem_of_getElem? (i := 1) rfl)))
  have FE : Fld s s.heap em "java/util/Optional" "value" "Ljava/lang/Object;" .null := Fld.start (own_fv eem (null_v (Cond.before_iff.mp (hsets _ (List.mem_of_getElem? (i := 3) rfl)))))
  obtain ⟨n, o, h1, h2, h3, _, L, rfl, ⟨N, rfl⟩, hq⟩ := own_law l s _ hw i0 em va k1 k2 k3 k4 k5 k6 k7 s.heap s.heap.size (Old.start s) SE EE FE SV AV EV EK1 FK1 EK2 FK2 EK3 FK3 EK4 FK4 EK5 FK5 EK6 FK6 EK7 FK7 SK1 SK2 SK3 SK4 SK5 SK6 SK7 tables_1 p e ha hc hk s m _ below hf ((Spec.applies_iff_loose hf).mp happ).1 ⟨rfl, State.Warmed39.refl s, rfl⟩ trivial
  refine ⟨n, _, h1, h2, h3, hpost _ _ _ _ _ _ ⟨Cond.after_iff.mpr rfl, Cond.after_iff.mpr (eq_i res_at (Term.int_eval (1)) rfl), trivial⟩ ⟨hq.1, hq.2.1, (hq.2.2.sift fun y hy => Or.inr (N y hy)).mono (by decide) (by decide)⟩⟩
theorem main_1_1 : Claimed_1_1 := comes_1 fun _ _ _ _ _ _ h hF => ⟨h.1, hF⟩
theorem main_1_2 : Claimed_1_2 := comes_1 fun _ _ _ _ _ _ h hF => ⟨h.2.1, hF⟩

end Jvm.Pilot.@@N@@
namespace Jvm.Pilot.@@N@@
open Jvm Jvm.ClassFile Sem Op Lib Jvm.Free Jvm.Stand Jvm.Pilot.@@N@@.Jvm.D
/-! MADE BY PROGRAM (witnessworld.py) out of the Statement's table words and the real class files: 15 classes; the members and pool entries that the words name. The judged class is class 1, her method 2. -/
namespace start1
open Jvm.ClassFile
def u (s : String) : CpInfo := .utf8 (stringToUtf16 s)
/-- a pool by its gaps: so many unusable entries, then the entry; so many at the end -/
def gap : Nat → List CpInfo → List CpInfo
  | 0, r => r
  | n + 1, r => .unusable :: gap n r
def poolList (es : List (Nat × CpInfo)) (last : Nat) : List CpInfo := es.foldr (fun e r => gap e.1 (e.2 :: r)) (gap last [])
def pool (es : List (Nat × CpInfo)) (last : Nat) : Array CpInfo := ⟨poolList es last⟩
def fileOf (pool : Array CpInfo) (this : Nat) (attrs : Array Attribute := #[]) (ms : Array MethodInfo := #[]) (fl : Nat := 33) (sup : Nat := 0) (ifs : Array Nat := #[]) (fds : Array FieldInfo := #[]) : ClassFile where
  minorVersion := 0
  majorVersion := 65
  constantPool := pool
  accessFlags := fl
  thisClass := this
  superClass := sup
  interfaces := ifs
  fields := fds
  methods := ms
  attributes := attrs
def plain (name : String) (sup : Option ClassId) : Class where
  name := name
  kind := .ordinary
  loader := none
  accessFlags := 33
  super := sup
  interfaces := #[]
  cf := none
  fields := #[]
  methods := #[]
  instanceTypes := #[]
  staticTypes := #[]
  resolved := #[]
  callSites := []
  init := .initialized
  statics := none
  mirror := none

def pool0 : Array CpInfo := pool [(5, u "<init>"), (0, u "()V"), (1, .class_ 10), (1, u "java/lang/Object"), (85, u "clone"), (0, u "()Ljava/lang/Object;")] 26

def k0c0 : Code := { maxStack := 0, maxLocals := 1, code := object_method_1_code, exceptionTable := #[], attributes := #[] }
def k0m0 : Method := { name := "<init>", desc := "()V", sig := { parameters := [], returnType := none }, accessFlags := 1, code := some k0c0 }
def k0m1 : Method := { name := "clone", desc := "()Ljava/lang/Object;", sig := { parameters := [], returnType := some (.object "java/lang/Object") }, accessFlags := 260, code := none }
/-- java/lang/Object -/
def k0 : Class := { plain "java/lang/Object" none with
  accessFlags := 33
  interfaces := #[]
  cf := some (fileOf pool0 8 #[] #[{ accessFlags := 1, nameIndex := 5, descriptorIndex := 6, attributes := #[] }, { accessFlags := 260, nameIndex := 96, descriptorIndex := 97, attributes := #[] }] 33 0 #[] #[])
  fields := #[]
  methods := #[k0m0, k0m1]
  instanceTypes := #[]
  staticTypes := #[]
  resolved := Array.replicate 124 none
  statics := none }

def pool1 : Array CpInfo := pool [(2, .class_ 4), (1, u "java/lang/Object"), (0, u "<init>"), (0, u "()V"), (0, .fieldref 8 9), (0, .class_ 10), (0, .nameAndType 11 12), (0, u "com/example/rivus/rivus/store/JobKind"), (0, u "FAN_OUT"), (0, u "Lcom/example/rivus/rivus/store/JobKind;"), (0, .fieldref 8 14), (0, .nameAndType 15 12), (0, u "DELETE_FAN_OUT"), (0, .fieldref 8 17), (0, .nameAndType 18 12), (0, u "DELIVERY"), (0, .fieldref 8 20), (0, .nameAndType 21 12), (0, u "REFRESHED_FAN_OUT"), (0, .fieldref 8 23), (0, .nameAndType 24 12), (0, u "UPDATE_FAN_OUT"), (0, .fieldref 8 26), (0, .nameAndType 27 12), (0, u "REFRESH_SCHEDULE"), (0, .fieldref 8 29), (0, .nameAndType 30 12), (0, u "REFRESH_LOOKUP"), (0, .methodref 8 32), (0, .nameAndType 33 34), (0, u "of"), (0, u "(B)Ljava/util/Optional;"), (0, .methodref 36 37), (0, .class_ 38), (0, .nameAndType 39 40), (0, u "com/example/rivus/rivus/store/JobKindOfPinLaw"), (0, u "expected"), (0, u "(I)Lcom/example/rivus/rivus/store/JobKind;"), (0, .methodref 42 43), (0, .class_ 44), (0, .nameAndType 45 46), (0, u "java/util/Optional"), (0, u "isPresent"), (0, u "()Z"), (0, .methodref 42 48), (0, .nameAndType 49 50), (0, u "get"), (0, u "()Ljava/lang/Object;"), (0, .methodref 8 52), (0, .nameAndType 53 54), (0, u "code"), (0, u "()B"), (3, u "law"), (0, u "(I)Z")] 2

def k1m0 : Method := { name := "<init>", desc := "()V", sig := { parameters := [], returnType := none }, accessFlags := 1, code := none }
def k1c1 : Code := { maxStack := 2, maxLocals := 1, code := method_2_code, exceptionTable := #[], attributes := #[] }
def k1m1 : Method := { name := "expected", desc := "(I)Lcom/example/rivus/rivus/store/JobKind;", sig := { parameters := [.int], returnType := some (.object "com/example/rivus/rivus/store/JobKind") }, accessFlags := 10, code := some k1c1 }
def k1c2 : Code := { maxStack := 2, maxLocals := 5, code := code, exceptionTable := #[], attributes := #[] }
def k1m2 : Method := { name := "law", desc := "(I)Z", sig := { parameters := [.int], returnType := some .boolean }, accessFlags := 9, code := some k1c2 }
/-- com/example/rivus/rivus/store/JobKindOfPinLaw -/
def k1 : Class := { plain "com/example/rivus/rivus/store/JobKindOfPinLaw" (some 0) with
  accessFlags := 49
  interfaces := #[]
  cf := some (fileOf pool1 36 #[] #[{ accessFlags := 1, nameIndex := 5, descriptorIndex := 6, attributes := #[] }, { accessFlags := 10, nameIndex := 39, descriptorIndex := 40, attributes := #[] }, { accessFlags := 9, nameIndex := 58, descriptorIndex := 59, attributes := #[] }] 49 2 #[] #[])
  fields := #[]
  methods := #[k1m0, k1m1, k1m2]
  instanceTypes := #[]
  staticTypes := #[]
  resolved := Array.replicate 62 none
  statics := none }

def pool2 : Array CpInfo := pool [(1, .class_ 2), (0, u "java/lang/constant/Constable"), (0, .class_ 4), (0, u "java/lang/Object")] 6

/-- java/lang/constant/Constable -/
def k2 : Class := { plain "java/lang/constant/Constable" (some 0) with
  accessFlags := 1537
  interfaces := #[]
  cf := some (fileOf pool2 1 #[] #[] 1537 3 #[] #[])
  fields := #[]
  methods := #[]
  instanceTypes := #[]
  staticTypes := #[]
  resolved := Array.replicate 11 none
  statics := none }

def pool3 : Array CpInfo := pool [(1, .class_ 2), (0, u "java/lang/Comparable"), (0, .class_ 4), (0, u "java/lang/Object")] 7

/-- java/lang/Comparable -/
def k3 : Class := { plain "java/lang/Comparable" (some 0) with
  accessFlags := 1537
  interfaces := #[]
  cf := some (fileOf pool3 1 #[] #[] 1537 3 #[] #[])
  fields := #[]
  methods := #[]
  instanceTypes := #[]
  staticTypes := #[]
  resolved := Array.replicate 12 none
  statics := none }

def pool4 : Array CpInfo := pool [(1, .class_ 2), (0, u "java/io/Serializable"), (0, .class_ 4), (0, u "java/lang/Object")] 2

/-- java/io/Serializable -/
def k4 : Class := { plain "java/io/Serializable" (some 0) with
  accessFlags := 1537
  interfaces := #[]
  cf := some (fileOf pool4 1 #[] #[] 1537 3 #[] #[])
  fields := #[]
  methods := #[]
  instanceTypes := #[]
  staticTypes := #[]
  resolved := Array.replicate 7 none
  statics := none }

def pool5 : Array CpInfo := pool [(2, .class_ 4), (1, u "java/lang/Enum"), (0, u "name"), (0, u "Ljava/lang/String;"), (2, u "ordinal"), (0, u "I"), (1, .class_ 14), (1, u "java/lang/Object"), (4, u "hash"), (86, .class_ 108), (1, u "java/lang/Enum$EnumDesc"), (2, .class_ 112), (0, u "java/lang/constant/Constable"), (0, .class_ 114), (0, u "java/lang/Comparable"), (0, .class_ 116), (0, u "java/io/Serializable")] 87

/-- java/lang/Enum -/
def k5 : Class := { plain "java/lang/Enum" (some 0) with
  accessFlags := 1057
  interfaces := #[2, 3, 4]
  cf := some (fileOf pool5 2 #[.nestMembers #[106]] #[] 1057 12 #[111, 113, 115] #[{ accessFlags := 18, nameIndex := 5, descriptorIndex := 6, attributes := #[] }, { accessFlags := 18, nameIndex := 9, descriptorIndex := 10, attributes := #[] }, { accessFlags := 2, nameIndex := 19, descriptorIndex := 10, attributes := #[] }])
  fields := #[{ name := "name", type := (.object "java/lang/String"), accessFlags := 18, slot := 0, constantValue := 0 }, { name := "ordinal", type := .int, accessFlags := 18, slot := 1, constantValue := 0 }, { name := "hash", type := .int, accessFlags := 2, slot := 2, constantValue := 0 }]
  methods := #[]
  instanceTypes := #[(.object "java/lang/String"), .int, .int]
  staticTypes := #[]
  resolved := Array.replicate 204 none
  statics := none }

def pool6 : Array CpInfo := pool [(1, .class_ 2), (0, u "com/example/rivus/rivus/store/JobKind"), (2, u "FAN_OUT"), (0, u "Lcom/example/rivus/rivus/store/JobKind;"), (2, u "DELETE_FAN_OUT"), (2, u "DELIVERY"), (2, u "REFRESHED_FAN_OUT"), (2, u "UPDATE_FAN_OUT"), (2, u "REFRESH_SCHEDULE"), (2, u "REFRESH_LOOKUP"), (0, .fieldref 1 26), (0, .nameAndType 27 28), (0, u "$VALUES"), (0, u "[Lcom/example/rivus/rivus/store/JobKind;"), (0, .methodref 30 31), (0, .class_ 28), (0, .nameAndType 32 33), (0, u "clone"), (0, u "()Ljava/lang/Object;"), (1, .class_ 37), (1, u "java/lang/Enum"), (6, .fieldref 1 45), (0, .nameAndType 46 47), (0, u "code"), (0, u "B"), (0, .methodref 49 50), (0, .class_ 51), (0, .nameAndType 52 53), (0, u "java/util/Optional"), (0, u "empty"), (0, u "()Ljava/util/Optional;"), (0, .methodref 1 55), (0, .nameAndType 56 57), (0, u "values"), (0, u "()[Lcom/example/rivus/rivus/store/JobKind;"), (0, .methodref 49 59), (0, .nameAndType 60 61), (0, u "of"), (0, u "(Ljava/lang/Object;)Ljava/util/Optional;"), (19, u "()B"), (0, u "(B)Ljava/util/Optional;")] 7

def k6c0 : Code := { maxStack := 1, maxLocals := 0, code := prog_34_method_1_code, exceptionTable := #[], attributes := #[] }
def k6m0 : Method := { name := "values", desc := "()[Lcom/example/rivus/rivus/store/JobKind;", sig := { parameters := [], returnType := some (.array (.object "com/example/rivus/rivus/store/JobKind")) }, accessFlags := 9, code := some k6c0 }
def k6c1 : Code := { maxStack := 1, maxLocals := 1, code := prog_34_method_4_code, exceptionTable := #[], attributes := #[] }
def k6m1 : Method := { name := "code", desc := "()B", sig := { parameters := [], returnType := some .byte }, accessFlags := 0, code := some k6c1 }
def k6c2 : Code := { maxStack := 2, maxLocals := 6, code := prog_34_method_5_code, exceptionTable := #[], attributes := #[] }
def k6m2 : Method := { name := "of", desc := "(B)Ljava/util/Optional;", sig := { parameters := [.byte], returnType := some (.object "java/util/Optional") }, accessFlags := 8, code := some k6c2 }
/-- com/example/rivus/rivus/store/JobKind -/
def k6 : Class := { plain "com/example/rivus/rivus/store/JobKind" (some 5) with
  accessFlags := 16433
  interfaces := #[]
  cf := some (fileOf pool6 1 #[] #[{ accessFlags := 9, nameIndex := 56, descriptorIndex := 57, attributes := #[] }, { accessFlags := 0, nameIndex := 46, descriptorIndex := 81, attributes := #[] }, { accessFlags := 8, nameIndex := 60, descriptorIndex := 82, attributes := #[] }] 16433 35 #[] #[{ accessFlags := 16409, nameIndex := 5, descriptorIndex := 6, attributes := #[] }, { accessFlags := 16409, nameIndex := 9, descriptorIndex := 6, attributes := #[] }, { accessFlags := 16409, nameIndex := 12, descriptorIndex := 6, attributes := #[] }, { accessFlags := 16409, nameIndex := 15, descriptorIndex := 6, attributes := #[] }, { accessFlags := 16409, nameIndex := 18, descriptorIndex := 6, attributes := #[] }, { accessFlags := 16409, nameIndex := 21, descriptorIndex := 6, attributes := #[] }, { accessFlags := 16409, nameIndex := 24, descriptorIndex := 6, attributes := #[] }, { accessFlags := 18, nameIndex := 46, descriptorIndex := 47, attributes := #[] }, { accessFlags := 4122, nameIndex := 27, descriptorIndex := 28, attributes := #[] }])
  fields := #[{ name := "FAN_OUT", type := (.object "com/example/rivus/rivus/store/JobKind"), accessFlags := 16409, slot := 0, constantValue := 0 }, { name := "DELETE_FAN_OUT", type := (.object "com/example/rivus/rivus/store/JobKind"), accessFlags := 16409, slot := 1, constantValue := 0 }, { name := "DELIVERY", type := (.object "com/example/rivus/rivus/store/JobKind"), accessFlags := 16409, slot := 2, constantValue := 0 }, { name := "REFRESHED_FAN_OUT", type := (.object "com/example/rivus/rivus/store/JobKind"), accessFlags := 16409, slot := 3, constantValue := 0 }, { name := "UPDATE_FAN_OUT", type := (.object "com/example/rivus/rivus/store/JobKind"), accessFlags := 16409, slot := 4, constantValue := 0 }, { name := "REFRESH_SCHEDULE", type := (.object "com/example/rivus/rivus/store/JobKind"), accessFlags := 16409, slot := 5, constantValue := 0 }, { name := "REFRESH_LOOKUP", type := (.object "com/example/rivus/rivus/store/JobKind"), accessFlags := 16409, slot := 6, constantValue := 0 }, { name := "code", type := .byte, accessFlags := 18, slot := 3, constantValue := 0 }, { name := "$VALUES", type := (.array (.object "com/example/rivus/rivus/store/JobKind")), accessFlags := 4122, slot := 7, constantValue := 0 }]
  methods := #[k6m0, k6m1, k6m2]
  instanceTypes := #[(.object "java/lang/String"), .int, .int, .byte]
  staticTypes := #[(.object "com/example/rivus/rivus/store/JobKind"), (.object "com/example/rivus/rivus/store/JobKind"), (.object "com/example/rivus/rivus/store/JobKind"), (.object "com/example/rivus/rivus/store/JobKind"), (.object "com/example/rivus/rivus/store/JobKind"), (.object "com/example/rivus/rivus/store/JobKind"), (.object "com/example/rivus/rivus/store/JobKind"), (.array (.object "com/example/rivus/rivus/store/JobKind"))]
  resolved := Array.replicate 90 none
  statics := some 0 }

def pool7 : Array CpInfo := pool [(1, .fieldref 2 3), (0, .class_ 4), (0, .nameAndType 5 6), (0, u "java/util/Optional"), (0, u "EMPTY"), (0, u "Ljava/util/Optional;"), (0, .methodref 8 9), (0, .class_ 10), (0, .nameAndType 11 12), (0, u "java/lang/Object"), (0, u "<init>"), (0, u "()V"), (0, .fieldref 2 14), (0, .nameAndType 15 16), (0, u "value"), (0, u "Ljava/lang/Object;"), (0, .methodref 18 19), (0, .class_ 20), (0, .nameAndType 21 22), (0, u "java/util/Objects"), (0, u "requireNonNull"), (0, u "(Ljava/lang/Object;)Ljava/lang/Object;"), (0, .methodref 2 24), (0, .nameAndType 11 25), (0, u "(Ljava/lang/Object;)V"), (20, u "()Z"), (8, u "empty"), (0, u "()Ljava/util/Optional;"), (8, u "(Ljava/lang/Object;)Ljava/util/Optional;"), (2, u "isPresent"), (4, u "get"), (0, u "()Ljava/lang/Object;"), (7, u "of")] 104

def k7c0 : Code := { maxStack := 1, maxLocals := 1, code := jdk_32_method_1_code, exceptionTable := #[], attributes := #[] }
def k7m0 : Method := { name := "empty", desc := "()Ljava/util/Optional;", sig := { parameters := [], returnType := some (.object "java/util/Optional") }, accessFlags := 9, code := some k7c0 }
def k7c1 : Code := { maxStack := 2, maxLocals := 2, code := jdk_32_method_2_code, exceptionTable := #[], attributes := #[] }
def k7m1 : Method := { name := "<init>", desc := "(Ljava/lang/Object;)V", sig := { parameters := [(.object "java/lang/Object")], returnType := none }, accessFlags := 2, code := some k7c1 }
def k7c2 : Code := { maxStack := 3, maxLocals := 1, code := jdk_32_method_3_code, exceptionTable := #[], attributes := #[] }
def k7m2 : Method := { name := "of", desc := "(Ljava/lang/Object;)Ljava/util/Optional;", sig := { parameters := [(.object "java/lang/Object")], returnType := some (.object "java/util/Optional") }, accessFlags := 9, code := some k7c2 }
def k7c3 : Code := { maxStack := 3, maxLocals := 1, code := jdk_32_method_5_code, exceptionTable := #[], attributes := #[] }
def k7m3 : Method := { name := "get", desc := "()Ljava/lang/Object;", sig := { parameters := [], returnType := some (.object "java/lang/Object") }, accessFlags := 1, code := some k7c3 }
def k7c4 : Code := { maxStack := 1, maxLocals := 1, code := jdk_32_method_6_code, exceptionTable := #[], attributes := #[] }
def k7m4 : Method := { name := "isPresent", desc := "()Z", sig := { parameters := [], returnType := some .boolean }, accessFlags := 1, code := some k7c4 }
/-- java/util/Optional -/
def k7 : Class := { plain "java/util/Optional" (some 0) with
  accessFlags := 49
  interfaces := #[]
  cf := some (fileOf pool7 2 #[] #[{ accessFlags := 9, nameIndex := 55, descriptorIndex := 56, attributes := #[] }, { accessFlags := 2, nameIndex := 11, descriptorIndex := 25, attributes := #[] }, { accessFlags := 9, nameIndex := 82, descriptorIndex := 65, attributes := #[] }, { accessFlags := 1, nameIndex := 73, descriptorIndex := 74, attributes := #[] }, { accessFlags := 1, nameIndex := 68, descriptorIndex := 46, attributes := #[] }] 49 8 #[] #[{ accessFlags := 26, nameIndex := 5, descriptorIndex := 6, attributes := #[] }, { accessFlags := 18, nameIndex := 15, descriptorIndex := 16, attributes := #[] }])
  fields := #[{ name := "EMPTY", type := (.object "java/util/Optional"), accessFlags := 26, slot := 0, constantValue := 0 }, { name := "value", type := (.object "java/lang/Object"), accessFlags := 18, slot := 0, constantValue := 0 }]
  methods := #[k7m0, k7m1, k7m2, k7m3, k7m4]
  instanceTypes := #[(.object "java/lang/Object")]
  staticTypes := #[(.object "java/util/Optional")]
  resolved := Array.replicate 187 none
  statics := some 1 }

def pool8 : Array CpInfo := pool [(1, .class_ 2), (0, u "java/lang/Cloneable"), (0, .class_ 4), (0, u "java/lang/Object")] 2

/-- java/lang/Cloneable -/
def k8 : Class := { plain "java/lang/Cloneable" (some 0) with
  accessFlags := 1537
  interfaces := #[]
  cf := some (fileOf pool8 1 #[] #[] 1537 3 #[] #[])
  fields := #[]
  methods := #[]
  instanceTypes := #[]
  staticTypes := #[]
  resolved := Array.replicate 7 none
  statics := none }

def pool9 : Array CpInfo := pool [(2, .class_ 4), (1, u "java/lang/Object"), (0, u "<init>"), (0, u "()V"), (35, .class_ 44), (1, u "java/util/Objects"), (0, u "requireNonNull"), (0, u "(Ljava/lang/Object;)Ljava/lang/Object;")] 137

def k9m0 : Method := { name := "<init>", desc := "()V", sig := { parameters := [], returnType := none }, accessFlags := 2, code := none }
def k9c1 : Code := { maxStack := 2, maxLocals := 1, code := jdk_31_method_10_code, exceptionTable := #[], attributes := #[] }
def k9m1 : Method := { name := "requireNonNull", desc := "(Ljava/lang/Object;)Ljava/lang/Object;", sig := { parameters := [(.object "java/lang/Object")], returnType := some (.object "java/lang/Object") }, accessFlags := 9, code := some k9c1 }
/-- java/util/Objects -/
def k9 : Class := { plain "java/util/Objects" (some 0) with
  accessFlags := 49
  interfaces := #[]
  cf := some (fileOf pool9 42 #[] #[{ accessFlags := 2, nameIndex := 5, descriptorIndex := 6, attributes := #[] }, { accessFlags := 9, nameIndex := 45, descriptorIndex := 46, attributes := #[] }] 49 2 #[] #[])
  fields := #[]
  methods := #[k9m0, k9m1]
  instanceTypes := #[]
  staticTypes := #[]
  resolved := Array.replicate 184 none
  statics := none }

/-- the primitive byte -/
def k10 : Class := { plain "byte" none with kind := .primitive 'B', accessFlags := 0x411 }
/-- [B -/
def k11 : Class := { plain "[B" (some 0) with kind := .array 10 .byte, interfaces := #[8, 4], accessFlags := 1041 }

/-- the primitive int -/
def k12 : Class := { plain "int" none with kind := .primitive 'I', accessFlags := 0x411 }
/-- [I -/
def k13 : Class := { plain "[I" (some 0) with kind := .array 12 .int, interfaces := #[8, 4], accessFlags := 1041 }

/-- [Lcom/example/rivus/rivus/store/JobKind; -/
def k14 : Class := { plain "[Lcom/example/rivus/rivus/store/JobKind;" (some 0) with kind := .array 6 (.object "com/example/rivus/rivus/store/JobKind"), interfaces := #[8, 4], accessFlags := 1041 }

def heap : Heap := #[{ cls := 6, slots := #[.ref 3, .ref 4, .ref 5, .ref 6, .ref 7, .ref 8, .ref 9, .ref 2], vm := .statics 6 },
  { cls := 7, slots := #[.ref 10], vm := .statics 7 },
  { cls := 14, slots := #[.ref 3, .ref 4, .ref 5, .ref 6, .ref 7, .ref 8, .ref 9], vm := .none },
  { cls := 6, slots := #[.null, .int 0, .int 0, .int 1], vm := .none },
  { cls := 6, slots := #[.null, .int 1, .int 0, .int 2], vm := .none },
  { cls := 6, slots := #[.null, .int 2, .int 0, .int 3], vm := .none },
  { cls := 6, slots := #[.null, .int 3, .int 0, .int 4], vm := .none },
  { cls := 6, slots := #[.null, .int 4, .int 0, .int 5], vm := .none },
  { cls := 6, slots := #[.null, .int 5, .int 0, .int 6], vm := .none },
  { cls := 6, slots := #[.null, .int 6, .int 0, .int 7], vm := .none },
  { cls := 7, slots := #[.null], vm := .none }]
def classes : Array Class := #[k0, k1, k2, k3, k4, k5, k6, k7, k8, k9, k10, k11, k12, k13, k14]
def interned : List (Array UInt16 × Addr) := []
def slotsUsed : Nat := 45
def theMethod : MethodId := ⟨1, 2⟩
def args0 : Array Value := #[.int 3]
def aboutOver (below : List Frame) : State where
  vm := { classes := classes, interned := interned.toArray }
  heap := heap
  slotsUsed := slotsUsed
  threads := #[{ frames := .invoking theMethod args0 :: below }]
def below0 : List Frame := [.native { method := ⟨0, 0⟩, args := #[] }]
def about1 : State := aboutOver below0
def p0 : Program := .bare "" "" ""
def e0 : Env := launch0.env 0 0 0
theorem w_frames : about1.frames = Frame.invoking theMethod args0 :: below0 := rfl
set_option maxRecDepth 65536 in
theorem w_args : argsFit about1.vm theMethod args0 = true := by decide +kernel
set_option maxRecDepth 65536 in
theorem w_heap : heapFits about1 = true := by decide +kernel
set_option maxRecDepth 65536 in
theorem w_runnable : about1.curStatus? = some .runnable := by decide +kernel
set_option maxRecDepth 65536 in
theorem w_alone : about1.alone = true := by decide +kernel
set_option maxRecDepth 65536 in
theorem w_named : about1.methodNamed? x = some theMethod := by decide +kernel
set_option maxRecDepth 65536 in
theorem w_hears : about1.hears theMethod below0 = true := by decide +kernel
set_option maxRecDepth 65536 in
theorem w_ripe : about1.ripe theMethod args0 below0 = true := by decide +kernel
theorem w_running : about1.status = .running := rfl
set_option maxRecDepth 65536 in
theorem w_room : about1.hasRoom e0.platform room_1 = true :=
  launch0.hasRoom_least _ room_1 (by decide +kernel) (by decide +kernel) (by decide +kernel) (by decide +kernel) (by decide +kernel) (by decide +kernel)
theorem allAtoms_all (ts : List Jvm.Cond) (a : Array Jvm.Value) (st : Jvm.State) : (allAtoms ts).before a st = ts.all (fun c => c.before a st) := by
  induction ts with
  | nil => rfl
  | cons c t ih =>
    show (Jvm.Cond.and c (allAtoms t)).before a st = _
    rw [Jvm.Cond.before_and, ih, List.all_cons]
def words1 : List Jvm.Cond := Jvm.Cond.code x code maxLocals ret :: tables_1
/-- a 'code' word, met by the world's own term for the bytes: nothing is compared byte by byte -/
theorem code_word {y : MethodName} {bytes : ByteArray} {mx : Nat} {rt : Option FieldType} {a : Array Value} {s : State} {m : MethodId} {meth : Method} {c : Code} (h1 : s.methodNamed? y = some m) (h2 : s.vm.method? m = some meth) (h3 : meth.code = some c) (h4 : c.code = bytes)
    (h5 : (c.maxLocals == mx && c.exceptionTable.isEmpty && decide (c.maxStack ≤ mostOperands) && decide (meth.sig.returnType = rt) && !meth.locks && decide (parseMethodDescriptor y.desc = some meth.sig)) = true) : (Jvm.Cond.code y bytes mx rt).before a s = true := by
  simp only [Bool.and_eq_true, beq_iff_eq, Bool.not_eq_true', decide_eq_true_eq] at h5
  obtain ⟨⟨⟨⟨⟨g1, g2⟩, g3⟩, g4⟩, g5⟩, g6⟩ := h5
  simp [Cond.before, Cond.holds, Cond.value, h1, h2, h3, h4, g1, g2, g3, g4, g5, g6]
def isCode : Jvm.Cond → Bool
  | .code _ _ _ _ => true
  | _ => false
theorem all_split {L : List Jvm.Cond} {P : Jvm.Cond → Bool} (h1 : L.all (fun c => isCode c || P c) = true) (h2 : ∀ c ∈ L.filter isCode, P c = true) : L.all P = true := by
  refine List.all_eq_true.mpr fun c hc => ?_
  have h := List.all_eq_true.mp h1 c hc
  rcases Bool.eq_false_or_eq_true (isCode c) with hi | hi
  · exact h2 c (List.mem_filter.mpr ⟨hc, hi⟩)
  · simpa [hi] using h
set_option maxRecDepth 65536 in
theorem w_c0 : (Jvm.Cond.code x code maxLocals ret).before args0 about1 = true := code_word (m := ⟨1, 2⟩) (meth := k1m2) (c := k1c2) (by decide +kernel) rfl rfl rfl (by decide +kernel)
set_option maxRecDepth 65536 in
theorem w_c1 : (Jvm.Cond.code ({ cls := "com/example/rivus/rivus/store/JobKind", name := "of", desc := "(B)Ljava/util/Optional;" } : Jvm.MethodName) prog_34_method_5_code (6 : Nat) (Option.some (Jvm.ClassFile.FieldType.object "java/util/Optional"))).before args0 about1 = true := code_word (m := ⟨6, 2⟩) (meth := k6m2) (c := k6c2) (by decide +kernel) rfl rfl rfl (by decide +kernel)
set_option maxRecDepth 65536 in
theorem w_c2 : (Jvm.Cond.code ({ cls := "java/util/Optional", name := "empty", desc := "()Ljava/util/Optional;" } : Jvm.MethodName) jdk_32_method_1_code (1 : Nat) (Option.some (Jvm.ClassFile.FieldType.object "java/util/Optional"))).before args0 about1 = true := code_word (m := ⟨7, 0⟩) (meth := k7m0) (c := k7c0) (by decide +kernel) rfl rfl rfl (by decide +kernel)
set_option maxRecDepth 65536 in
theorem w_c3 : (Jvm.Cond.code ({ cls := "com/example/rivus/rivus/store/JobKind", name := "values", desc := "()[Lcom/example/rivus/rivus/store/JobKind;" } : Jvm.MethodName) prog_34_method_1_code (0 : Nat) (Option.some (Jvm.ClassFile.FieldType.array (Jvm.ClassFile.FieldType.object "com/example/rivus/rivus/store/JobKind")))).before args0 about1 = true := code_word (m := ⟨6, 0⟩) (meth := k6m0) (c := k6c0) (by decide +kernel) rfl rfl rfl (by decide +kernel)
set_option maxRecDepth 65536 in
theorem w_c4 : (Jvm.Cond.code ({ cls := "com/example/rivus/rivus/store/JobKindOfPinLaw", name := "expected", desc := "(I)Lcom/example/rivus/rivus/store/JobKind;" } : Jvm.MethodName) method_2_code (1 : Nat) (Option.some (Jvm.ClassFile.FieldType.object "com/example/rivus/rivus/store/JobKind"))).before args0 about1 = true := code_word (m := ⟨1, 1⟩) (meth := k1m1) (c := k1c1) (by decide +kernel) rfl rfl rfl (by decide +kernel)
set_option maxRecDepth 65536 in
theorem w_c5 : (Jvm.Cond.code ({ cls := "java/util/Optional", name := "isPresent", desc := "()Z" } : Jvm.MethodName) jdk_32_method_6_code (1 : Nat) (Option.some Jvm.ClassFile.FieldType.boolean)).before args0 about1 = true := code_word (m := ⟨7, 4⟩) (meth := k7m4) (c := k7c4) (by decide +kernel) rfl rfl rfl (by decide +kernel)
set_option maxRecDepth 65536 in
theorem w_c6 : (Jvm.Cond.code ({ cls := "java/util/Optional", name := "of", desc := "(Ljava/lang/Object;)Ljava/util/Optional;" } : Jvm.MethodName) jdk_32_method_3_code (1 : Nat) (Option.some (Jvm.ClassFile.FieldType.object "java/util/Optional"))).before args0 about1 = true := code_word (m := ⟨7, 2⟩) (meth := k7m2) (c := k7c2) (by decide +kernel) rfl rfl rfl (by decide +kernel)
set_option maxRecDepth 65536 in
theorem w_c7 : (Jvm.Cond.code ({ cls := "java/util/Objects", name := "requireNonNull", desc := "(Ljava/lang/Object;)Ljava/lang/Object;" } : Jvm.MethodName) jdk_31_method_10_code (1 : Nat) (Option.some (Jvm.ClassFile.FieldType.object "java/lang/Object"))).before args0 about1 = true := code_word (m := ⟨9, 1⟩) (meth := k9m1) (c := k9c1) (by decide +kernel) rfl rfl rfl (by decide +kernel)
set_option maxRecDepth 65536 in
theorem w_c8 : (Jvm.Cond.code ({ cls := "java/util/Optional", name := "<init>", desc := "(Ljava/lang/Object;)V" } : Jvm.MethodName) jdk_32_method_2_code (2 : Nat) (Option.none : Option Jvm.ClassFile.FieldType)).before args0 about1 = true := code_word (m := ⟨7, 1⟩) (meth := k7m1) (c := k7c1) (by decide +kernel) rfl rfl rfl (by decide +kernel)
set_option maxRecDepth 65536 in
theorem w_c9 : (Jvm.Cond.code ({ cls := "java/lang/Object", name := "<init>", desc := "()V" } : Jvm.MethodName) object_method_1_code (1 : Nat) (Option.none : Option Jvm.ClassFile.FieldType)).before args0 about1 = true := code_word (m := ⟨0, 0⟩) (meth := k0m0) (c := k0c0) (by decide +kernel) rfl rfl rfl (by decide +kernel)
set_option maxRecDepth 65536 in
theorem w_c10 : (Jvm.Cond.code ({ cls := "java/util/Optional", name := "get", desc := "()Ljava/lang/Object;" } : Jvm.MethodName) jdk_32_method_5_code (1 : Nat) (Option.some (Jvm.ClassFile.FieldType.object "java/lang/Object"))).before args0 about1 = true := code_word (m := ⟨7, 3⟩) (meth := k7m3) (c := k7c3) (by decide +kernel) rfl rfl rfl (by decide +kernel)
set_option maxRecDepth 65536 in
theorem w_c11 : (Jvm.Cond.code ({ cls := "com/example/rivus/rivus/store/JobKind", name := "code", desc := "()B" } : Jvm.MethodName) prog_34_method_4_code (1 : Nat) (Option.some Jvm.ClassFile.FieldType.byte)).before args0 about1 = true := code_word (m := ⟨6, 1⟩) (meth := k6m1) (c := k6c1) (by decide +kernel) rfl rfl rfl (by decide +kernel)
def codes1 : List Jvm.Cond := [Jvm.Cond.code x code maxLocals ret, Jvm.Cond.code ({ cls := "com/example/rivus/rivus/store/JobKind", name := "of", desc := "(B)Ljava/util/Optional;" } : Jvm.MethodName) prog_34_method_5_code (6 : Nat) (Option.some (Jvm.ClassFile.FieldType.object "java/util/Optional")), Jvm.Cond.code ({ cls := "java/util/Optional", name := "empty", desc := "()Ljava/util/Optional;" } : Jvm.MethodName) jdk_32_method_1_code (1 : Nat) (Option.some (Jvm.ClassFile.FieldType.object "java/util/Optional")), Jvm.Cond.code ({ cls := "com/example/rivus/rivus/store/JobKind", name := "values", desc := "()[Lcom/example/rivus/rivus/store/JobKind;" } : Jvm.MethodName) prog_34_method_1_code (0 : Nat) (Option.some (Jvm.ClassFile.FieldType.array (Jvm.ClassFile.FieldType.object "com/example/rivus/rivus/store/JobKind"))), Jvm.Cond.code ({ cls := "com/example/rivus/rivus/store/JobKindOfPinLaw", name := "expected", desc := "(I)Lcom/example/rivus/rivus/store/JobKind;" } : Jvm.MethodName) method_2_code (1 : Nat) (Option.some (Jvm.ClassFile.FieldType.object "com/example/rivus/rivus/store/JobKind")), Jvm.Cond.code ({ cls := "java/util/Optional", name := "isPresent", desc := "()Z" } : Jvm.MethodName) jdk_32_method_6_code (1 : Nat) (Option.some Jvm.ClassFile.FieldType.boolean), Jvm.Cond.code ({ cls := "java/util/Optional", name := "of", desc := "(Ljava/lang/Object;)Ljava/util/Optional;" } : Jvm.MethodName) jdk_32_method_3_code (1 : Nat) (Option.some (Jvm.ClassFile.FieldType.object "java/util/Optional")), Jvm.Cond.code ({ cls := "java/util/Objects", name := "requireNonNull", desc := "(Ljava/lang/Object;)Ljava/lang/Object;" } : Jvm.MethodName) jdk_31_method_10_code (1 : Nat) (Option.some (Jvm.ClassFile.FieldType.object "java/lang/Object")), Jvm.Cond.code ({ cls := "java/util/Optional", name := "<init>", desc := "(Ljava/lang/Object;)V" } : Jvm.MethodName) jdk_32_method_2_code (2 : Nat) (Option.none : Option Jvm.ClassFile.FieldType), Jvm.Cond.code ({ cls := "java/lang/Object", name := "<init>", desc := "()V" } : Jvm.MethodName) object_method_1_code (1 : Nat) (Option.none : Option Jvm.ClassFile.FieldType), Jvm.Cond.code ({ cls := "java/util/Optional", name := "get", desc := "()Ljava/lang/Object;" } : Jvm.MethodName) jdk_32_method_5_code (1 : Nat) (Option.some (Jvm.ClassFile.FieldType.object "java/lang/Object")), Jvm.Cond.code ({ cls := "com/example/rivus/rivus/store/JobKind", name := "code", desc := "()B" } : Jvm.MethodName) prog_34_method_4_code (1 : Nat) (Option.some Jvm.ClassFile.FieldType.byte)]
set_option maxRecDepth 65536 in
theorem codes_eq : words1.filter isCode = codes1 := rfl
theorem w_codes : ∀ c ∈ words1.filter isCode, c.before args0 about1 = true := by
  rw [codes_eq]
  intro c hc
  simp only [codes1, List.mem_cons, List.not_mem_nil, or_false] at hc
  rcases hc with rfl | rfl | rfl | rfl | rfl | rfl | rfl | rfl | rfl | rfl | rfl | rfl
  · exact w_c0
  · exact w_c1
  · exact w_c2
  · exact w_c3
  · exact w_c4
  · exact w_c5
  · exact w_c6
  · exact w_c7
  · exact w_c8
  · exact w_c9
  · exact w_c10
  · exact w_c11
set_option maxRecDepth 65536 in
theorem w_t1 : (words1.take 24).all (fun c => isCode c || c.before args0 about1) = true := by decide +kernel
set_option maxRecDepth 65536 in
theorem w_t2 : ((words1.drop 24).take 24).all (fun c => isCode c || c.before args0 about1) = true := by decide +kernel
set_option maxRecDepth 65536 in
theorem w_t3 : (((words1.drop 24).drop 24).take 24).all (fun c => isCode c || c.before args0 about1) = true := by decide +kernel
set_option maxRecDepth 65536 in
theorem w_t4 : (((words1.drop 24).drop 24).drop 24).all (fun c => isCode c || c.before args0 about1) = true := by decide +kernel
theorem w_tables : (allAtoms (Jvm.Cond.code x code maxLocals ret :: tables_1)).before args0 about1 = true := by
  rw [allAtoms_all]
  show words1.all (fun c => c.before args0 about1) = true
  refine all_split ?_ w_codes
  rw [← List.take_append_drop 24 words1, List.all_append, w_t1, ← List.take_append_drop 24 (words1.drop 24), List.all_append, w_t2, ← List.take_append_drop 24 ((words1.drop 24).drop 24), List.all_append, w_t3, w_t4]
  rfl
set_option maxRecDepth 65536 in
theorem w_rest : rest_1_c.before args0 about1 = true := by decide +kernel
set_option maxRecDepth 65536 in
theorem w_case : (Jvm.Cond.and given_1 narrow_1).before args0 about1 = true := by decide +kernel
theorem w_applies : (headSpec (Jvm.Cond.code x code maxLocals ret :: tables_1) room_1).applies x e0.platform about1 = true :=
  (Spec.applies_iff w_frames).mpr ⟨w_running, w_runnable, w_alone, w_named, w_hears, w_ripe, w_room, w_tables⟩
theorem atStart : AtStart classFile x code maxLocals ret World_1 tables_1 room_1 Calls_1 rest_1 Pre_1 launch0 p0 e0 about1 theMethod args0 below0 :=
  ⟨lists_1, trivial, launch0.admits_env _ _ _, launch0.least_env, fairChoices_fair.cas, fairChoices_fair.clock, w_frames, w_args, w_heap, w_applies, trivial, w_rest, w_case⟩
end start1
theorem witness_1 : WitnessClaimed_1 := ⟨start1.p0, start1.e0, start1.about1, start1.theMethod, start1.args0, start1.below0, start1.atStart⟩
end Jvm.Pilot.@@N@@
