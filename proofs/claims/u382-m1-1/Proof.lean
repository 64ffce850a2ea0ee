import JvmDerived
import JvmDerived.Pilot.@@N@@Statement
import JvmDerived.Pilot.@@N@@Code
set_option linter.unusedVariables false
set_option linter.unusedSimpArgs false
namespace Jvm.Pilot.@@N@@
open Jvm Jvm.ClassFile Sem Op Lib Jvm.Free Jvm.Stand Jvm.LawKit Jvm.RoadKit Bundle Jvm.Pilot.@@N@@.Jvm.D
/-! ## the common layer: a run that comes to an end of which Q speaks, step by step backwards -/
def Go (p : Program) (e : Env) (below : List Frame) (Q : Outcome → State → Prop) (S : State) : Prop :=
  ∃ s₂ o, Steps p.tables e below S s₂ ∧ s₂.status = .running ∧ Ended s₂ below o ∧ Q o s₂
theorem Go.back {p : Program} {e : Env} {below : List Frame} {Q : Outcome → State → Prop} {A B : State} (k : ∀ t, Steps p.tables e below B t → Steps p.tables e below A t) (h : Go p e below Q B) : Go p e below Q A := by
  obtain ⟨t, o, h1, h2⟩ := h
  exact ⟨t, o, k _ h1, h2⟩
theorem Go.cast {p : Program} {e : Env} {below : List Frame} {Q : Outcome → State → Prop} {A B : State} (k : A = B) (h : Go p e below Q B) : Go p e below Q A := k ▸ h
abbrev jv (x : Int64) : Slot := .val (.long x)
abbrev dv (x : UInt64) : Slot := .val (.double x)
abbrev un : Slot := .unset
abbrev sc : Slot := .second
/-- what a body knows of itself -/
def Cx (p : Program) (s : State) (m : MethodId) (meth : Method) (c : Code) (Z : State) (a0 : Array Value) (own : String) (bytes : ByteArray) (maxL : Nat) (ret : Option FieldType) (nm : String) : Prop :=
  p.tables.exec = Jvm.exec ∧ Z.Warmed39 s.vm ∧ (∀ d ∈ tables_1, d.before a0 Z = true) ∧ s.vm.findClass own = some m.cls ∧ c.code = bytes ∧ c.maxLocals = maxL ∧ meth.sig.returnType = ret ∧ meth.locks = false ∧ meth.name = nm
/-- where the run stands: heap h; every write so far lies at or above n0; k cells and n slots made at the most -/
def St (Z : State) (p : Program) (l : Launch) (e : Env) (R : Room) (s : State) (m : MethodId) (args : Array Value) (below : List Frame) (meth : Method) (c : Code) (n0 : Nat) (T : State) (h : Heap) (k n : Nat) : Prop :=
  ∃ locs, Stand p l e R s m args below meth c T locs k n ∧ Fr n0 locs ∧ Old Z n0 s.heap ∧ T.heap = h
def FinQ (s : State) (k n n0 : Nat) (Q : Option Value → Heap → Prop) (o : Outcome) (t : State) : Prop := ∃ v L, o = .returned v ∧ (Fr n0 L ∧ Q v t.heap) ∧ FrameEnd s o t L k n
/-- a body's contract -/
def Con (l : Launch) (Z : State) (y : MethodName) (bytes : ByteArray) (maxL : Nat) (ret : Option FieldType) (rm : Room) (as' : Array Value) (h : Heap) (n0 : Nat) (Q : Option Value → Heap → Prop) : Prop :=
  ∀ ws, MetFree l y (head1 (Jvm.Cond.code y bytes maxL ret :: ws) rm) (fun a U => a = as' ∧ Z.Warmed39 U.vm ∧ U.heap = h) (fun _ _ _ _ _ => True) (fun _ U o U' => ∃ v L, o = .returned v ∧ (Fr n0 L ∧ Q v U'.heap) ∧ FrameEnd U o U' L rm.cells rm.slots)
theorem con_of {l : Launch} {Z : State} {a0 : Array Value} {y : MethodName} {bytes : ByteArray} {maxL : Nat} {ret : Option FieldType} {rm : Room} {as' : Array Value} {h : Heap} {n0 : Nat} {Q : Option Value → Heap → Prop}
    (hw : ∀ d ∈ tables_1, d.before a0 Z = true) (hpl : plainFor y = true) (hn0 : Old Z n0 h)
    (body : ∀ p e s m below meth c T, Cx p s m meth c Z a0 y.cls bytes maxL ret y.name → St Z p l e rm s m as' below meth c n0 T h 0 0 → Go p e below (FinQ s rm.cells rm.slots n0 Q) (T.setTop (entryFrame m as' maxL))) :
    Con l Z y bytes maxL ret rm as' h n0 Q := by
  intro ws
  refine MetFree.of_bodySF hpl hisR ?_
  intro p e s m args below meth c s₁ Bd hml0 hP hK
  obtain ⟨rfl, hZ, hh⟩ := hP
  have e0 : s₁.heap = h := by rw [← hh, Bd.state]; rfl
  exact body p e s m below meth c s₁ ⟨Bd.exec, hZ, hw, findClass_of_methodNamed Bd.named, Bd.bytes, hml0, Bd.returns, Bd.notSynchronized, (name_of_methodNamed Bd.named Bd.method).1⟩ ⟨[], Stand.of_body Bd, Fr.nil n0, by rw [hh]; exact hn0, e0⟩
section Steps1
variable {p : Program} {l : Launch} {e : Env} {R : Room} {s : State} {m : MethodId} {args : Array Value} {below : List Frame} {meth : Method} {c : Code} {Z : State} {a0 : Array Value} {own : String} {bytes : ByteArray} {maxL : Nat} {ret : Option FieldType} {nm : String} {n0 : Nat} {T : State} {h : Heap} {k n : Nat} {Q : Outcome → State → Prop} {pc pc' pc2 : Nat} {Ls Ls' : Array Slot} {st : List Value}
theorem Cx.w (C : Cx p s m meth c Z a0 own bytes maxL ret nm) (i : Nat) {d : Jvm.Cond} (hd : tables_1[i]? = some d) : d.before a0 Z = true := C.2.2.1 _ (List.mem_of_getElem? hd)
theorem Cx.ws (C : Cx p s m meth c Z a0 own bytes maxL ret nm) : ∀ d ∈ tables_1, d.before a0 Z = true := C.2.2.1
theorem Cx.cd (C : Cx p s m meth c Z a0 own bytes maxL ret nm) {r : Except ClassFile.DecodeError (ClassFile.Instr × Nat)} (h2 : decode bytes pc = r) : decode c.code pc = r := hb C.2.2.2.2.1 h2
theorem Cx.ow (C : Cx p s m meth c Z a0 own bytes maxL ret nm) : s.vm.findClass own = some m.cls := C.2.2.2.1
theorem Cx.hZ (C : Cx p s m meth c Z a0 own bytes maxL ret nm) : Z.Warmed39 s.vm := C.2.1
theorem Cx.ml (C : Cx p s m meth c Z a0 own bytes maxL ret nm) : c.maxLocals = maxL := C.2.2.2.2.2.1
theorem Cx.rt (C : Cx p s m meth c Z a0 own bytes maxL ret nm) : meth.sig.returnType = ret := C.2.2.2.2.2.2.1
theorem Cx.lk (C : Cx p s m meth c Z a0 own bytes maxL ret nm) : meth.locks = false := C.2.2.2.2.2.2.2.1
theorem Cx.nmE (C : Cx p s m meth c Z a0 own bytes maxL ret nm) : meth.name = nm := C.2.2.2.2.2.2.2.2
theorem St.sz (X : St Z p l e R s m args below meth c n0 T h k n) : n0 ≤ h.size := by obtain ⟨_, Y, _, q, rfl⟩ := X; exact Nat.le_trans (Nat.le_trans (Nat.le_of_eq q.1.symm) q.2.1) Y.same.2.1
theorem St.old (X : St Z p l e R s m args below meth c n0 T h k n) : Old Z n0 h := by
  obtain ⟨locs, Y, N, o, rfl⟩ := X
  refine ⟨o.1, Nat.le_trans o.2.1 Y.same.2.1, fun a ce hc => ?_⟩
  obtain ⟨c', e1, e2, e3, e4⟩ := Y.same.2.2.2.2.2 a ce (o.2.2 a ce hc)
  have lt := (Array.getElem?_eq_some_iff.mp hc).1
  have hs : c'.slots = ce.slots := Array.ext_getElem? fun i => e4 i fun q => by have := N _ q; have := o.1; simp at *; omega
  rw [hs] at e2
  exact (show c' = ce from e2) ▸ e1
theorem St.more (X : St Z p l e R s m args below meth c n0 T h k n) {k' n' : Nat} (hk : k ≤ k') (hn : n ≤ n') : St Z p l e R s m args below meth c n0 T h k' n' := by
  obtain ⟨locs, Y, r⟩ := X
  exact ⟨locs, Y.more hk hn, r⟩

theorem go_iload (C : Cx p s m meth c Z a0 own bytes maxL ret nm) (X : St Z p l e R s m args below meth c n0 T h k n) {i : Nat} {v : Int32} (pc' : Nat) (hp : pc + 2 = pc') (hd : decode bytes pc = .ok (.iload i, 2)) (hl : Ls[i]? = some (.val (.int v))) (hr : Go p e below Q (T.setTop (mkF m pc' Ls (.int v :: st)))) : Go p e below Q (T.setTop (mkF m pc Ls st)) := by
  subst hp
  obtain ⟨locs, Y, -, -, -⟩ := X
  exact Go.back (fun t kt => Jvm.Free.XS.iload Y.here C.1 rfl (C.cd hd) hl kt) hr
theorem go_iloadN (C : Cx p s m meth c Z a0 own bytes maxL ret nm) (X : St Z p l e R s m args below meth c n0 T h k n) {i : Fin 4} {v : Int32} (pc' : Nat) (hp : pc + 1 = pc') (hd : decode bytes pc = .ok (.iload_n i, 1)) (hl : Ls[i.val]? = some (.val (.int v))) (hr : Go p e below Q (T.setTop (mkF m pc' Ls (.int v :: st)))) : Go p e below Q (T.setTop (mkF m pc Ls st)) := by
  subst hp
  obtain ⟨locs, Y, -, -, -⟩ := X
  exact Go.back (fun t kt => Jvm.Free.XS.iloadN Y.here C.1 rfl (C.cd hd) hl kt) hr
theorem go_istore (C : Cx p s m meth c Z a0 own bytes maxL ret nm) (X : St Z p l e R s m args below meth c n0 T h k n) {i : Nat} {v : Int32} (pc' : Nat) (hp : pc + 2 = pc') (hd : decode bytes pc = .ok (.istore i, 2)) (Ls' : Array Slot) (hl : storeLocals Ls i (.int v) = some Ls') (hr : Go p e below Q (T.setTop (mkF m pc' Ls' st))) : Go p e below Q (T.setTop (mkF m pc Ls (.int v :: st))) := by
  subst hp
  obtain ⟨locs, Y, -, -, -⟩ := X
  exact Go.back (fun t kt => Jvm.Free.XS.istore Y.here C.1 rfl (C.cd hd) rfl hl kt) hr
theorem go_istoreN (C : Cx p s m meth c Z a0 own bytes maxL ret nm) (X : St Z p l e R s m args below meth c n0 T h k n) {i : Fin 4} {v : Int32} (pc' : Nat) (hp : pc + 1 = pc') (hd : decode bytes pc = .ok (.istore_n i, 1)) (Ls' : Array Slot) (hl : storeLocals Ls i.val (.int v) = some Ls') (hr : Go p e below Q (T.setTop (mkF m pc' Ls' st))) : Go p e below Q (T.setTop (mkF m pc Ls (.int v :: st))) := by
  subst hp
  obtain ⟨locs, Y, -, -, -⟩ := X
  exact Go.back (fun t kt => Jvm.Free.XS.istoreN Y.here C.1 rfl (C.cd hd) rfl hl kt) hr
theorem go_lload (C : Cx p s m meth c Z a0 own bytes maxL ret nm) (X : St Z p l e R s m args below meth c n0 T h k n) {i : Nat} {v : Int64} (pc' : Nat) (hp : pc + 2 = pc') (hd : decode bytes pc = .ok (.lload i, 2)) (hl : Ls[i]? = some (.val (.long v))) (hr : Go p e below Q (T.setTop (mkF m pc' Ls (.long v :: st)))) : Go p e below Q (T.setTop (mkF m pc Ls st)) := by
  subst hp
  obtain ⟨locs, Y, -, -, -⟩ := X
  exact Go.back (fun t kt => Jvm.Free.XS.lload Y.here C.1 rfl (C.cd hd) hl kt) hr
theorem go_lloadN (C : Cx p s m meth c Z a0 own bytes maxL ret nm) (X : St Z p l e R s m args below meth c n0 T h k n) {i : Fin 4} {v : Int64} (pc' : Nat) (hp : pc + 1 = pc') (hd : decode bytes pc = .ok (.lload_n i, 1)) (hl : Ls[i.val]? = some (.val (.long v))) (hr : Go p e below Q (T.setTop (mkF m pc' Ls (.long v :: st)))) : Go p e below Q (T.setTop (mkF m pc Ls st)) := by
  subst hp
  obtain ⟨locs, Y, -, -, -⟩ := X
  exact Go.back (fun t kt => Jvm.Free.XS.lloadN Y.here C.1 rfl (C.cd hd) hl kt) hr
theorem go_lstore (C : Cx p s m meth c Z a0 own bytes maxL ret nm) (X : St Z p l e R s m args below meth c n0 T h k n) {i : Nat} {v : Int64} (pc' : Nat) (hp : pc + 2 = pc') (hd : decode bytes pc = .ok (.lstore i, 2)) (Ls' : Array Slot) (hl : storeLocals Ls i (.long v) = some Ls') (hr : Go p e below Q (T.setTop (mkF m pc' Ls' st))) : Go p e below Q (T.setTop (mkF m pc Ls (.long v :: st))) := by
  subst hp
  obtain ⟨locs, Y, -, -, -⟩ := X
  exact Go.back (fun t kt => Jvm.Free.XS.lstore Y.here C.1 rfl (C.cd hd) rfl hl kt) hr
theorem go_lstoreN (C : Cx p s m meth c Z a0 own bytes maxL ret nm) (X : St Z p l e R s m args below meth c n0 T h k n) {i : Fin 4} {v : Int64} (pc' : Nat) (hp : pc + 1 = pc') (hd : decode bytes pc = .ok (.lstore_n i, 1)) (Ls' : Array Slot) (hl : storeLocals Ls i.val (.long v) = some Ls') (hr : Go p e below Q (T.setTop (mkF m pc' Ls' st))) : Go p e below Q (T.setTop (mkF m pc Ls (.long v :: st))) := by
  subst hp
  obtain ⟨locs, Y, -, -, -⟩ := X
  exact Go.back (fun t kt => Jvm.Free.XS.lstoreN Y.here C.1 rfl (C.cd hd) rfl hl kt) hr
theorem go_aload (C : Cx p s m meth c Z a0 own bytes maxL ret nm) (X : St Z p l e R s m args below meth c n0 T h k n) {i : Nat} {v : Value} (pc' : Nat) (hp : pc + 2 = pc') (hd : decode bytes pc = .ok (.aload i, 2)) (hl : Ls[i]? = some (.val v)) (hv : v.isRef = true) (hr : Go p e below Q (T.setTop (mkF m pc' Ls (v :: st)))) : Go p e below Q (T.setTop (mkF m pc Ls st)) := by
  subst hp
  obtain ⟨locs, Y, -, -, -⟩ := X
  exact Go.back (fun t kt => Jvm.Free.XS.aload Y.here C.1 rfl (C.cd hd) hl hv kt) hr
theorem go_aloadN (C : Cx p s m meth c Z a0 own bytes maxL ret nm) (X : St Z p l e R s m args below meth c n0 T h k n) {i : Fin 4} {v : Value} (pc' : Nat) (hp : pc + 1 = pc') (hd : decode bytes pc = .ok (.aload_n i, 1)) (hl : Ls[i.val]? = some (.val v)) (hv : v.isRef = true) (hr : Go p e below Q (T.setTop (mkF m pc' Ls (v :: st)))) : Go p e below Q (T.setTop (mkF m pc Ls st)) := by
  subst hp
  obtain ⟨locs, Y, -, -, -⟩ := X
  exact Go.back (fun t kt => Jvm.Free.XS.aloadN Y.here C.1 rfl (C.cd hd) hl hv kt) hr
theorem go_astore (C : Cx p s m meth c Z a0 own bytes maxL ret nm) (X : St Z p l e R s m args below meth c n0 T h k n) {i : Nat} {v : Value} (pc' : Nat) (hp : pc + 2 = pc') (hd : decode bytes pc = .ok (.astore i, 2)) (hv : v.isRef = true) (Ls' : Array Slot) (hl : storeLocals Ls i v = some Ls') (hr : Go p e below Q (T.setTop (mkF m pc' Ls' st))) : Go p e below Q (T.setTop (mkF m pc Ls (v :: st))) := by
  subst hp
  obtain ⟨locs, Y, -, -, -⟩ := X
  exact Go.back (fun t kt => Jvm.Free.XS.astore Y.here C.1 rfl (C.cd hd) rfl hv hl kt) hr
theorem go_astoreN (C : Cx p s m meth c Z a0 own bytes maxL ret nm) (X : St Z p l e R s m args below meth c n0 T h k n) {i : Fin 4} {v : Value} (pc' : Nat) (hp : pc + 1 = pc') (hd : decode bytes pc = .ok (.astore_n i, 1)) (hv : v.isRef = true) (Ls' : Array Slot) (hl : storeLocals Ls i.val v = some Ls') (hr : Go p e below Q (T.setTop (mkF m pc' Ls' st))) : Go p e below Q (T.setTop (mkF m pc Ls (v :: st))) := by
  subst hp
  obtain ⟨locs, Y, -, -, -⟩ := X
  exact Go.back (fun t kt => Jvm.Free.XS.astoreN Y.here C.1 rfl (C.cd hd) rfl hv hl kt) hr
theorem go_iconst (C : Cx p s m meth c Z a0 own bytes maxL ret nm) (X : St Z p l e R s m args below meth c n0 T h k n) {i : Int} {z : Int32} (pc' : Nat) (hp : pc + 1 = pc') (hd : decode bytes pc = .ok (.iconst i, 1)) (hz : Int32.ofInt i = z) (hr : Go p e below Q (T.setTop (mkF m pc' Ls (.int z :: st)))) : Go p e below Q (T.setTop (mkF m pc Ls st)) := by
  subst hp
  obtain ⟨locs, Y, -, -, -⟩ := X
  exact Go.back (fun t kt => by subst hz; exact Jvm.Free.XS.iconst Y.here C.1 rfl (C.cd hd) kt) hr
theorem go_bipush (C : Cx p s m meth c Z a0 own bytes maxL ret nm) (X : St Z p l e R s m args below meth c n0 T h k n) {i : Int} {z : Int32} (pc' : Nat) (hp : pc + 2 = pc') (hd : decode bytes pc = .ok (.bipush i, 2)) (hz : (Int8.ofInt i).toInt32 = z) (hr : Go p e below Q (T.setTop (mkF m pc' Ls (.int z :: st)))) : Go p e below Q (T.setTop (mkF m pc Ls st)) := by
  subst hp
  obtain ⟨locs, Y, -, -, -⟩ := X
  exact Go.back (fun t kt => by subst hz; exact Jvm.Free.XS.bipush Y.here C.1 rfl (C.cd hd) kt) hr
theorem go_sipush (C : Cx p s m meth c Z a0 own bytes maxL ret nm) (X : St Z p l e R s m args below meth c n0 T h k n) {i : Int} {z : Int32} (pc' : Nat) (hp : pc + 3 = pc') (hd : decode bytes pc = .ok (.sipush i, 3)) (hz : (Int16.ofInt i).toInt32 = z) (hr : Go p e below Q (T.setTop (mkF m pc' Ls (.int z :: st)))) : Go p e below Q (T.setTop (mkF m pc Ls st)) := by
  subst hp
  obtain ⟨locs, Y, -, -, -⟩ := X
  exact Go.back (fun t kt => by subst hz; exact Jvm.Free.XS.sipush Y.here C.1 rfl (C.cd hd) kt) hr
theorem go_lconst (C : Cx p s m meth c Z a0 own bytes maxL ret nm) (X : St Z p l e R s m args below meth c n0 T h k n) {i : Fin 2} {z : Int64} (pc' : Nat) (hp : pc + 1 = pc') (hd : decode bytes pc = .ok (.lconst i, 1)) (hz : Int64.ofNat i = z) (hr : Go p e below Q (T.setTop (mkF m pc' Ls (.long z :: st)))) : Go p e below Q (T.setTop (mkF m pc Ls st)) := by
  subst hp
  obtain ⟨locs, Y, -, -, -⟩ := X
  exact Go.back (fun t kt => by subst hz; exact Jvm.Free.XS.lconst Y.here C.1 rfl (C.cd hd) kt) hr
theorem go_aconstNull (C : Cx p s m meth c Z a0 own bytes maxL ret nm) (X : St Z p l e R s m args below meth c n0 T h k n)  (pc' : Nat) (hp : pc + 1 = pc') (hd : decode bytes pc = .ok (.aconst_null, 1)) (hr : Go p e below Q (T.setTop (mkF m pc' Ls (.null :: st)))) : Go p e below Q (T.setTop (mkF m pc Ls st)) := by
  subst hp
  obtain ⟨locs, Y, -, -, -⟩ := X
  exact Go.back (fun t kt => Jvm.Free.XS.aconstNull Y.here C.1 rfl (C.cd hd) kt) hr
theorem go_iaddL (C : Cx p s m meth c Z a0 own bytes maxL ret nm) (X : St Z p l e R s m args below meth c n0 T h k n) {x y z : Int32} (pc' : Nat) (hp : pc + 1 = pc') (hd : decode bytes pc = .ok (.iadd, 1)) (hz : x + y = z) (hr : Go p e below Q (T.setTop (mkF m pc' Ls (.int z :: st)))) : Go p e below Q (T.setTop (mkF m pc Ls (.int y :: .int x :: st))) := by
  subst hp
  obtain ⟨locs, Y, -, -, -⟩ := X
  exact Go.back (fun t kt => by subst hz; exact Jvm.Free.XS.iadd Y.here C.1 rfl (C.cd hd) rfl kt) hr
theorem go_iadd (C : Cx p s m meth c Z a0 own bytes maxL ret nm) (X : St Z p l e R s m args below meth c n0 T h k n) {x y : Int32} (pc' : Nat) (hp : pc + 1 = pc') (hd : decode bytes pc = .ok (.iadd, 1)) (hr : Go p e below Q (T.setTop (mkF m pc' Ls (.int (x + y) :: st)))) : Go p e below Q (T.setTop (mkF m pc Ls (.int y :: .int x :: st))) := by
  subst hp
  obtain ⟨locs, Y, -, -, -⟩ := X
  exact Go.back (fun t kt => Jvm.Free.XS.iadd Y.here C.1 rfl (C.cd hd) rfl kt) hr
theorem go_isubL (C : Cx p s m meth c Z a0 own bytes maxL ret nm) (X : St Z p l e R s m args below meth c n0 T h k n) {x y z : Int32} (pc' : Nat) (hp : pc + 1 = pc') (hd : decode bytes pc = .ok (.isub, 1)) (hz : x - y = z) (hr : Go p e below Q (T.setTop (mkF m pc' Ls (.int z :: st)))) : Go p e below Q (T.setTop (mkF m pc Ls (.int y :: .int x :: st))) := by
  subst hp
  obtain ⟨locs, Y, -, -, -⟩ := X
  exact Go.back (fun t kt => by subst hz; exact Jvm.Free.XS.isub Y.here C.1 rfl (C.cd hd) rfl kt) hr
theorem go_isub (C : Cx p s m meth c Z a0 own bytes maxL ret nm) (X : St Z p l e R s m args below meth c n0 T h k n) {x y : Int32} (pc' : Nat) (hp : pc + 1 = pc') (hd : decode bytes pc = .ok (.isub, 1)) (hr : Go p e below Q (T.setTop (mkF m pc' Ls (.int (x - y) :: st)))) : Go p e below Q (T.setTop (mkF m pc Ls (.int y :: .int x :: st))) := by
  subst hp
  obtain ⟨locs, Y, -, -, -⟩ := X
  exact Go.back (fun t kt => Jvm.Free.XS.isub Y.here C.1 rfl (C.cd hd) rfl kt) hr
theorem go_imulL (C : Cx p s m meth c Z a0 own bytes maxL ret nm) (X : St Z p l e R s m args below meth c n0 T h k n) {x y z : Int32} (pc' : Nat) (hp : pc + 1 = pc') (hd : decode bytes pc = .ok (.imul, 1)) (hz : x * y = z) (hr : Go p e below Q (T.setTop (mkF m pc' Ls (.int z :: st)))) : Go p e below Q (T.setTop (mkF m pc Ls (.int y :: .int x :: st))) := by
  subst hp
  obtain ⟨locs, Y, -, -, -⟩ := X
  exact Go.back (fun t kt => by subst hz; exact Jvm.Free.XS.imul Y.here C.1 rfl (C.cd hd) rfl kt) hr
theorem go_imul (C : Cx p s m meth c Z a0 own bytes maxL ret nm) (X : St Z p l e R s m args below meth c n0 T h k n) {x y : Int32} (pc' : Nat) (hp : pc + 1 = pc') (hd : decode bytes pc = .ok (.imul, 1)) (hr : Go p e below Q (T.setTop (mkF m pc' Ls (.int (x * y) :: st)))) : Go p e below Q (T.setTop (mkF m pc Ls (.int y :: .int x :: st))) := by
  subst hp
  obtain ⟨locs, Y, -, -, -⟩ := X
  exact Go.back (fun t kt => Jvm.Free.XS.imul Y.here C.1 rfl (C.cd hd) rfl kt) hr
theorem go_iandL (C : Cx p s m meth c Z a0 own bytes maxL ret nm) (X : St Z p l e R s m args below meth c n0 T h k n) {x y z : Int32} (pc' : Nat) (hp : pc + 1 = pc') (hd : decode bytes pc = .ok (.iand, 1)) (hz : x &&& y = z) (hr : Go p e below Q (T.setTop (mkF m pc' Ls (.int z :: st)))) : Go p e below Q (T.setTop (mkF m pc Ls (.int y :: .int x :: st))) := by
  subst hp
  obtain ⟨locs, Y, -, -, -⟩ := X
  exact Go.back (fun t kt => by subst hz; exact Jvm.Free.XS.iand Y.here C.1 rfl (C.cd hd) rfl kt) hr
theorem go_iand (C : Cx p s m meth c Z a0 own bytes maxL ret nm) (X : St Z p l e R s m args below meth c n0 T h k n) {x y : Int32} (pc' : Nat) (hp : pc + 1 = pc') (hd : decode bytes pc = .ok (.iand, 1)) (hr : Go p e below Q (T.setTop (mkF m pc' Ls (.int (x &&& y) :: st)))) : Go p e below Q (T.setTop (mkF m pc Ls (.int y :: .int x :: st))) := by
  subst hp
  obtain ⟨locs, Y, -, -, -⟩ := X
  exact Go.back (fun t kt => Jvm.Free.XS.iand Y.here C.1 rfl (C.cd hd) rfl kt) hr
theorem go_iorL (C : Cx p s m meth c Z a0 own bytes maxL ret nm) (X : St Z p l e R s m args below meth c n0 T h k n) {x y z : Int32} (pc' : Nat) (hp : pc + 1 = pc') (hd : decode bytes pc = .ok (.ior, 1)) (hz : x ||| y = z) (hr : Go p e below Q (T.setTop (mkF m pc' Ls (.int z :: st)))) : Go p e below Q (T.setTop (mkF m pc Ls (.int y :: .int x :: st))) := by
  subst hp
  obtain ⟨locs, Y, -, -, -⟩ := X
  exact Go.back (fun t kt => by subst hz; exact Jvm.Free.XS.ior Y.here C.1 rfl (C.cd hd) rfl kt) hr
theorem go_ior (C : Cx p s m meth c Z a0 own bytes maxL ret nm) (X : St Z p l e R s m args below meth c n0 T h k n) {x y : Int32} (pc' : Nat) (hp : pc + 1 = pc') (hd : decode bytes pc = .ok (.ior, 1)) (hr : Go p e below Q (T.setTop (mkF m pc' Ls (.int (x ||| y) :: st)))) : Go p e below Q (T.setTop (mkF m pc Ls (.int y :: .int x :: st))) := by
  subst hp
  obtain ⟨locs, Y, -, -, -⟩ := X
  exact Go.back (fun t kt => Jvm.Free.XS.ior Y.here C.1 rfl (C.cd hd) rfl kt) hr
theorem go_ixorL (C : Cx p s m meth c Z a0 own bytes maxL ret nm) (X : St Z p l e R s m args below meth c n0 T h k n) {x y z : Int32} (pc' : Nat) (hp : pc + 1 = pc') (hd : decode bytes pc = .ok (.ixor, 1)) (hz : x ^^^ y = z) (hr : Go p e below Q (T.setTop (mkF m pc' Ls (.int z :: st)))) : Go p e below Q (T.setTop (mkF m pc Ls (.int y :: .int x :: st))) := by
  subst hp
  obtain ⟨locs, Y, -, -, -⟩ := X
  exact Go.back (fun t kt => by subst hz; exact Jvm.Free.XS.ixor Y.here C.1 rfl (C.cd hd) rfl kt) hr
theorem go_ixor (C : Cx p s m meth c Z a0 own bytes maxL ret nm) (X : St Z p l e R s m args below meth c n0 T h k n) {x y : Int32} (pc' : Nat) (hp : pc + 1 = pc') (hd : decode bytes pc = .ok (.ixor, 1)) (hr : Go p e below Q (T.setTop (mkF m pc' Ls (.int (x ^^^ y) :: st)))) : Go p e below Q (T.setTop (mkF m pc Ls (.int y :: .int x :: st))) := by
  subst hp
  obtain ⟨locs, Y, -, -, -⟩ := X
  exact Go.back (fun t kt => Jvm.Free.XS.ixor Y.here C.1 rfl (C.cd hd) rfl kt) hr
theorem go_idiv (C : Cx p s m meth c Z a0 own bytes maxL ret nm) (X : St Z p l e R s m args below meth c n0 T h k n) {x y : Int32} (pc' : Nat) (hp : pc + 1 = pc') (hd : decode bytes pc = .ok (.idiv, 1)) (hy : y ≠ 0) (hr : Go p e below Q (T.setTop (mkF m pc' Ls (.int (x / y) :: st)))) : Go p e below Q (T.setTop (mkF m pc Ls (.int y :: .int x :: st))) := by
  subst hp
  obtain ⟨locs, Y, -, -, -⟩ := X
  exact Go.back (fun t kt => Jvm.Free.XS.idiv Y.here C.1 rfl (C.cd hd) rfl hy kt) hr
theorem go_ineg (C : Cx p s m meth c Z a0 own bytes maxL ret nm) (X : St Z p l e R s m args below meth c n0 T h k n) {x : Int32} (pc' : Nat) (hp : pc + 1 = pc') (hd : decode bytes pc = .ok (.ineg, 1)) (hr : Go p e below Q (T.setTop (mkF m pc' Ls (.int (-x) :: st)))) : Go p e below Q (T.setTop (mkF m pc Ls (.int x :: st))) := by
  subst hp
  obtain ⟨locs, Y, -, -, -⟩ := X
  exact Go.back (fun t kt => Jvm.Free.XS.ineg Y.here C.1 rfl (C.cd hd) rfl kt) hr
theorem go_laddL (C : Cx p s m meth c Z a0 own bytes maxL ret nm) (X : St Z p l e R s m args below meth c n0 T h k n) {x y z : Int64} (pc' : Nat) (hp : pc + 1 = pc') (hd : decode bytes pc = .ok (.ladd, 1)) (hz : x + y = z) (hr : Go p e below Q (T.setTop (mkF m pc' Ls (.long z :: st)))) : Go p e below Q (T.setTop (mkF m pc Ls (.long y :: .long x :: st))) := by
  subst hp
  obtain ⟨locs, Y, -, -, -⟩ := X
  exact Go.back (fun t kt => by subst hz; exact Jvm.Free.XS.ladd Y.here C.1 rfl (C.cd hd) rfl kt) hr
theorem go_ladd (C : Cx p s m meth c Z a0 own bytes maxL ret nm) (X : St Z p l e R s m args below meth c n0 T h k n) {x y : Int64} (pc' : Nat) (hp : pc + 1 = pc') (hd : decode bytes pc = .ok (.ladd, 1)) (hr : Go p e below Q (T.setTop (mkF m pc' Ls (.long (x + y) :: st)))) : Go p e below Q (T.setTop (mkF m pc Ls (.long y :: .long x :: st))) := by
  subst hp
  obtain ⟨locs, Y, -, -, -⟩ := X
  exact Go.back (fun t kt => Jvm.Free.XS.ladd Y.here C.1 rfl (C.cd hd) rfl kt) hr
theorem go_lsubL (C : Cx p s m meth c Z a0 own bytes maxL ret nm) (X : St Z p l e R s m args below meth c n0 T h k n) {x y z : Int64} (pc' : Nat) (hp : pc + 1 = pc') (hd : decode bytes pc = .ok (.lsub, 1)) (hz : x - y = z) (hr : Go p e below Q (T.setTop (mkF m pc' Ls (.long z :: st)))) : Go p e below Q (T.setTop (mkF m pc Ls (.long y :: .long x :: st))) := by
  subst hp
  obtain ⟨locs, Y, -, -, -⟩ := X
  exact Go.back (fun t kt => by subst hz; exact Jvm.Free.XS.lsub Y.here C.1 rfl (C.cd hd) rfl kt) hr
theorem go_lsub (C : Cx p s m meth c Z a0 own bytes maxL ret nm) (X : St Z p l e R s m args below meth c n0 T h k n) {x y : Int64} (pc' : Nat) (hp : pc + 1 = pc') (hd : decode bytes pc = .ok (.lsub, 1)) (hr : Go p e below Q (T.setTop (mkF m pc' Ls (.long (x - y) :: st)))) : Go p e below Q (T.setTop (mkF m pc Ls (.long y :: .long x :: st))) := by
  subst hp
  obtain ⟨locs, Y, -, -, -⟩ := X
  exact Go.back (fun t kt => Jvm.Free.XS.lsub Y.here C.1 rfl (C.cd hd) rfl kt) hr
theorem go_lmulL (C : Cx p s m meth c Z a0 own bytes maxL ret nm) (X : St Z p l e R s m args below meth c n0 T h k n) {x y z : Int64} (pc' : Nat) (hp : pc + 1 = pc') (hd : decode bytes pc = .ok (.lmul, 1)) (hz : x * y = z) (hr : Go p e below Q (T.setTop (mkF m pc' Ls (.long z :: st)))) : Go p e below Q (T.setTop (mkF m pc Ls (.long y :: .long x :: st))) := by
  subst hp
  obtain ⟨locs, Y, -, -, -⟩ := X
  exact Go.back (fun t kt => by subst hz; exact Jvm.Free.XS.lmul Y.here C.1 rfl (C.cd hd) rfl kt) hr
theorem go_lmul (C : Cx p s m meth c Z a0 own bytes maxL ret nm) (X : St Z p l e R s m args below meth c n0 T h k n) {x y : Int64} (pc' : Nat) (hp : pc + 1 = pc') (hd : decode bytes pc = .ok (.lmul, 1)) (hr : Go p e below Q (T.setTop (mkF m pc' Ls (.long (x * y) :: st)))) : Go p e below Q (T.setTop (mkF m pc Ls (.long y :: .long x :: st))) := by
  subst hp
  obtain ⟨locs, Y, -, -, -⟩ := X
  exact Go.back (fun t kt => Jvm.Free.XS.lmul Y.here C.1 rfl (C.cd hd) rfl kt) hr
theorem go_landL (C : Cx p s m meth c Z a0 own bytes maxL ret nm) (X : St Z p l e R s m args below meth c n0 T h k n) {x y z : Int64} (pc' : Nat) (hp : pc + 1 = pc') (hd : decode bytes pc = .ok (.land, 1)) (hz : x &&& y = z) (hr : Go p e below Q (T.setTop (mkF m pc' Ls (.long z :: st)))) : Go p e below Q (T.setTop (mkF m pc Ls (.long y :: .long x :: st))) := by
  subst hp
  obtain ⟨locs, Y, -, -, -⟩ := X
  exact Go.back (fun t kt => by subst hz; exact Jvm.Free.XS.land Y.here C.1 rfl (C.cd hd) rfl kt) hr
theorem go_land (C : Cx p s m meth c Z a0 own bytes maxL ret nm) (X : St Z p l e R s m args below meth c n0 T h k n) {x y : Int64} (pc' : Nat) (hp : pc + 1 = pc') (hd : decode bytes pc = .ok (.land, 1)) (hr : Go p e below Q (T.setTop (mkF m pc' Ls (.long (x &&& y) :: st)))) : Go p e below Q (T.setTop (mkF m pc Ls (.long y :: .long x :: st))) := by
  subst hp
  obtain ⟨locs, Y, -, -, -⟩ := X
  exact Go.back (fun t kt => Jvm.Free.XS.land Y.here C.1 rfl (C.cd hd) rfl kt) hr
theorem go_lorL (C : Cx p s m meth c Z a0 own bytes maxL ret nm) (X : St Z p l e R s m args below meth c n0 T h k n) {x y z : Int64} (pc' : Nat) (hp : pc + 1 = pc') (hd : decode bytes pc = .ok (.lor, 1)) (hz : x ||| y = z) (hr : Go p e below Q (T.setTop (mkF m pc' Ls (.long z :: st)))) : Go p e below Q (T.setTop (mkF m pc Ls (.long y :: .long x :: st))) := by
  subst hp
  obtain ⟨locs, Y, -, -, -⟩ := X
  exact Go.back (fun t kt => by subst hz; exact Jvm.Free.XS.lor Y.here C.1 rfl (C.cd hd) rfl kt) hr
theorem go_lor (C : Cx p s m meth c Z a0 own bytes maxL ret nm) (X : St Z p l e R s m args below meth c n0 T h k n) {x y : Int64} (pc' : Nat) (hp : pc + 1 = pc') (hd : decode bytes pc = .ok (.lor, 1)) (hr : Go p e below Q (T.setTop (mkF m pc' Ls (.long (x ||| y) :: st)))) : Go p e below Q (T.setTop (mkF m pc Ls (.long y :: .long x :: st))) := by
  subst hp
  obtain ⟨locs, Y, -, -, -⟩ := X
  exact Go.back (fun t kt => Jvm.Free.XS.lor Y.here C.1 rfl (C.cd hd) rfl kt) hr
theorem go_lxorL (C : Cx p s m meth c Z a0 own bytes maxL ret nm) (X : St Z p l e R s m args below meth c n0 T h k n) {x y z : Int64} (pc' : Nat) (hp : pc + 1 = pc') (hd : decode bytes pc = .ok (.lxor, 1)) (hz : x ^^^ y = z) (hr : Go p e below Q (T.setTop (mkF m pc' Ls (.long z :: st)))) : Go p e below Q (T.setTop (mkF m pc Ls (.long y :: .long x :: st))) := by
  subst hp
  obtain ⟨locs, Y, -, -, -⟩ := X
  exact Go.back (fun t kt => by subst hz; exact Jvm.Free.XS.lxor Y.here C.1 rfl (C.cd hd) rfl kt) hr
theorem go_lxor (C : Cx p s m meth c Z a0 own bytes maxL ret nm) (X : St Z p l e R s m args below meth c n0 T h k n) {x y : Int64} (pc' : Nat) (hp : pc + 1 = pc') (hd : decode bytes pc = .ok (.lxor, 1)) (hr : Go p e below Q (T.setTop (mkF m pc' Ls (.long (x ^^^ y) :: st)))) : Go p e below Q (T.setTop (mkF m pc Ls (.long y :: .long x :: st))) := by
  subst hp
  obtain ⟨locs, Y, -, -, -⟩ := X
  exact Go.back (fun t kt => Jvm.Free.XS.lxor Y.here C.1 rfl (C.cd hd) rfl kt) hr
theorem go_ldiv (C : Cx p s m meth c Z a0 own bytes maxL ret nm) (X : St Z p l e R s m args below meth c n0 T h k n) {x y : Int64} (pc' : Nat) (hp : pc + 1 = pc') (hd : decode bytes pc = .ok (.ldiv, 1)) (hy : y ≠ 0) (hr : Go p e below Q (T.setTop (mkF m pc' Ls (.long (x / y) :: st)))) : Go p e below Q (T.setTop (mkF m pc Ls (.long y :: .long x :: st))) := by
  subst hp
  obtain ⟨locs, Y, -, -, -⟩ := X
  exact Go.back (fun t kt => Jvm.Free.XS.ldiv Y.here C.1 rfl (C.cd hd) rfl hy kt) hr
theorem go_lneg (C : Cx p s m meth c Z a0 own bytes maxL ret nm) (X : St Z p l e R s m args below meth c n0 T h k n) {x : Int64} (pc' : Nat) (hp : pc + 1 = pc') (hd : decode bytes pc = .ok (.lneg, 1)) (hr : Go p e below Q (T.setTop (mkF m pc' Ls (.long (-x) :: st)))) : Go p e below Q (T.setTop (mkF m pc Ls (.long x :: st))) := by
  subst hp
  obtain ⟨locs, Y, -, -, -⟩ := X
  exact Go.back (fun t kt => Jvm.Free.XS.lneg Y.here C.1 rfl (C.cd hd) rfl kt) hr
theorem go_irem (C : Cx p s m meth c Z a0 own bytes maxL ret nm) (X : St Z p l e R s m args below meth c n0 T h k n) {x y : Int32} (pc' : Nat) (hp : pc + 1 = pc') (hd : decode bytes pc = .ok (.irem, 1)) (hy : y ≠ 0) (hr : Go p e below Q (T.setTop (mkF m pc' Ls (.int (x % y) :: st)))) : Go p e below Q (T.setTop (mkF m pc Ls (.int y :: .int x :: st))) := by
  subst hp
  obtain ⟨locs, Y, -, -, -⟩ := X
  exact Go.back (fun t kt => iremM Y C.1 rfl (C.cd hd) rfl hy kt) hr
theorem go_lrem (C : Cx p s m meth c Z a0 own bytes maxL ret nm) (X : St Z p l e R s m args below meth c n0 T h k n) {x y : Int64} (pc' : Nat) (hp : pc + 1 = pc') (hd : decode bytes pc = .ok (.lrem, 1)) (hy : y ≠ 0) (hr : Go p e below Q (T.setTop (mkF m pc' Ls (.long (x % y) :: st)))) : Go p e below Q (T.setTop (mkF m pc Ls (.long y :: .long x :: st))) := by
  subst hp
  obtain ⟨locs, Y, -, -, -⟩ := X
  exact Go.back (fun t kt => by rw [← lrem_mod] at kt; exact Jvm.Free.XS.lrem Y.here C.1 rfl (C.cd hd) rfl hy kt) hr
theorem go_i2l (C : Cx p s m meth c Z a0 own bytes maxL ret nm) (X : St Z p l e R s m args below meth c n0 T h k n) {x : Int32} (pc' : Nat) (hp : pc + 1 = pc') (hd : decode bytes pc = .ok (.i2l, 1)) (hr : Go p e below Q (T.setTop (mkF m pc' Ls (.long (x.toInt64) :: st)))) : Go p e below Q (T.setTop (mkF m pc Ls (.int x :: st))) := by
  subst hp
  obtain ⟨locs, Y, -, -, -⟩ := X
  exact Go.back (fun t kt => Jvm.Free.XS.i2l Y.here C.1 rfl (C.cd hd) rfl kt) hr
theorem go_l2i (C : Cx p s m meth c Z a0 own bytes maxL ret nm) (X : St Z p l e R s m args below meth c n0 T h k n) {x : Int64} (pc' : Nat) (hp : pc + 1 = pc') (hd : decode bytes pc = .ok (.l2i, 1)) (hr : Go p e below Q (T.setTop (mkF m pc' Ls (.int (x.toInt32) :: st)))) : Go p e below Q (T.setTop (mkF m pc Ls (.long x :: st))) := by
  subst hp
  obtain ⟨locs, Y, -, -, -⟩ := X
  exact Go.back (fun t kt => Jvm.Free.XS.l2i Y.here C.1 rfl (C.cd hd) rfl kt) hr
theorem go_i2b (C : Cx p s m meth c Z a0 own bytes maxL ret nm) (X : St Z p l e R s m args below meth c n0 T h k n) {x : Int32} (pc' : Nat) (hp : pc + 1 = pc') (hd : decode bytes pc = .ok (.i2b, 1)) (hr : Go p e below Q (T.setTop (mkF m pc' Ls (.int (x.toInt8.toInt32) :: st)))) : Go p e below Q (T.setTop (mkF m pc Ls (.int x :: st))) := by
  subst hp
  obtain ⟨locs, Y, -, -, -⟩ := X
  exact Go.back (fun t kt => Jvm.Free.XS.i2b Y.here C.1 rfl (C.cd hd) rfl kt) hr
theorem go_i2s (C : Cx p s m meth c Z a0 own bytes maxL ret nm) (X : St Z p l e R s m args below meth c n0 T h k n) {x : Int32} (pc' : Nat) (hp : pc + 1 = pc') (hd : decode bytes pc = .ok (.i2s, 1)) (hr : Go p e below Q (T.setTop (mkF m pc' Ls (.int (x.toInt16.toInt32) :: st)))) : Go p e below Q (T.setTop (mkF m pc Ls (.int x :: st))) := by
  subst hp
  obtain ⟨locs, Y, -, -, -⟩ := X
  exact Go.back (fun t kt => Jvm.Free.XS.i2s Y.here C.1 rfl (C.cd hd) rfl kt) hr
theorem go_i2c (C : Cx p s m meth c Z a0 own bytes maxL ret nm) (X : St Z p l e R s m args below meth c n0 T h k n) {x : Int32} (pc' : Nat) (hp : pc + 1 = pc') (hd : decode bytes pc = .ok (.i2c, 1)) (hr : Go p e below Q (T.setTop (mkF m pc' Ls (.int (x.toUInt32.toUInt16.toUInt32.toInt32) :: st)))) : Go p e below Q (T.setTop (mkF m pc Ls (.int x :: st))) := by
  subst hp
  obtain ⟨locs, Y, -, -, -⟩ := X
  exact Go.back (fun t kt => Jvm.Free.XS.i2c Y.here C.1 rfl (C.cd hd) rfl kt) hr
theorem go_ishl (C : Cx p s m meth c Z a0 own bytes maxL ret nm) (X : St Z p l e R s m args below meth c n0 T h k n) {x : Int32} {y : Int32} (pc' : Nat) (hp : pc + 1 = pc') (hd : decode bytes pc = .ok (.ishl, 1)) (hr : Go p e below Q (T.setTop (mkF m pc' Ls (.int (x <<< (y &&& 31)) :: st)))) : Go p e below Q (T.setTop (mkF m pc Ls (.int y :: .int x :: st))) := by
  subst hp
  obtain ⟨locs, Y, -, -, -⟩ := X
  exact Go.back (fun t kt => Jvm.Free.XS.ishl Y.here C.1 rfl (C.cd hd) rfl kt) hr
theorem go_ishr (C : Cx p s m meth c Z a0 own bytes maxL ret nm) (X : St Z p l e R s m args below meth c n0 T h k n) {x : Int32} {y : Int32} (pc' : Nat) (hp : pc + 1 = pc') (hd : decode bytes pc = .ok (.ishr, 1)) (hr : Go p e below Q (T.setTop (mkF m pc' Ls (.int (x >>> (y &&& 31)) :: st)))) : Go p e below Q (T.setTop (mkF m pc Ls (.int y :: .int x :: st))) := by
  subst hp
  obtain ⟨locs, Y, -, -, -⟩ := X
  exact Go.back (fun t kt => Jvm.Free.XS.ishr Y.here C.1 rfl (C.cd hd) rfl kt) hr
theorem go_iushr (C : Cx p s m meth c Z a0 own bytes maxL ret nm) (X : St Z p l e R s m args below meth c n0 T h k n) {x : Int32} {y : Int32} (pc' : Nat) (hp : pc + 1 = pc') (hd : decode bytes pc = .ok (.iushr, 1)) (hr : Go p e below Q (T.setTop (mkF m pc' Ls (.int ((x.toUInt32 >>> (y &&& 31).toUInt32).toInt32) :: st)))) : Go p e below Q (T.setTop (mkF m pc Ls (.int y :: .int x :: st))) := by
  subst hp
  obtain ⟨locs, Y, -, -, -⟩ := X
  exact Go.back (fun t kt => Jvm.Free.XS.iushr Y.here C.1 rfl (C.cd hd) rfl kt) hr
theorem go_lshl (C : Cx p s m meth c Z a0 own bytes maxL ret nm) (X : St Z p l e R s m args below meth c n0 T h k n) {x : Int64} {y : Int32} (pc' : Nat) (hp : pc + 1 = pc') (hd : decode bytes pc = .ok (.lshl, 1)) (hr : Go p e below Q (T.setTop (mkF m pc' Ls (.long (x <<< (y &&& 0x3f).toInt64) :: st)))) : Go p e below Q (T.setTop (mkF m pc Ls (.int y :: .long x :: st))) := by
  subst hp
  obtain ⟨locs, Y, -, -, -⟩ := X
  exact Go.back (fun t kt => Jvm.Free.XS.lshl Y.here C.1 rfl (C.cd hd) rfl kt) hr
theorem go_lshr (C : Cx p s m meth c Z a0 own bytes maxL ret nm) (X : St Z p l e R s m args below meth c n0 T h k n) {x : Int64} {y : Int32} (pc' : Nat) (hp : pc + 1 = pc') (hd : decode bytes pc = .ok (.lshr, 1)) (hr : Go p e below Q (T.setTop (mkF m pc' Ls (.long (x >>> (y &&& 0x3f).toInt64) :: st)))) : Go p e below Q (T.setTop (mkF m pc Ls (.int y :: .long x :: st))) := by
  subst hp
  obtain ⟨locs, Y, -, -, -⟩ := X
  exact Go.back (fun t kt => Jvm.Free.XS.lshr Y.here C.1 rfl (C.cd hd) rfl kt) hr
theorem go_lushr (C : Cx p s m meth c Z a0 own bytes maxL ret nm) (X : St Z p l e R s m args below meth c n0 T h k n) {x : Int64} {y : Int32} (pc' : Nat) (hp : pc + 1 = pc') (hd : decode bytes pc = .ok (.lushr, 1)) (hr : Go p e below Q (T.setTop (mkF m pc' Ls (.long ((x.toUInt64 >>> (y &&& 0x3f).toInt64.toUInt64).toInt64) :: st)))) : Go p e below Q (T.setTop (mkF m pc Ls (.int y :: .long x :: st))) := by
  subst hp
  obtain ⟨locs, Y, -, -, -⟩ := X
  exact Go.back (fun t kt => Jvm.Free.XS.lushr Y.here C.1 rfl (C.cd hd) rfl kt) hr
theorem go_lcmp (C : Cx p s m meth c Z a0 own bytes maxL ret nm) (X : St Z p l e R s m args below meth c n0 T h k n) {x y : Int64} (pc' : Nat) (hp : pc + 1 = pc') (hd : decode bytes pc = .ok (.lcmp, 1)) (hr : Go p e below Q (T.setTop (mkF m pc' Ls (.int (lcmpW x y) :: st)))) : Go p e below Q (T.setTop (mkF m pc Ls (.long y :: .long x :: st))) := by
  subst hp
  obtain ⟨locs, Y, -, -, -⟩ := X
  exact Go.back (fun t kt => Jvm.Free.XS.lcmp Y.here C.1 rfl (C.cd hd) rfl kt) hr
theorem go_iinc (C : Cx p s m meth c Z a0 own bytes maxL ret nm) (X : St Z p l e R s m args below meth c n0 T h k n) {i : Nat} {cst : Int} {x z : Int32} (pc' : Nat) (hp : pc + 3 = pc') (hd : decode bytes pc = .ok (.iinc i cst, 3)) (hl : Ls[i]? = some (.val (.int x))) (hz : Int32.ofInt cst = z) (Ls' : Array Slot) (hl' : storeLocals Ls i (.int (x + z)) = some Ls') (hr : Go p e below Q (T.setTop (mkF m pc' Ls' st))) : Go p e below Q (T.setTop (mkF m pc Ls st)) := by
  subst hp
  obtain ⟨locs, Y, -, -, -⟩ := X
  exact Go.back (fun t kt => by subst hz; exact Jvm.Free.XS.iinc Y.here C.1 rfl (C.cd hd) hl hl' kt) hr
theorem go_dup (C : Cx p s m meth c Z a0 own bytes maxL ret nm) (X : St Z p l e R s m args below meth c n0 T h k n) {v : Value} (pc' : Nat) (hp : pc + 1 = pc') (hd : decode bytes pc = .ok (.dup, 1)) (hc : v.category = 1) (hr : Go p e below Q (T.setTop (mkF m pc' Ls (v :: v :: st)))) : Go p e below Q (T.setTop (mkF m pc Ls (v :: st))) := by
  subst hp
  obtain ⟨locs, Y, -, -, -⟩ := X
  exact Go.back (fun t kt => Jvm.Free.XS.dup Y.here C.1 rfl (C.cd hd) rfl hc kt) hr
theorem go_pop (C : Cx p s m meth c Z a0 own bytes maxL ret nm) (X : St Z p l e R s m args below meth c n0 T h k n) {v : Value} (pc' : Nat) (hp : pc + 1 = pc') (hd : decode bytes pc = .ok (.pop, 1)) (hc : v.category = 1) (hr : Go p e below Q (T.setTop (mkF m pc' Ls st))) : Go p e below Q (T.setTop (mkF m pc Ls (v :: st))) := by
  subst hp
  obtain ⟨locs, Y, -, -, -⟩ := X
  exact Go.back (fun t kt => Jvm.Free.XS.pop Y.here C.1 rfl (C.cd hd) rfl hc kt) hr
theorem go_dupX1 (C : Cx p s m meth c Z a0 own bytes maxL ret nm) (X : St Z p l e R s m args below meth c n0 T h k n) {v w : Value} (pc' : Nat) (hp : pc + 1 = pc') (hd : decode bytes pc = .ok (.dup_x1, 1)) (hc : v.category = 1) (hc2 : w.category = 1) (hr : Go p e below Q (T.setTop (mkF m pc' Ls (v :: w :: v :: st)))) : Go p e below Q (T.setTop (mkF m pc Ls (v :: w :: st))) := by
  subst hp
  obtain ⟨locs, Y, -, -, -⟩ := X
  exact Go.back (fun t kt => Jvm.Free.XS.dupX1 Y.here C.1 rfl (C.cd hd) rfl hc hc2 kt) hr
theorem go_dup2 (C : Cx p s m meth c Z a0 own bytes maxL ret nm) (X : St Z p l e R s m args below meth c n0 T h k n) {v w : Value} (pc' : Nat) (hp : pc + 1 = pc') (hd : decode bytes pc = .ok (.dup2, 1)) (hc : v.category = 1) (hc2 : w.category = 1) (hr : Go p e below Q (T.setTop (mkF m pc' Ls (v :: w :: v :: w :: st)))) : Go p e below Q (T.setTop (mkF m pc Ls (v :: w :: st))) := by
  subst hp
  obtain ⟨locs, Y, -, -, -⟩ := X
  refine Go.back (fun t kt => ?_) hr
  show Steps p.tables e below (T.setTop { method := m, pc := pc, locals := Ls, stack := v :: w :: st, locked := none }) _
  jvm_step Y.here [Y.here.top, C.1, C.cd hd, hc, hc2]
  exact kt
theorem go_goto (C : Cx p s m meth c Z a0 own bytes maxL ret nm) (X : St Z p l e R s m args below meth c n0 T h k n) {o : Int} (hd : decode bytes pc = .ok (.goto o, 3)) (ho : 0 ≤ (pc : Int) + o) (hp : ((pc : Int) + o).toNat = pc') (hr : Go p e below Q (T.setTop (mkF m pc' Ls st))) : Go p e below Q (T.setTop (mkF m pc Ls st)) := by
  obtain ⟨locs, Y, -, -, -⟩ := X
  exact Go.back (fun t kt => Jvm.Free.XS.goto Y.here C.1 rfl (pc0 := pc) rfl (C.cd hd) ho hp kt) hr
theorem go_icmp (C : Cx p s m meth c Z a0 own bytes maxL ret nm) (X : St Z p l e R s m args below meth c n0 T h k n) {cd : ClassFile.Cond} {o : Int} {x y : Int32} (hd : decode bytes pc = .ok (.if_icmp cd o, 3)) (hp : pc + 3 = pc') (ho : 0 ≤ (pc : Int) + o) (hp2 : ((pc : Int) + o).toNat = pc2) (h1 : if_icmp.holds cd x y = true → Go p e below Q (T.setTop (mkF m pc2 Ls st))) (h2 : if_icmp.holds cd x y = false → Go p e below Q (T.setTop (mkF m pc' Ls st))) : Go p e below Q (T.setTop (mkF m pc Ls (.int y :: .int x :: st))) := by
  subst hp
  obtain ⟨locs, Y, -, -, -⟩ := X
  cases hc : if_icmp.holds cd x y with
  | true => exact Go.back (fun t kt => Jvm.Free.XS.icmpYes Y.here C.1 rfl (pc0 := pc) rfl (C.cd hd) rfl hc ho hp2 kt) (h1 hc)
  | false => exact Go.back (fun t kt => Jvm.Free.XS.icmpNo Y.here C.1 rfl (C.cd hd) rfl hc kt) (h2 hc)
theorem go_if (C : Cx p s m meth c Z a0 own bytes maxL ret nm) (X : St Z p l e R s m args below meth c n0 T h k n) {cd : ClassFile.Cond} {o : Int} {x : Int32} (hd : decode bytes pc = .ok (.ifCond cd o, 3)) (hp : pc + 3 = pc') (ho : 0 ≤ (pc : Int) + o) (hp2 : ((pc : Int) + o).toNat = pc2) (h1 : if_icmp.holds cd x 0 = true → Go p e below Q (T.setTop (mkF m pc2 Ls st))) (h2 : if_icmp.holds cd x 0 = false → Go p e below Q (T.setTop (mkF m pc' Ls st))) : Go p e below Q (T.setTop (mkF m pc Ls (.int x :: st))) := by
  subst hp
  obtain ⟨locs, Y, -, -, -⟩ := X
  cases hc : if_icmp.holds cd x 0 with
  | true => exact Go.back (fun t kt => Jvm.Free.XS.ifYes Y.here C.1 rfl (pc0 := pc) rfl (C.cd hd) rfl ((if0 _ _).trans hc) ho hp2 kt) (h1 hc)
  | false => exact Go.back (fun t kt => Jvm.Free.XS.ifNo Y.here C.1 rfl (C.cd hd) rfl ((if0 _ _).trans hc) kt) (h2 hc)
theorem i32lt {x y : Int32} : x < y ↔ x.toInt < y.toInt := Int32.lt_iff_toInt_lt
theorem ic_lt {x y : Int32} : (if_icmp.holds .lt x y = true ↔ x.toInt < y.toInt) ∧ (if_icmp.holds .lt x y = false ↔ y.toInt ≤ x.toInt) := by
  by_cases q : x < y
  · have := i32lt.mp q; simp [(tlt q).1]; omega
  · have := mt i32lt.mpr q; simp [(flt q).1]; omega
theorem ic_ge {x y : Int32} : (if_icmp.holds .ge x y = true ↔ y.toInt ≤ x.toInt) ∧ (if_icmp.holds .ge x y = false ↔ x.toInt < y.toInt) := by
  by_cases q : x < y
  · have := i32lt.mp q; simp [(tlt q).2.1]; omega
  · have := mt i32lt.mpr q; simp [(flt q).2.1]; omega
theorem ic_gt {x y : Int32} : (if_icmp.holds .gt x y = true ↔ y.toInt < x.toInt) ∧ (if_icmp.holds .gt x y = false ↔ x.toInt ≤ y.toInt) := by
  by_cases q : y < x
  · have := i32lt.mp q; simp [(tlt q).2.2.1]; omega
  · have := mt i32lt.mpr q; simp [(flt q).2.2.1]; omega
theorem ic_le {x y : Int32} : (if_icmp.holds .le x y = true ↔ x.toInt ≤ y.toInt) ∧ (if_icmp.holds .le x y = false ↔ y.toInt < x.toInt) := by
  by_cases q : y < x
  · have := i32lt.mp q; simp [(tlt q).2.2.2]; omega
  · have := mt i32lt.mpr q; simp [(flt q).2.2.2]; omega
theorem ic_eq {x y : Int32} : (if_icmp.holds .eq x y = true ↔ x = y) ∧ (if_icmp.holds .eq x y = false ↔ ¬ x = y) := by
  by_cases q : x = y
  · subst q; exact ⟨⟨fun _ => rfl, fun _ => (teq rfl).1⟩, ⟨fun h => (by rw [(teq rfl).1] at h; cases h), fun h => absurd rfl h⟩⟩
  · exact ⟨⟨fun h => (by rw [(feq q).1] at h; cases h), fun h => absurd h q⟩, ⟨fun _ => q, fun _ => (feq q).1⟩⟩
theorem ic_ne {x y : Int32} : (if_icmp.holds .ne x y = true ↔ ¬ x = y) ∧ (if_icmp.holds .ne x y = false ↔ x = y) := by
  by_cases q : x = y
  · subst q; exact ⟨⟨fun h => (by rw [(teq rfl).2] at h; cases h), fun h => absurd rfl h⟩, ⟨fun _ => rfl, fun _ => (teq rfl).2⟩⟩
  · exact ⟨⟨fun _ => q, fun _ => (feq q).2⟩, ⟨fun h => (by rw [(feq q).2] at h; cases h), fun h => absurd h q⟩⟩
theorem lc_i (x y : Int64) : ((lcmpW x y).toInt < 0 ↔ x.toInt < y.toInt) ∧ (0 < (lcmpW x y).toInt ↔ y.toInt < x.toInt) ∧ (lcmpW x y = 0 ↔ x = y) := by
  obtain ⟨a, b, c⟩ := c_lcmp x y
  refine ⟨?_, ?_, lw_eq x y⟩ <;> rcases Int.lt_trichotomy x.toInt y.toInt with q | q | q <;> (first | have := a q | have := b q | have := c q) <;> omega
theorem go_icmp_lt (C : Cx p s m meth c Z a0 own bytes maxL ret nm) (X : St Z p l e R s m args below meth c n0 T h k n) {o : Int} {x y : Int32} (hd : decode bytes pc = .ok (.if_icmp .lt o, 3)) (hp : pc + 3 = pc') (ho : 0 ≤ (pc : Int) + o) (hp2 : ((pc : Int) + o).toNat = pc2) (h1 : x.toInt < y.toInt → Go p e below Q (T.setTop (mkF m pc2 Ls st))) (h2 : y.toInt ≤ x.toInt → Go p e below Q (T.setTop (mkF m pc' Ls st))) : Go p e below Q (T.setTop (mkF m pc Ls (.int y :: .int x :: st))) := go_icmp C X hd hp ho hp2 (fun q => h1 (ic_lt.1.mp q)) (fun q => h2 (ic_lt.2.mp q))
theorem go_if_lt (C : Cx p s m meth c Z a0 own bytes maxL ret nm) (X : St Z p l e R s m args below meth c n0 T h k n) {o : Int} {x : Int32} (hd : decode bytes pc = .ok (.ifCond .lt o, 3)) (hp : pc + 3 = pc') (ho : 0 ≤ (pc : Int) + o) (hp2 : ((pc : Int) + o).toNat = pc2) (h1 : x.toInt < 0 → Go p e below Q (T.setTop (mkF m pc2 Ls st))) (h2 : 0 ≤ x.toInt → Go p e below Q (T.setTop (mkF m pc' Ls st))) : Go p e below Q (T.setTop (mkF m pc Ls (.int x :: st))) := go_if C X hd hp ho hp2 (fun q => h1 (ic_lt.1.mp q)) (fun q => h2 (ic_lt.2.mp q))
theorem go_lif_lt (C : Cx p s m meth c Z a0 own bytes maxL ret nm) (X : St Z p l e R s m args below meth c n0 T h k n) {o : Int} {x y : Int64} {pc1 : Nat} (hp1 : pc + 1 = pc1) (hd1 : decode bytes pc = .ok (.lcmp, 1)) (hd : decode bytes pc1 = .ok (.ifCond .lt o, 3)) (hp : pc1 + 3 = pc') (ho : 0 ≤ (pc1 : Int) + o) (hp2 : ((pc1 : Int) + o).toNat = pc2) (h1 : x.toInt < y.toInt → Go p e below Q (T.setTop (mkF m pc2 Ls st))) (h2 : y.toInt ≤ x.toInt → Go p e below Q (T.setTop (mkF m pc' Ls st))) : Go p e below Q (T.setTop (mkF m pc Ls (.long y :: .long x :: st))) := go_lcmp C X _ hp1 hd1 (go_if_lt C X hd hp ho hp2 (fun q => h1 ((lc_i x y).1.mp q)) (fun q => h2 (by have := mt (lc_i x y).1.mpr (by omega); omega)))
theorem go_icmp_ge (C : Cx p s m meth c Z a0 own bytes maxL ret nm) (X : St Z p l e R s m args below meth c n0 T h k n) {o : Int} {x y : Int32} (hd : decode bytes pc = .ok (.if_icmp .ge o, 3)) (hp : pc + 3 = pc') (ho : 0 ≤ (pc : Int) + o) (hp2 : ((pc : Int) + o).toNat = pc2) (h1 : y.toInt ≤ x.toInt → Go p e below Q (T.setTop (mkF m pc2 Ls st))) (h2 : x.toInt < y.toInt → Go p e below Q (T.setTop (mkF m pc' Ls st))) : Go p e below Q (T.setTop (mkF m pc Ls (.int y :: .int x :: st))) := go_icmp C X hd hp ho hp2 (fun q => h1 (ic_ge.1.mp q)) (fun q => h2 (ic_ge.2.mp q))
theorem go_if_ge (C : Cx p s m meth c Z a0 own bytes maxL ret nm) (X : St Z p l e R s m args below meth c n0 T h k n) {o : Int} {x : Int32} (hd : decode bytes pc = .ok (.ifCond .ge o, 3)) (hp : pc + 3 = pc') (ho : 0 ≤ (pc : Int) + o) (hp2 : ((pc : Int) + o).toNat = pc2) (h1 : 0 ≤ x.toInt → Go p e below Q (T.setTop (mkF m pc2 Ls st))) (h2 : x.toInt < 0 → Go p e below Q (T.setTop (mkF m pc' Ls st))) : Go p e below Q (T.setTop (mkF m pc Ls (.int x :: st))) := go_if C X hd hp ho hp2 (fun q => h1 (ic_ge.1.mp q)) (fun q => h2 (ic_ge.2.mp q))
theorem go_lif_ge (C : Cx p s m meth c Z a0 own bytes maxL ret nm) (X : St Z p l e R s m args below meth c n0 T h k n) {o : Int} {x y : Int64} {pc1 : Nat} (hp1 : pc + 1 = pc1) (hd1 : decode bytes pc = .ok (.lcmp, 1)) (hd : decode bytes pc1 = .ok (.ifCond .ge o, 3)) (hp : pc1 + 3 = pc') (ho : 0 ≤ (pc1 : Int) + o) (hp2 : ((pc1 : Int) + o).toNat = pc2) (h1 : y.toInt ≤ x.toInt → Go p e below Q (T.setTop (mkF m pc2 Ls st))) (h2 : x.toInt < y.toInt → Go p e below Q (T.setTop (mkF m pc' Ls st))) : Go p e below Q (T.setTop (mkF m pc Ls (.long y :: .long x :: st))) := go_lcmp C X _ hp1 hd1 (go_if_ge C X hd hp ho hp2 (fun q => h1 (by have := mt (lc_i x y).1.mpr (by omega); omega)) (fun q => h2 ((lc_i x y).1.mp q)))
theorem go_icmp_gt (C : Cx p s m meth c Z a0 own bytes maxL ret nm) (X : St Z p l e R s m args below meth c n0 T h k n) {o : Int} {x y : Int32} (hd : decode bytes pc = .ok (.if_icmp .gt o, 3)) (hp : pc + 3 = pc') (ho : 0 ≤ (pc : Int) + o) (hp2 : ((pc : Int) + o).toNat = pc2) (h1 : y.toInt < x.toInt → Go p e below Q (T.setTop (mkF m pc2 Ls st))) (h2 : x.toInt ≤ y.toInt → Go p e below Q (T.setTop (mkF m pc' Ls st))) : Go p e below Q (T.setTop (mkF m pc Ls (.int y :: .int x :: st))) := go_icmp C X hd hp ho hp2 (fun q => h1 (ic_gt.1.mp q)) (fun q => h2 (ic_gt.2.mp q))
theorem go_if_gt (C : Cx p s m meth c Z a0 own bytes maxL ret nm) (X : St Z p l e R s m args below meth c n0 T h k n) {o : Int} {x : Int32} (hd : decode bytes pc = .ok (.ifCond .gt o, 3)) (hp : pc + 3 = pc') (ho : 0 ≤ (pc : Int) + o) (hp2 : ((pc : Int) + o).toNat = pc2) (h1 : 0 < x.toInt → Go p e below Q (T.setTop (mkF m pc2 Ls st))) (h2 : x.toInt ≤ 0 → Go p e below Q (T.setTop (mkF m pc' Ls st))) : Go p e below Q (T.setTop (mkF m pc Ls (.int x :: st))) := go_if C X hd hp ho hp2 (fun q => h1 (ic_gt.1.mp q)) (fun q => h2 (ic_gt.2.mp q))
theorem go_lif_gt (C : Cx p s m meth c Z a0 own bytes maxL ret nm) (X : St Z p l e R s m args below meth c n0 T h k n) {o : Int} {x y : Int64} {pc1 : Nat} (hp1 : pc + 1 = pc1) (hd1 : decode bytes pc = .ok (.lcmp, 1)) (hd : decode bytes pc1 = .ok (.ifCond .gt o, 3)) (hp : pc1 + 3 = pc') (ho : 0 ≤ (pc1 : Int) + o) (hp2 : ((pc1 : Int) + o).toNat = pc2) (h1 : y.toInt < x.toInt → Go p e below Q (T.setTop (mkF m pc2 Ls st))) (h2 : x.toInt ≤ y.toInt → Go p e below Q (T.setTop (mkF m pc' Ls st))) : Go p e below Q (T.setTop (mkF m pc Ls (.long y :: .long x :: st))) := go_lcmp C X _ hp1 hd1 (go_if_gt C X hd hp ho hp2 (fun q => h1 ((lc_i x y).2.1.mp q)) (fun q => h2 (by have := mt (lc_i x y).2.1.mpr (by omega); omega)))
theorem go_icmp_le (C : Cx p s m meth c Z a0 own bytes maxL ret nm) (X : St Z p l e R s m args below meth c n0 T h k n) {o : Int} {x y : Int32} (hd : decode bytes pc = .ok (.if_icmp .le o, 3)) (hp : pc + 3 = pc') (ho : 0 ≤ (pc : Int) + o) (hp2 : ((pc : Int) + o).toNat = pc2) (h1 : x.toInt ≤ y.toInt → Go p e below Q (T.setTop (mkF m pc2 Ls st))) (h2 : y.toInt < x.toInt → Go p e below Q (T.setTop (mkF m pc' Ls st))) : Go p e below Q (T.setTop (mkF m pc Ls (.int y :: .int x :: st))) := go_icmp C X hd hp ho hp2 (fun q => h1 (ic_le.1.mp q)) (fun q => h2 (ic_le.2.mp q))
theorem go_if_le (C : Cx p s m meth c Z a0 own bytes maxL ret nm) (X : St Z p l e R s m args below meth c n0 T h k n) {o : Int} {x : Int32} (hd : decode bytes pc = .ok (.ifCond .le o, 3)) (hp : pc + 3 = pc') (ho : 0 ≤ (pc : Int) + o) (hp2 : ((pc : Int) + o).toNat = pc2) (h1 : x.toInt ≤ 0 → Go p e below Q (T.setTop (mkF m pc2 Ls st))) (h2 : 0 < x.toInt → Go p e below Q (T.setTop (mkF m pc' Ls st))) : Go p e below Q (T.setTop (mkF m pc Ls (.int x :: st))) := go_if C X hd hp ho hp2 (fun q => h1 (ic_le.1.mp q)) (fun q => h2 (ic_le.2.mp q))
theorem go_lif_le (C : Cx p s m meth c Z a0 own bytes maxL ret nm) (X : St Z p l e R s m args below meth c n0 T h k n) {o : Int} {x y : Int64} {pc1 : Nat} (hp1 : pc + 1 = pc1) (hd1 : decode bytes pc = .ok (.lcmp, 1)) (hd : decode bytes pc1 = .ok (.ifCond .le o, 3)) (hp : pc1 + 3 = pc') (ho : 0 ≤ (pc1 : Int) + o) (hp2 : ((pc1 : Int) + o).toNat = pc2) (h1 : x.toInt ≤ y.toInt → Go p e below Q (T.setTop (mkF m pc2 Ls st))) (h2 : y.toInt < x.toInt → Go p e below Q (T.setTop (mkF m pc' Ls st))) : Go p e below Q (T.setTop (mkF m pc Ls (.long y :: .long x :: st))) := go_lcmp C X _ hp1 hd1 (go_if_le C X hd hp ho hp2 (fun q => h1 (by have := mt (lc_i x y).2.1.mpr (by omega); omega)) (fun q => h2 ((lc_i x y).2.1.mp q)))
theorem go_icmp_eq (C : Cx p s m meth c Z a0 own bytes maxL ret nm) (X : St Z p l e R s m args below meth c n0 T h k n) {o : Int} {x y : Int32} (hd : decode bytes pc = .ok (.if_icmp .eq o, 3)) (hp : pc + 3 = pc') (ho : 0 ≤ (pc : Int) + o) (hp2 : ((pc : Int) + o).toNat = pc2) (h1 : x = y → Go p e below Q (T.setTop (mkF m pc2 Ls st))) (h2 : ¬ x = y → Go p e below Q (T.setTop (mkF m pc' Ls st))) : Go p e below Q (T.setTop (mkF m pc Ls (.int y :: .int x :: st))) := go_icmp C X hd hp ho hp2 (fun q => h1 (ic_eq.1.mp q)) (fun q => h2 (ic_eq.2.mp q))
theorem go_if_eq (C : Cx p s m meth c Z a0 own bytes maxL ret nm) (X : St Z p l e R s m args below meth c n0 T h k n) {o : Int} {x : Int32} (hd : decode bytes pc = .ok (.ifCond .eq o, 3)) (hp : pc + 3 = pc') (ho : 0 ≤ (pc : Int) + o) (hp2 : ((pc : Int) + o).toNat = pc2) (h1 : x = 0 → Go p e below Q (T.setTop (mkF m pc2 Ls st))) (h2 : ¬ x = 0 → Go p e below Q (T.setTop (mkF m pc' Ls st))) : Go p e below Q (T.setTop (mkF m pc Ls (.int x :: st))) := go_if C X hd hp ho hp2 (fun q => h1 (ic_eq.1.mp q)) (fun q => h2 (ic_eq.2.mp q))
theorem go_lif_eq (C : Cx p s m meth c Z a0 own bytes maxL ret nm) (X : St Z p l e R s m args below meth c n0 T h k n) {o : Int} {x y : Int64} {pc1 : Nat} (hp1 : pc + 1 = pc1) (hd1 : decode bytes pc = .ok (.lcmp, 1)) (hd : decode bytes pc1 = .ok (.ifCond .eq o, 3)) (hp : pc1 + 3 = pc') (ho : 0 ≤ (pc1 : Int) + o) (hp2 : ((pc1 : Int) + o).toNat = pc2) (h1 : x = y → Go p e below Q (T.setTop (mkF m pc2 Ls st))) (h2 : ¬ x = y → Go p e below Q (T.setTop (mkF m pc' Ls st))) : Go p e below Q (T.setTop (mkF m pc Ls (.long y :: .long x :: st))) := go_lcmp C X _ hp1 hd1 (go_if_eq C X hd hp ho hp2 (fun q => h1 ((lc_i x y).2.2.mp q)) (fun q => h2 (mt (lc_i x y).2.2.mpr q)))
theorem go_icmp_ne (C : Cx p s m meth c Z a0 own bytes maxL ret nm) (X : St Z p l e R s m args below meth c n0 T h k n) {o : Int} {x y : Int32} (hd : decode bytes pc = .ok (.if_icmp .ne o, 3)) (hp : pc + 3 = pc') (ho : 0 ≤ (pc : Int) + o) (hp2 : ((pc : Int) + o).toNat = pc2) (h1 : ¬ x = y → Go p e below Q (T.setTop (mkF m pc2 Ls st))) (h2 : x = y → Go p e below Q (T.setTop (mkF m pc' Ls st))) : Go p e below Q (T.setTop (mkF m pc Ls (.int y :: .int x :: st))) := go_icmp C X hd hp ho hp2 (fun q => h1 (ic_ne.1.mp q)) (fun q => h2 (ic_ne.2.mp q))
theorem go_if_ne (C : Cx p s m meth c Z a0 own bytes maxL ret nm) (X : St Z p l e R s m args below meth c n0 T h k n) {o : Int} {x : Int32} (hd : decode bytes pc = .ok (.ifCond .ne o, 3)) (hp : pc + 3 = pc') (ho : 0 ≤ (pc : Int) + o) (hp2 : ((pc : Int) + o).toNat = pc2) (h1 : ¬ x = 0 → Go p e below Q (T.setTop (mkF m pc2 Ls st))) (h2 : x = 0 → Go p e below Q (T.setTop (mkF m pc' Ls st))) : Go p e below Q (T.setTop (mkF m pc Ls (.int x :: st))) := go_if C X hd hp ho hp2 (fun q => h1 (ic_ne.1.mp q)) (fun q => h2 (ic_ne.2.mp q))
theorem go_lif_ne (C : Cx p s m meth c Z a0 own bytes maxL ret nm) (X : St Z p l e R s m args below meth c n0 T h k n) {o : Int} {x y : Int64} {pc1 : Nat} (hp1 : pc + 1 = pc1) (hd1 : decode bytes pc = .ok (.lcmp, 1)) (hd : decode bytes pc1 = .ok (.ifCond .ne o, 3)) (hp : pc1 + 3 = pc') (ho : 0 ≤ (pc1 : Int) + o) (hp2 : ((pc1 : Int) + o).toNat = pc2) (h1 : ¬ x = y → Go p e below Q (T.setTop (mkF m pc2 Ls st))) (h2 : x = y → Go p e below Q (T.setTop (mkF m pc' Ls st))) : Go p e below Q (T.setTop (mkF m pc Ls (.long y :: .long x :: st))) := go_lcmp C X _ hp1 hd1 (go_if_ne C X hd hp ho hp2 (fun q => h1 (mt (lc_i x y).2.2.mpr q)) (fun q => h2 ((lc_i x y).2.2.mp q)))
theorem go_dload (C : Cx p s m meth c Z a0 own bytes maxL ret nm) (X : St Z p l e R s m args below meth c n0 T h k n) {i : Nat} {v : UInt64} (pc' : Nat) (hp : pc + 2 = pc') (hd : decode bytes pc = .ok (.dload i, 2)) (hl : Ls[i]? = some (.val (.double v))) (hr : Go p e below Q (T.setTop (mkF m pc' Ls (.double v :: st)))) : Go p e below Q (T.setTop (mkF m pc Ls st)) := by
  subst hp
  obtain ⟨locs, Y, -, -, -⟩ := X
  exact Go.back (fun t kt => Jvm.Free.XS.dload Y.here C.1 rfl (C.cd hd) hl kt) hr
theorem go_dloadN (C : Cx p s m meth c Z a0 own bytes maxL ret nm) (X : St Z p l e R s m args below meth c n0 T h k n) {i : Fin 4} {v : UInt64} (pc' : Nat) (hp : pc + 1 = pc') (hd : decode bytes pc = .ok (.dload_n i, 1)) (hl : Ls[i.val]? = some (.val (.double v))) (hr : Go p e below Q (T.setTop (mkF m pc' Ls (.double v :: st)))) : Go p e below Q (T.setTop (mkF m pc Ls st)) := by
  subst hp
  obtain ⟨locs, Y, -, -, -⟩ := X
  exact Go.back (fun t kt => Jvm.Free.XS.dloadN Y.here C.1 rfl (C.cd hd) hl kt) hr
theorem go_dstore (C : Cx p s m meth c Z a0 own bytes maxL ret nm) (X : St Z p l e R s m args below meth c n0 T h k n) {i : Nat} {v : UInt64} (pc' : Nat) (hp : pc + 2 = pc') (hd : decode bytes pc = .ok (.dstore i, 2)) (Ls' : Array Slot) (hl : storeLocals Ls i (.double v) = some Ls') (hr : Go p e below Q (T.setTop (mkF m pc' Ls' st))) : Go p e below Q (T.setTop (mkF m pc Ls (.double v :: st))) := by
  subst hp
  obtain ⟨locs, Y, -, -, -⟩ := X
  exact Go.back (fun t kt => Jvm.Free.XS.dstore Y.here C.1 rfl (C.cd hd) rfl hl kt) hr
theorem go_dstoreN (C : Cx p s m meth c Z a0 own bytes maxL ret nm) (X : St Z p l e R s m args below meth c n0 T h k n) {i : Fin 4} {v : UInt64} (pc' : Nat) (hp : pc + 1 = pc') (hd : decode bytes pc = .ok (.dstore_n i, 1)) (Ls' : Array Slot) (hl : storeLocals Ls i.val (.double v) = some Ls') (hr : Go p e below Q (T.setTop (mkF m pc' Ls' st))) : Go p e below Q (T.setTop (mkF m pc Ls (.double v :: st))) := by
  subst hp
  obtain ⟨locs, Y, -, -, -⟩ := X
  exact Go.back (fun t kt => Jvm.Free.XS.dstoreN Y.here C.1 rfl (C.cd hd) rfl hl kt) hr
theorem go_dconst0 (C : Cx p s m meth c Z a0 own bytes maxL ret nm) (X : St Z p l e R s m args below meth c n0 T h k n)  (pc' : Nat) (hp : pc + 1 = pc') (hd : decode bytes pc = .ok (.dconst 0, 1)) (hr : Go p e below Q (T.setTop (mkF m pc' Ls (.double (FP.l2d 0) :: st)))) : Go p e below Q (T.setTop (mkF m pc Ls st)) := by
  subst hp
  obtain ⟨locs, Y, -, -, -⟩ := X
  exact Go.back (fun t kt => Jvm.Free.XS.dconst0 Y.here C.1 rfl (C.cd hd) (by decide +kernel) kt) hr
theorem go_i2d (C : Cx p s m meth c Z a0 own bytes maxL ret nm) (X : St Z p l e R s m args below meth c n0 T h k n) {x : Int32} (pc' : Nat) (hp : pc + 1 = pc') (hd : decode bytes pc = .ok (.i2d, 1)) (hr : Go p e below Q (T.setTop (mkF m pc' Ls (.double (FP.l2d x.toInt64) :: st)))) : Go p e below Q (T.setTop (mkF m pc Ls (.int x :: st))) := by
  subst hp
  obtain ⟨locs, Y, -, -, -⟩ := X
  exact Go.back (fun t kt => Jvm.Free.XS.i2dS Y.here C.1 rfl (C.cd hd) rfl (i2d_w x) kt) hr
theorem go_l2d (C : Cx p s m meth c Z a0 own bytes maxL ret nm) (X : St Z p l e R s m args below meth c n0 T h k n) {x : Int64} (pc' : Nat) (hp : pc + 1 = pc') (hd : decode bytes pc = .ok (.l2d, 1)) (hr : Go p e below Q (T.setTop (mkF m pc' Ls (.double (FP.l2d x) :: st)))) : Go p e below Q (T.setTop (mkF m pc Ls (.long x :: st))) := by
  subst hp
  obtain ⟨locs, Y, -, -, -⟩ := X
  exact Go.back (fun t kt => Jvm.Free.XS.l2dS Y.here C.1 rfl (C.cd hd) rfl rfl kt) hr
theorem go_dadd (C : Cx p s m meth c Z a0 own bytes maxL ret nm) (X : St Z p l e R s m args below meth c n0 T h k n) {x y : Int64} (pc' : Nat) (hp : pc + 1 = pc') (hd : decode bytes pc = .ok (.dadd, 1)) (ha : B53 x) (hb : B53 y) (hr : Go p e below Q (T.setTop (mkF m pc' Ls (.double (FP.l2d (x + y)) :: st)))) : Go p e below Q (T.setTop (mkF m pc Ls (.double (FP.l2d y) :: .double (FP.l2d x) :: st))) := by
  subst hp
  obtain ⟨locs, Y, -, -, -⟩ := X
  exact Go.back (fun t kt => Jvm.Free.XS.daddS Y.here C.1 rfl (C.cd hd) rfl (nn_w (dadd_w ha hb)) (dadd_w ha hb) kt) hr
theorem go_dcmp (C : Cx p s m meth c Z a0 own bytes maxL ret nm) (X : St Z p l e R s m args below meth c n0 T h k n) {o : CmpOp} {x y : Int64} (pc' : Nat) (hp : pc + 1 = pc') (hd : decode bytes pc = .ok (.dcmp o, 1)) (ha : B53 x) (hb : B53 y) (hr : Go p e below Q (T.setTop (mkF m pc' Ls (.int (lcmpW x y) :: st)))) : Go p e below Q (T.setTop (mkF m pc Ls (.double (FP.l2d y) :: .double (FP.l2d x) :: st))) := by
  subst hp
  obtain ⟨locs, Y, -, -, -⟩ := X
  exact Go.back (fun t kt => Jvm.Free.XS.dcmpS Y.here C.1 rfl (C.cd hd) rfl (dcmpV_w ha hb o) kt) hr
theorem go_ldcInt (C : Cx p s m meth c Z a0 own bytes maxL ret nm) (X : St Z p l e R s m args below meth c n0 T h k n) {idx : Nat} {v : Int32} (w : (Jvm.Cond.constant own idx v).before a0 Z = true) (hp : pc + 2 = pc') (hd : decode bytes pc = .ok (.ldc idx, 2)) (hr : Go p e below Q (T.setTop (mkF m pc' Ls (.int v :: st)))) : Go p e below Q (T.setTop (mkF m pc Ls st)) := by
  subst hp
  obtain ⟨locs, Y, -, -, -⟩ := X
  exact Go.back (fun t kt => Y.ldcInt C.1 C.ow (mvT C.hZ w) (g := mkF m pc Ls st) rfl (C.cd hd) t kt) hr
theorem go_ldcwInt (C : Cx p s m meth c Z a0 own bytes maxL ret nm) (X : St Z p l e R s m args below meth c n0 T h k n) {idx : Nat} {v : Int32} (w : (Jvm.Cond.constant own idx v).before a0 Z = true) (hp : pc + 3 = pc') (hd : decode bytes pc = .ok (.ldc_w idx, 3)) (hr : Go p e below Q (T.setTop (mkF m pc' Ls (.int v :: st)))) : Go p e below Q (T.setTop (mkF m pc Ls st)) := by
  subst hp
  obtain ⟨locs, Y, -, -, -⟩ := X
  exact Go.back (fun t kt => Y.ldcwInt C.1 C.ow (mvT C.hZ w) (g := mkF m pc Ls st) rfl (C.cd hd) t kt) hr
theorem go_ldc2Long (C : Cx p s m meth c Z a0 own bytes maxL ret nm) (X : St Z p l e R s m args below meth c n0 T h k n) {idx : Nat} {v : Int64} (w : (Jvm.Cond.constantLong own idx v).before a0 Z = true) (hp : pc + 3 = pc') (hd : decode bytes pc = .ok (.ldc2_w idx, 3)) (hr : Go p e below Q (T.setTop (mkF m pc' Ls (.long v :: st)))) : Go p e below Q (T.setTop (mkF m pc Ls st)) := by
  subst hp
  obtain ⟨locs, Y, -, -, -⟩ := X
  exact Go.back (fun t kt => Y.ldc2Long C.1 C.ow (mvT C.hZ w) (g := mkF m pc Ls st) rfl (C.cd hd) t kt) hr
variable {kc kn : Nat} {Qy : Option Value → Heap → Prop}
theorem go_leave (C : Cx p s m meth c Z a0 own bytes maxL ret nm) (X : St Z p l e R s m args below meth c n0 T h k n) {v : Option Value} {f : JFrame} (hv : meth.sig.returnType = none → v = none) (hQ : Qy v h) (hk : k ≤ kc) (hn : n ≤ kn)
    (go : ∀ {locs : List Loc} (Y : Stand p l e R s m args below meth c T locs k n) {fs : List Frame}, (∀ (f : JFrame) (acts : List Action), f.method = m → f.locked = none → f.entered = [] → (doReturn e (T.setTop f) acts v).1 = T.setFrames fs) → Steps p.tables e below (T.setTop f) (T.setFrames fs)) :
    Go p e below (FinQ s kc kn n0 Qy) (T.setTop f) := by
  obtain ⟨locs, Y, N, -, rfl⟩ := X
  obtain ⟨fs, hr, hrun, hended, hW, hsame⟩ := Y.leave hv C.lk
  exact ⟨_, _, go Y hr, hrun, hended, _, _, rfl, ⟨N, hQ⟩, ⟨_, rfl⟩, hW, hsame.mono hk hn⟩
theorem go_ret0 (C : Cx p s m meth c Z a0 own bytes maxL none nm) (X : St Z p l e R s m args below meth c n0 T h k n) (hd : decode bytes pc = .ok (.return_, 1)) (hQ : Qy none h) (hk : k ≤ kc) (hn : n ≤ kn) : Go p e below (FinQ s kc kn n0 Qy) (T.setTop (mkF m pc Ls [])) :=
  go_leave C X (fun _ => rfl) hQ hk hn fun Y _ hr => Y.returnOut C.1 C.rt (C.cd hd) hr
theorem go_retI (C : Cx p s m meth c Z a0 own bytes maxL (some .int) nm) (X : St Z p l e R s m args below meth c n0 T h k n) {z : Int32} (hd : decode bytes pc = .ok (.ireturn, 1)) (hQ : Qy (some (.int z)) h) (hk : k ≤ kc) (hn : n ≤ kn) : Go p e below (FinQ s kc kn n0 Qy) (T.setTop (mkF m pc Ls (.int z :: st))) :=
  go_leave C X (fun q => by rw [C.rt] at q; cases q) hQ hk hn fun Y _ hr => retOut Y C.1 C.rt rfl (Or.inl ⟨rfl, Or.inl rfl, _, rfl⟩) (C.cd hd) hr
theorem go_retJ (C : Cx p s m meth c Z a0 own bytes maxL (some .long) nm) (X : St Z p l e R s m args below meth c n0 T h k n) {z : Int64} (hd : decode bytes pc = .ok (.lreturn, 1)) (hQ : Qy (some (.long z)) h) (hk : k ≤ kc) (hn : n ≤ kn) : Go p e below (FinQ s kc kn n0 Qy) (T.setTop (mkF m pc Ls (.long z :: st))) :=
  go_leave C X (fun q => by rw [C.rt] at q; cases q) hQ hk hn fun Y _ hr => retOut Y C.1 C.rt rfl (Or.inr (Or.inl ⟨rfl, rfl, _, rfl⟩)) (C.cd hd) hr
theorem go_retD (C : Cx p s m meth c Z a0 own bytes maxL (some .double) nm) (X : St Z p l e R s m args below meth c n0 T h k n) {z : UInt64} (hd : decode bytes pc = .ok (.dreturn, 1)) (hQ : Qy (some (.double z)) h) (hk : k ≤ kc) (hn : n ≤ kn) : Go p e below (FinQ s kc kn n0 Qy) (T.setTop (mkF m pc Ls (.double z :: st))) :=
  go_leave C X (fun q => by rw [C.rt] at q; cases q) hQ hk hn fun Y _ hr => retOut Y C.1 C.rt rfl (Or.inr (Or.inr (Or.inl ⟨rfl, rfl, _, rfl⟩))) (C.cd hd) hr
theorem go_retA {ty : FieldType} (C : Cx p s m meth c Z a0 own bytes maxL (some ty) nm) (X : St Z p l e R s m args below meth c n0 T h k n) {v : Value} (hd : decode bytes pc = .ok (.areturn, 1)) (ht : ty.isReference = true) (hv : v.isRef = true) (hQ : Qy (some v) h) (hk : k ≤ kc) (hn : n ≤ kn) : Go p e below (FinQ s kc kn n0 Qy) (T.setTop (mkF m pc Ls (v :: st))) :=
  go_leave C X (fun q => by rw [C.rt] at q; cases q) hQ hk hn fun Y _ hr => retOut Y C.1 C.rt (by cases ty <;> first | (cases ht; done) | rfl) (Or.inr (Or.inr (Or.inr (Or.inr ⟨rfl, ht, hv⟩)))) (C.cd hd) hr
theorem go_retN {ty : FieldType} (C : Cx p s m meth c Z a0 own bytes maxL (some ty) nm) (X : St Z p l e R s m args below meth c n0 T h k n) {z z' : Int32} (ht : ty = .boolean ∨ ty = .byte ∨ ty = .char ∨ ty = .short) (hz : nar ty z = z') (hd : decode bytes pc = .ok (.ireturn, 1)) (hQ : Qy (some (.int z')) h) (hk : k ≤ kc) (hn : n ≤ kn) : Go p e below (FinQ s kc kn n0 Qy) (T.setTop (mkF m pc Ls (.int z :: st))) := by
  subst hz
  exact go_leave C X (fun q => by rw [C.rt] at q; cases q) hQ hk hn fun Y _ hr => retN Y C.1 C.rt ht (C.cd hd) hr
/-! calls by the callee's contract -/
variable {idx : Nat} {y : MethodName} {yb : ByteArray} {yl : Nat} {yr : Option FieldType} {rm : Room} {as' : Array Value} {QY : Option Value → Heap → Prop} {argsL rest : List Value}
theorem con_back (C : Cx p s m meth c Z a0 own bytes maxL ret nm) (hM : Con l Z y yb yl yr rm as' h n0 QY) {W : Nat} (wc : (Jvm.Cond.code y yb yl yr).before a0 Z = true) (wz : (Jvm.Cond.initialized y.cls).before a0 Z = true) (hf : rm.frames + 1 ≤ R.frames) (hl : W + (yl + 11) + rm.locals ≤ R.locals) :
    Back l R p e below s args y 3 W (fun A a => a = as' ∧ A.U.heap = h ∧ A.cells + rm.cells ≤ R.cells ∧ A.slots + rm.slots ≤ R.slots) (fun A _ v B => ∃ L, (Fr n0 L ∧ QY v B.U.heap) ∧ B.locs = A.locs ++ L ∧ B.cells = A.cells + rm.cells ∧ B.slots = A.slots + rm.slots) :=
  backOf (Q := fun v h' L => Fr n0 L ∧ QY v h') (hM []) C.hZ wc wz hf hl
theorem go_callS (C : Cx p s m meth c Z a0 own bytes maxL ret nm) (X : St Z p l e R s m args below meth c n0 T h k n) (wl : (Jvm.Cond.methodLink own idx y).before a0 Z = true) (ws : (Jvm.Cond.static y).before a0 Z = true) (wi : (Jvm.Cond.initialized y.cls).before a0 Z = true) (wc : (Jvm.Cond.code y yb yl yr).before a0 Z = true)
    (hM : Con l Z y yb yl yr rm as' h n0 QY) (hlen : ∀ sig, parseMethodDescriptor y.desc = some sig → argsL.length = sig.parameters.length) (ha : argsL.toArray = as') (hy : y.cls ≠ "java/lang/invoke/MethodHandle" ∧ y.cls ≠ "java/lang/invoke/VarHandle")
    (hf : rm.frames + 1 ≤ R.frames) (hl : (rest.map fun v => v.category).sum + (yl + 11) + rm.locals ≤ R.locals) (hc : k + rm.cells ≤ R.cells) (hn : n + rm.slots ≤ R.slots) (hst : st = argsL.reverse ++ rest) (hsz : Ls.size = maxL) (hp : pc + 3 = pc') (hd : decode bytes pc = .ok (.invokestatic idx, 3))
    (hr : ∀ T' h' v, QY v h' → St Z p l e R s m args below meth c n0 T' h' (k + rm.cells) (n + rm.slots) → Go p e below Q (T'.setTop (mkF m pc' Ls (v.toList ++ rest)))) : Go p e below Q (T.setTop (mkF m pc Ls st)) := by
  subst hp; subst ha; subst hst
  obtain ⟨locs, Y, N, zs, eT⟩ := X
  obtain ⟨v, _, ⟨T', L', k', n'⟩, -, X', ⟨Lc, ⟨N', hQ⟩, l1, y1, z1⟩, stp⟩ := Jvm.LawKit.callS Y C.1 C.ow (mvT C.hZ wl) (mvT C.hZ ws) (mvT C.hZ wi) (mvT C.hZ wc) hy (con_back C hM (W := (rest.map fun v => v.category).sum) wc wi hf hl) (g := mkF m pc Ls (argsL.reverse ++ rest)) rfl (hsz.trans C.ml.symm) (argsL := argsL) (rest := rest) hlen rfl (by show 2 * 0 + _ ≤ _; omega) (C.cd hd) (fun _ _ => ⟨rfl, eT, hc, hn⟩)
  dsimp only [Pt.U, Pt.locs, Pt.cells, Pt.slots] at X' l1 y1 z1 stp hQ
  subst l1 y1 z1
  exact Go.back stp (hr T' T'.heap v hQ ⟨_, X', N.app N', zs, rfl⟩)
theorem go_special (C : Cx p s m meth c Z a0 own bytes maxL ret nm) (X : St Z p l e R s m args below meth c n0 T h k n) {a : Addr} (wl : (Jvm.Cond.methodLink own idx y).before a0 Z = true) (ws : (Jvm.Cond.instanceMethod y).before a0 Z = true) (wi : (Jvm.Cond.initialized y.cls).before a0 Z = true) (wc : (Jvm.Cond.code y yb yl none).before a0 Z = true) (hy1 : y.name = "<init>")
    (hM : Con l Z y yb yl none rm as' h n0 QY) (hlen : ∀ sig, parseMethodDescriptor y.desc = some sig → argsL.length = sig.parameters.length) (ha : (.ref a :: argsL).toArray = as') (hy : y.cls ≠ "java/lang/invoke/MethodHandle" ∧ y.cls ≠ "java/lang/invoke/VarHandle")
    (hf : rm.frames + 1 ≤ R.frames) (hl : (rest.map fun v => v.category).sum + (yl + 11) + rm.locals ≤ R.locals) (hc : k + rm.cells ≤ R.cells) (hn : n + rm.slots ≤ R.slots) (hst : st = argsL.reverse ++ .ref a :: rest) (hsz : Ls.size = maxL) (hp : pc + 3 = pc') (hd : decode bytes pc = .ok (.invokespecial idx, 3))
    (hr : ∀ T' h' v, QY v h' → St Z p l e R s m args below meth c n0 T' h' (k + rm.cells) (n + rm.slots) → Go p e below Q (T'.setTop (mkF m pc' Ls (v.toList ++ rest)))) : Go p e below Q (T.setTop (mkF m pc Ls st)) := by
  subst hp; subst ha; subst hst
  obtain ⟨locs, Y, N, zs, eT⟩ := X
  obtain ⟨v, _, ⟨T', L', k', n'⟩, -, X', ⟨Lc, ⟨N', hQ⟩, l1, y1, z1⟩, stp⟩ := Y.specialBack C.1 hy1 C.ow (mvT C.hZ wl) (mvT C.hZ ws) (mvT C.hZ wc) hy (con_back C hM (W := (rest.map fun v => v.category).sum) wc wi hf hl) (g := mkF m pc Ls (argsL.reverse ++ .ref a :: rest)) rfl (hsz.trans C.ml.symm) (Steps.refl _) (a := a) (argsL := argsL) (rest := rest) hlen rfl (by show 2 * 0 + _ ≤ _; omega) (C.cd hd) (fun _ _ => ⟨rfl, eT, hc, hn⟩)
  dsimp only [Pt.U, Pt.locs, Pt.cells, Pt.slots] at X' l1 y1 z1 stp hQ
  subst l1 y1 z1
  exact Go.back (fun t kt => stp.trans kt) (hr T' T'.heap v hQ ⟨_, X', N.app N', zs, rfl⟩)
theorem go_virtual (C : Cx p s m meth c Z a0 own bytes maxL ret nm) (X : St Z p l e R s m args below meth c n0 T h k n) {a : Addr} {cn : String} {y0 : MethodName} (E : Exa Z h a cn) (wl : (Jvm.Cond.methodLink own idx y0).before a0 Z = true) (wd : (Jvm.Cond.declares y0).before a0 Z = true) (hnf : NotFace s y0) (wsel : (Jvm.Cond.selects cn y0 y).before a0 Z = true) (ws : (Jvm.Cond.instanceMethod y).before a0 Z = true) (wi : (Jvm.Cond.initialized y.cls).before a0 Z = true) (wc : (Jvm.Cond.code y yb yl yr).before a0 Z = true)
    (hM : Con l Z y yb yl yr rm as' h n0 QY) (hlen : ∀ sig, parseMethodDescriptor y0.desc = some sig → argsL.length = sig.parameters.length) (ha : (.ref a :: argsL).toArray = as') (hy : y0.cls ≠ "java/lang/invoke/MethodHandle" ∧ y0.cls ≠ "java/lang/invoke/VarHandle")
    (hf : rm.frames + 1 ≤ R.frames) (hl : (rest.map fun v => v.category).sum + (yl + 11) + rm.locals ≤ R.locals) (hc : k + rm.cells ≤ R.cells) (hn : n + rm.slots ≤ R.slots) (hst : st = argsL.reverse ++ .ref a :: rest) (hsz : Ls.size = maxL) (hp : pc + 3 = pc') (hd : decode bytes pc = .ok (.invokevirtual idx, 3))
    (hr : ∀ T' h' v, QY v h' → St Z p l e R s m args below meth c n0 T' h' (k + rm.cells) (n + rm.slots) → Go p e below Q (T'.setTop (mkF m pc' Ls (v.toList ++ rest)))) : Go p e below Q (T.setTop (mkF m pc Ls st)) := by
  subst hp; subst ha; subst hst
  obtain ⟨locs, Y, N, zs, eT⟩ := X
  obtain ⟨cq, kq, qa, qb, qc⟩ := isOf C.hZ eT E
  obtain ⟨v, _, ⟨T', L', k', n'⟩, -, X', ⟨Lc, ⟨N', hQ⟩, l1, y1, z1⟩, stp⟩ := Y.virtualBack C.1 C.ow (mvT C.hZ wl) (mvT C.hZ wd) hnf (mvT C.hZ wsel) (mvT C.hZ ws) hy (con_back C hM (W := (rest.map fun v => v.category).sum) wc wi hf hl) qa qc (g := mkF m pc Ls (argsL.reverse ++ .ref a :: rest)) rfl (hsz.trans C.ml.symm) (Steps.refl _) (argsL := argsL) (rest := rest) hlen rfl (by show 2 * 0 + _ ≤ _; omega) (C.cd hd) (fun _ _ => ⟨rfl, eT, hc, hn⟩)
  dsimp only [Pt.U, Pt.locs, Pt.cells, Pt.slots] at X' l1 y1 z1 stp hQ
  subst l1 y1 z1
  exact Go.back (fun t kt => stp.trans kt) (hr T' T'.heap v hQ ⟨_, X', N.app N', zs, rfl⟩)
theorem go_private (C : Cx p s m meth c Z a0 own bytes maxL ret nm) (X : St Z p l e R s m args below meth c n0 T h k n) {a : Addr} {cn : String} (E : Exa Z h a cn) (wl : (Jvm.Cond.methodLink own idx y).before a0 Z = true) (ws : (Jvm.Cond.instanceMethod y).before a0 Z = true) (wsel : (Jvm.Cond.selects y.cls y y).before a0 Z = true) (wp : (Jvm.Cond.privateMethod y).before a0 Z = true) (wi : (Jvm.Cond.initialized y.cls).before a0 Z = true) (wc : (Jvm.Cond.code y yb yl yr).before a0 Z = true)
    (hM : Con l Z y yb yl yr rm as' h n0 QY) (hlen : ∀ sig, parseMethodDescriptor y.desc = some sig → argsL.length = sig.parameters.length) (ha : (.ref a :: argsL).toArray = as') (hy : y.cls ≠ "java/lang/invoke/MethodHandle" ∧ y.cls ≠ "java/lang/invoke/VarHandle")
    (hf : rm.frames + 1 ≤ R.frames) (hl : (rest.map fun v => v.category).sum + (yl + 11) + rm.locals ≤ R.locals) (hc : k + rm.cells ≤ R.cells) (hn : n + rm.slots ≤ R.slots) (hst : st = argsL.reverse ++ .ref a :: rest) (hsz : Ls.size = maxL) (hp : pc + 3 = pc') (hd : decode bytes pc = .ok (.invokevirtual idx, 3))
    (hr : ∀ T' h' v, QY v h' → St Z p l e R s m args below meth c n0 T' h' (k + rm.cells) (n + rm.slots) → Go p e below Q (T'.setTop (mkF m pc' Ls (v.toList ++ rest)))) : Go p e below Q (T.setTop (mkF m pc Ls st)) := by
  subst hp; subst ha; subst hst
  obtain ⟨locs, Y, N, zs, eT⟩ := X
  obtain ⟨cq, q1, q2⟩ := E.cell
  obtain ⟨v, _, ⟨T', L', k', n'⟩, -, X', ⟨Lc, ⟨N', hQ⟩, l1, y1, z1⟩, stp⟩ := Y.privateBack C.1 C.ow (mvT C.hZ wl) (mvT C.hZ ws) (mvT C.hZ wsel) (Cond.privateMethod_at (mvP C.hZ wp (args := #[]))) (mvT C.hZ wc) hy (con_back C hM (W := (rest.map fun v => v.category).sum) wc wi hf hl) (g := mkF m pc Ls (argsL.reverse ++ .ref a :: rest)) rfl (hsz.trans C.ml.symm) (Steps.refl _) (a := a) (by rw [eT]; exact q1) q2 (argsL := argsL) (rest := rest) hlen rfl (by show 2 * 0 + _ ≤ _; omega) (C.cd hd) (fun _ _ => ⟨rfl, eT, hc, hn⟩)
  dsimp only [Pt.U, Pt.locs, Pt.cells, Pt.slots] at X' l1 y1 z1 stp hQ
  subst l1 y1 z1
  exact Go.back (fun t kt => stp.trans kt) (hr T' T'.heap v hQ ⟨_, X', N.app N', zs, rfl⟩)
theorem go_initO (C : Cx p s m meth c Z a0 own bytes maxL ret nm) (X : St Z p l e R s m args below meth c n0 T h k n) {a : Addr} (w1 : (Jvm.Cond.methodLink own idx Lib.objectInit).before a0 Z = true) (w2 : (Jvm.Cond.instanceMethod Lib.objectInit).before a0 Z = true) (w3 : (Jvm.Cond.code Lib.objectInit ⟨#[0xb1]⟩ 1 none).before a0 Z = true)
    (hf : 1 ≤ R.frames) (hl : (st.map fun v => v.category).sum + 12 ≤ R.locals) (hsz : Ls.size = maxL) (hp : pc + 3 = pc') (hd : decode bytes pc = .ok (.invokespecial idx, 3))
    (hr : ∀ T', St Z p l e R s m args below meth c n0 T' h k n → Go p e below Q (T'.setTop (mkF m pc' Ls st))) : Go p e below Q (T.setTop (mkF m pc Ls (.ref a :: st))) := by
  subst hp
  obtain ⟨locs, Y, N, zs, eT⟩ := X
  obtain ⟨T', X', e', stp⟩ := initO Y C.1 C.hZ C.ow w1 w2 w3 eT (g := mkF m pc Ls (.ref a :: st)) rfl (hsz.trans C.ml.symm) rfl (C.cd hd) hf (W := (st.map fun v => v.category).sum) (by show 2 * 0 + _ ≤ _; omega) hl
  exact Go.back stp (hr T' ⟨_, X', N, zs, e'⟩)
/-! fields, new objects, arrays -/
theorem go_getF (C : Cx p s m meth c Z a0 own bytes maxL ret nm) (X : St Z p l e R s m args below meth c n0 T h k n) {R0 O fn d : String} {a : Addr} {v : Value} (w : (Jvm.Cond.fieldLink own idx R0 fn d).before a0 Z = true) (via : Via Z R0 O fn d) (F : Fld Z h a O fn d v) (hp : pc + 3 = pc') (hd : decode bytes pc = .ok (.getfield idx, 3))
    (hr : ∀ T', St Z p l e R s m args below meth c n0 T' h k n → Go p e below Q (T'.setTop (mkF m pc' Ls (v :: st)))) : Go p e below Q (T.setTop (mkF m pc Ls (.ref a :: st))) := by
  subst hp
  obtain ⟨locs, Y, N, zs, eT⟩ := X
  obtain ⟨T', X', e', stp⟩ := getF Y C.1 C.hZ C.ow (host := "") (Or.inl w) via eT F (g := mkF m pc Ls (.ref a :: st)) rfl rfl (C.cd hd)
  exact Go.back stp (hr T' ⟨_, X', N, zs, e'⟩)
theorem go_getFN (C : Cx p s m meth c Z a0 own bytes maxL ret nm) (X : St Z p l e R s m args below meth c n0 T h k n) {R0 O fn d host : String} {a : Addr} {v : Value} (w : (Jvm.Cond.fieldLinkNest own idx R0 fn d host).before a0 Z = true) (via : Via Z R0 O fn d) (F : Fld Z h a O fn d v) (hp : pc + 3 = pc') (hd : decode bytes pc = .ok (.getfield idx, 3))
    (hr : ∀ T', St Z p l e R s m args below meth c n0 T' h k n → Go p e below Q (T'.setTop (mkF m pc' Ls (v :: st)))) : Go p e below Q (T.setTop (mkF m pc Ls (.ref a :: st))) := by
  subst hp
  obtain ⟨locs, Y, N, zs, eT⟩ := X
  obtain ⟨T', X', e', stp⟩ := getF Y C.1 C.hZ C.ow (host := host) (Or.inr w) via eT F (g := mkF m pc Ls (.ref a :: st)) rfl rfl (C.cd hd)
  exact Go.back stp (hr T' ⟨_, X', N, zs, e'⟩)
theorem go_getS (C : Cx p s m meth c Z a0 own bytes maxL ret nm) (X : St Z p l e R s m args below meth c n0 T h k n) {O fn d : String} {v : Value} (w : (Jvm.Cond.fieldLink own idx O fn d).before a0 Z = true) (F : Sta Z h O fn d v) (hp : pc + 3 = pc') (hd : decode bytes pc = .ok (.getstatic idx, 3))
    (hr : ∀ T', St Z p l e R s m args below meth c n0 T' h k n → Go p e below Q (T'.setTop (mkF m pc' Ls (v :: st)))) : Go p e below Q (T.setTop (mkF m pc Ls st)) := by
  subst hp
  obtain ⟨locs, Y, N, zs, eT⟩ := X
  obtain ⟨T', X', e', stp⟩ := getS2 Y C.1 C.hZ C.ow (host := "") (Or.inl w) Via.refl eT F (g := mkF m pc Ls st) rfl (C.cd hd)
  exact Go.back stp (hr T' ⟨_, X', N, zs, e'⟩)
theorem go_putF (C : Cx p s m meth c Z a0 own bytes maxL ret nm) (X : St Z p l e R s m args below meth c n0 T h k n) {R0 O fn d cn : String} {kk : Nat} {ty : FieldType} {a : Addr} {v old : Value} (w : (Jvm.Cond.fieldLink own idx R0 fn d).before a0 Z = true) (via : Via Z R0 O fn d) (F : Fld Z h a O fn d old) (E : Exa Z h a cn) (L : (Jvm.Cond.lays cn O fn d).before a0 Z = true ∨ ((Jvm.Cond.laysFinal cn O fn d).before a0 Z = true ∧ own = O ∧ meth.name = "<init>")) (wi : (Jvm.Cond.instantiable cn kk).before a0 Z = true) (ga : n0 ≤ a)
    (hty : parseFieldDescriptor d = some ty) (hn : narrow ty v = v) (hf : fits ty v = true) (hp : pc + 3 = pc') (hd : decode bytes pc = .ok (.putfield idx, 3))
    (hr : ∀ T' h', Wr h h' a (Jvm.RoadKit.slotOf Z O fn d) v → St Z p l e R s m args below meth c n0 T' h' k n → Go p e below Q (T'.setTop (mkF m pc' Ls st))) : Go p e below Q (T.setTop (mkF m pc Ls (v :: .ref a :: st))) := by
  subst hp
  obtain ⟨locs, Y, N, zs, eT⟩ := X
  obtain ⟨T', h', X', e', W, stp⟩ := putF Y C.1 C.hZ C.ow (host := "") (Or.inl w) via eT F E L wi hty hn hf (g := mkF m pc Ls (v :: .ref a :: st)) rfl rfl (C.cd hd)
  exact Go.back stp (hr T' h' W ⟨_, X', Fr.snoc X' N ga, zs, e'⟩)
theorem go_putFN (C : Cx p s m meth c Z a0 own bytes maxL ret nm) (X : St Z p l e R s m args below meth c n0 T h k n) {R0 O fn d cn : String} {kk : Nat} {ty : FieldType} {a : Addr} {v v' old : Value} (w : (Jvm.Cond.fieldLink own idx R0 fn d).before a0 Z = true) (via : Via Z R0 O fn d) (F : Fld Z h a O fn d old) (E : Exa Z h a cn) (L : (Jvm.Cond.lays cn O fn d).before a0 Z = true ∨ ((Jvm.Cond.laysFinal cn O fn d).before a0 Z = true ∧ own = O ∧ meth.name = "<init>")) (wi : (Jvm.Cond.instantiable cn kk).before a0 Z = true) (ga : n0 ≤ a)
    (hty : parseFieldDescriptor d = some ty) (hn : narrow ty v = v') (hf : fits ty v' = true) (hp : pc + 3 = pc') (hd : decode bytes pc = .ok (.putfield idx, 3))
    (hr : ∀ T' h', Wr h h' a (Jvm.RoadKit.slotOf Z O fn d) v' → St Z p l e R s m args below meth c n0 T' h' k n → Go p e below Q (T'.setTop (mkF m pc' Ls st))) : Go p e below Q (T.setTop (mkF m pc Ls (v :: .ref a :: st))) := by
  subst hp
  obtain ⟨locs, Y, N, zs, eT⟩ := X
  obtain ⟨T', h', X', e', W, stp⟩ := putFN Y C.1 C.hZ C.ow w via eT F E L wi hty hn hf (g := mkF m pc Ls (v :: .ref a :: st)) rfl rfl (C.cd hd)
  exact Go.back stp (hr T' h' W ⟨_, X', Fr.snoc X' N ga, zs, e'⟩)
theorem go_new (C : Cx p s m meth c Z a0 own bytes maxL ret nm) (X : St Z p l e R s m args below meth c n0 T h k n) {cn : String} {kk : Nat} (w : (Jvm.Cond.classLink own idx cn).before a0 Z = true) (wi : (Jvm.Cond.instantiable cn kk).before a0 Z = true) (wz : (Jvm.Cond.initialized cn).before a0 Z = true) (hc : k + 1 ≤ R.cells) (hl : n + kk ≤ R.slots) (hp : pc + 3 = pc') (hd : decode bytes pc = .ok (.new idx, 3))
    (hr : ∀ T' h' a, a = h.size → n0 ≤ a → Ext h h' → Exa Z h' a cn → (∀ {O fn d : String} {ty : FieldType}, Laid Z a0 cn O fn d → parseFieldDescriptor d = some ty → Fld Z h' a O fn d (defaultValue ty)) → St Z p l e R s m args below meth c n0 T' h' (k + 1) (n + kk) → Go p e below Q (T'.setTop (mkF m pc' Ls (.ref a :: st)))) : Go p e below Q (T.setTop (mkF m pc Ls st)) := by
  subst hp
  have hsz := X.sz
  obtain ⟨locs, Y, N, zs, eT⟩ := X
  obtain ⟨T', h', X', e', E, A, D, -, stp⟩ := newO Y C.1 C.hZ C.ow w wi wz eT (g := mkF m pc Ls st) rfl (C.cd hd) hc hl
  exact Go.back stp (hr T' h' _ rfl hsz E A D ⟨_, X', N, zs, e'⟩)
/-- an array whose components are vs -/
def La (Z : State) (h : Heap) (a : Addr) (ty : FieldType) (vs : List Value) : Prop := ∃ c : Cell, Arr Z h a c ty ∧ c.slots = vs.toArray ∧ vs.length < 2 ^ 31 ∧ ∀ v ∈ vs, fits ty v = true
theorem La.lt {a : Addr} {ty : FieldType} {vs : List Value} (F : La Z h a ty vs) : a < h.size := by obtain ⟨c, A, -⟩ := F; exact A.lt
theorem La.len {a : Addr} {ty : FieldType} {vs : List Value} (F : La Z h a ty vs) : vs.length < 2 ^ 31 := by obtain ⟨c, A, -, q, -⟩ := F; exact q
theorem La.ext {h' : Heap} {a : Addr} {ty : FieldType} {vs : List Value} (F : La Z h a ty vs) (E : Ext h h') : La Z h' a ty vs := by obtain ⟨c, A, r⟩ := F; exact ⟨c, A.ext E, r⟩
theorem La.other {h' : Heap} {a b : Addr} {sl : Nat} {v : Value} {ty : FieldType} {vs : List Value} (F : La Z h b ty vs) (W : Wr h h' a sl v) (q : b ≠ a) : La Z h' b ty vs := by obtain ⟨c, A, r⟩ := F; exact ⟨c, A.other W q, r⟩
theorem La.keep {h' : Heap} {a : Addr} {ws : List Addr} {ty : FieldType} {vs : List Value} (F : La Z h a ty vs) (K : Keep h h' ws) (q : a ∉ ws) : La Z h' a ty vs := by obtain ⟨c, A, r⟩ := F; exact ⟨c, ⟨K.2.1 a c A.1 q, A.2⟩, r⟩
theorem La.set {h' : Heap} {a : Addr} {j : Nat} {v : Value} {ty : FieldType} {vs : List Value} (F : La Z h a ty vs) (W : Wr h h' a j v) (hv : fits ty v = true) : La Z h' a ty (vs.set j v) := by
  obtain ⟨c, A, e1, e2, e3⟩ := F
  refine ⟨_, A.same W, ?_, by simpa using e2, fun w hw => ?_⟩
  · simp [Cell.setSlot, e1]
  · rcases List.mem_or_eq_of_mem_set hw with q | q
    · exact e3 w q
    · subst q; exact hv
theorem clamp_eq {j : Int32} (q : 0 ≤ j.toInt) : (j.toNatClampNeg : Int) = j.toInt := by show ((j.toInt.toNat : Nat) : Int) = _; omega
theorem neg_not {j : Int32} (q : 0 ≤ j.toInt) : ¬ j < 0 := by rw [Int32.lt_iff_toInt_lt]; have : (0 : Int32).toInt = 0 := rfl; omega
theorem La.inb {c : Cell} {vs : List Value} {j : Int32} {v : Value} (e : c.slots = vs.toArray) (q : 0 ≤ j.toInt) (hv : vs[j.toNatClampNeg]? = some v) : ¬ (j < 0 ∨ c.slots.size ≤ j.toNatClampNeg) ∧ c.slots[j.toNatClampNeg]? = some v := by
  obtain ⟨hl, -⟩ := List.getElem?_eq_some_iff.mp hv
  refine ⟨fun r => r.elim (neg_not q) fun r => ?_, by rw [e]; simpa using hv⟩
  rw [e] at r; simp at r; omega
theorem go_alen (C : Cx p s m meth c Z a0 own bytes maxL ret nm) (X : St Z p l e R s m args below meth c n0 T h k n) {a : Addr} {ty : FieldType} {vs : List Value} {z : Int32} (A : La Z h a ty vs) (hz : vs.length.toInt32 = z) (hp : pc + 1 = pc') (hd : decode bytes pc = .ok (.arraylength, 1)) (hr : Go p e below Q (T.setTop (mkF m pc' Ls (.int z :: st)))) : Go p e below Q (T.setTop (mkF m pc Ls (.ref a :: st))) := by
  subst hp
  obtain ⟨locs, Y, N, zs, eT⟩ := X
  obtain ⟨cl, B, e1, e2, e3⟩ := A
  have ez : cl.slots.size.toInt32 = z := by rw [e1]; simpa using hz
  subst ez
  exact Go.back (fun t kt => Y.arraylength C.1 (by rw [eT]; exact B.1) (State.isArrayOf_alike C.hZ.alike B.2.1) (g := mkF m pc Ls (.ref a :: st)) rfl rfl (C.cd hd) t kt) hr

theorem go_iaload (C : Cx p s m meth c Z a0 own bytes maxL ret nm) (X : St Z p l e R s m args below meth c n0 T h k n) {a : Addr} {vs : List Value} {j : Int32} {v : Value} (A : La Z h a .int vs) (q : 0 ≤ j.toInt) (hv : vs[j.toNatClampNeg]? = some v) (hp : pc + 1 = pc') (hd : decode bytes pc = .ok (.iaload, 1)) (hr : Go p e below Q (T.setTop (mkF m pc' Ls (v :: st)))) : Go p e below Q (T.setTop (mkF m pc Ls (.int j :: .ref a :: st))) := by
  subst hp
  obtain ⟨locs, Y, N, zs, eT⟩ := X
  obtain ⟨cl, B, e1, e2, e3⟩ := A
  obtain ⟨i1, i2⟩ := La.inb e1 q hv
  exact Go.back (fun t kt => Y.iaload C.1 (by rw [eT]; exact B.1) (State.isArrayOf_alike C.hZ.alike B.2.1) B.2.2 i1 i2 (g := mkF m pc Ls (.int j :: .ref a :: st)) rfl rfl (C.cd hd) t kt) hr
theorem go_laload (C : Cx p s m meth c Z a0 own bytes maxL ret nm) (X : St Z p l e R s m args below meth c n0 T h k n) {a : Addr} {vs : List Value} {j : Int32} {v : Value} (A : La Z h a .long vs) (q : 0 ≤ j.toInt) (hv : vs[j.toNatClampNeg]? = some v) (hp : pc + 1 = pc') (hd : decode bytes pc = .ok (.laload, 1)) (hr : Go p e below Q (T.setTop (mkF m pc' Ls (v :: st)))) : Go p e below Q (T.setTop (mkF m pc Ls (.int j :: .ref a :: st))) := by
  subst hp
  obtain ⟨locs, Y, N, zs, eT⟩ := X
  obtain ⟨cl, B, e1, e2, e3⟩ := A
  obtain ⟨i1, i2⟩ := La.inb e1 q hv
  exact Go.back (fun t kt => Y.laload C.1 (by rw [eT]; exact B.1) (State.isArrayOf_alike C.hZ.alike B.2.1) B.2.2 i1 i2 (g := mkF m pc Ls (.int j :: .ref a :: st)) rfl rfl (C.cd hd) t kt) hr
theorem go_caload (C : Cx p s m meth c Z a0 own bytes maxL ret nm) (X : St Z p l e R s m args below meth c n0 T h k n) {a : Addr} {vs : List Value} {j : Int32} {v : Value} (A : La Z h a .char vs) (q : 0 ≤ j.toInt) (hv : vs[j.toNatClampNeg]? = some v) (hp : pc + 1 = pc') (hd : decode bytes pc = .ok (.caload, 1)) (hr : Go p e below Q (T.setTop (mkF m pc' Ls (v :: st)))) : Go p e below Q (T.setTop (mkF m pc Ls (.int j :: .ref a :: st))) := by
  subst hp
  obtain ⟨locs, Y, N, zs, eT⟩ := X
  obtain ⟨cl, B, e1, e2, e3⟩ := A
  obtain ⟨i1, i2⟩ := La.inb e1 q hv
  exact Go.back (fun t kt => Y.caload C.1 (by rw [eT]; exact B.1) (State.isArrayOf_alike C.hZ.alike B.2.1) B.2.2 i1 i2 (g := mkF m pc Ls (.int j :: .ref a :: st)) rfl rfl (C.cd hd) t kt) hr
theorem go_saload (C : Cx p s m meth c Z a0 own bytes maxL ret nm) (X : St Z p l e R s m args below meth c n0 T h k n) {a : Addr} {vs : List Value} {j : Int32} {v : Value} (A : La Z h a .short vs) (q : 0 ≤ j.toInt) (hv : vs[j.toNatClampNeg]? = some v) (hp : pc + 1 = pc') (hd : decode bytes pc = .ok (.saload, 1)) (hr : Go p e below Q (T.setTop (mkF m pc' Ls (v :: st)))) : Go p e below Q (T.setTop (mkF m pc Ls (.int j :: .ref a :: st))) := by
  subst hp
  obtain ⟨locs, Y, N, zs, eT⟩ := X
  obtain ⟨cl, B, e1, e2, e3⟩ := A
  obtain ⟨i1, i2⟩ := La.inb e1 q hv
  exact Go.back (fun t kt => Y.saload C.1 (by rw [eT]; exact B.1) (State.isArrayOf_alike C.hZ.alike B.2.1) B.2.2 i1 i2 (g := mkF m pc Ls (.int j :: .ref a :: st)) rfl rfl (C.cd hd) t kt) hr
theorem go_daload (C : Cx p s m meth c Z a0 own bytes maxL ret nm) (X : St Z p l e R s m args below meth c n0 T h k n) {a : Addr} {vs : List Value} {j : Int32} {v : Value} (A : La Z h a .double vs) (q : 0 ≤ j.toInt) (hv : vs[j.toNatClampNeg]? = some v) (hp : pc + 1 = pc') (hd : decode bytes pc = .ok (.daload, 1)) (hr : Go p e below Q (T.setTop (mkF m pc' Ls (v :: st)))) : Go p e below Q (T.setTop (mkF m pc Ls (.int j :: .ref a :: st))) := by
  subst hp
  obtain ⟨locs, Y, N, zs, eT⟩ := X
  obtain ⟨cl, B, e1, e2, e3⟩ := A
  obtain ⟨i1, i2⟩ := La.inb e1 q hv
  exact Go.back (fun t kt => Y.daload C.1 (by rw [eT]; exact B.1) (State.isArrayOf_alike C.hZ.alike B.2.1) B.2.2 i1 i2 (g := mkF m pc Ls (.int j :: .ref a :: st)) rfl rfl (C.cd hd) t kt) hr
theorem go_baloadBytes (C : Cx p s m meth c Z a0 own bytes maxL ret nm) (X : St Z p l e R s m args below meth c n0 T h k n) {a : Addr} {vs : List Value} {j : Int32} {v : Value} (A : La Z h a .byte vs) (q : 0 ≤ j.toInt) (hv : vs[j.toNatClampNeg]? = some v) (hp : pc + 1 = pc') (hd : decode bytes pc = .ok (.baload, 1)) (hr : Go p e below Q (T.setTop (mkF m pc' Ls (v :: st)))) : Go p e below Q (T.setTop (mkF m pc Ls (.int j :: .ref a :: st))) := by
  subst hp
  obtain ⟨locs, Y, N, zs, eT⟩ := X
  obtain ⟨cl, B, e1, e2, e3⟩ := A
  obtain ⟨i1, i2⟩ := La.inb e1 q hv
  exact Go.back (fun t kt => Y.baloadBytes C.1 (by rw [eT]; exact B.1) (State.isArrayOf_alike C.hZ.alike B.2.1) B.2.2 i1 i2 (g := mkF m pc Ls (.int j :: .ref a :: st)) rfl rfl (C.cd hd) t kt) hr
theorem go_baloadBooleans (C : Cx p s m meth c Z a0 own bytes maxL ret nm) (X : St Z p l e R s m args below meth c n0 T h k n) {a : Addr} {vs : List Value} {j : Int32} {v : Value} (A : La Z h a .boolean vs) (q : 0 ≤ j.toInt) (hv : vs[j.toNatClampNeg]? = some v) (hp : pc + 1 = pc') (hd : decode bytes pc = .ok (.baload, 1)) (hr : Go p e below Q (T.setTop (mkF m pc' Ls (v :: st)))) : Go p e below Q (T.setTop (mkF m pc Ls (.int j :: .ref a :: st))) := by
  subst hp
  obtain ⟨locs, Y, N, zs, eT⟩ := X
  obtain ⟨cl, B, e1, e2, e3⟩ := A
  obtain ⟨i1, i2⟩ := La.inb e1 q hv
  exact Go.back (fun t kt => Y.baloadBooleans C.1 (by rw [eT]; exact B.1) (State.isArrayOf_alike C.hZ.alike B.2.1) B.2.2 i1 i2 (g := mkF m pc Ls (.int j :: .ref a :: st)) rfl rfl (C.cd hd) t kt) hr
theorem go_aaload (C : Cx p s m meth c Z a0 own bytes maxL ret nm) (X : St Z p l e R s m args below meth c n0 T h k n) {a : Addr} {vs : List Value} {ty : FieldType} {j : Int32} {v : Value} (A : La Z h a ty vs) (ht : ty.isReference = true) (q : 0 ≤ j.toInt) (hv : vs[j.toNatClampNeg]? = some v) (hp : pc + 1 = pc') (hd : decode bytes pc = .ok (.aaload, 1)) (hr : Go p e below Q (T.setTop (mkF m pc' Ls (v :: st)))) : Go p e below Q (T.setTop (mkF m pc Ls (.int j :: .ref a :: st))) := by
  subst hp
  obtain ⟨locs, Y, N, zs, eT⟩ := X
  obtain ⟨cl, B, e1, e2, e3⟩ := A
  obtain ⟨i1, i2⟩ := La.inb e1 q hv
  exact Go.back (fun t kt => Y.aaload C.1 (by rw [eT]; exact B.1) (State.isArrayOf_alike C.hZ.alike B.2.1) ht B.2.2 i1 i2 (g := mkF m pc Ls (.int j :: .ref a :: st)) rfl rfl (C.cd hd) t kt) hr
theorem go_iastore (C : Cx p s m meth c Z a0 own bytes maxL ret nm) (X : St Z p l e R s m args below meth c n0 T h k n) {a : Addr} {vs : List Value} {j : Int32} {x : Int32} (A : La Z h a .int vs) (q : 0 ≤ j.toInt) (hj : j.toInt < vs.length) (ga : n0 ≤ a) (hp : pc + 1 = pc') (hd : decode bytes pc = .ok (.iastore, 1))
    (hr : ∀ T' h', Wr h h' a j.toNatClampNeg (.int x) → La Z h' a .int (vs.set j.toNatClampNeg (.int x)) → St Z p l e R s m args below meth c n0 T' h' k n → Go p e below Q (T'.setTop (mkF m pc' Ls st))) : Go p e below Q (T.setTop (mkF m pc Ls (.int x :: .int j :: .ref a :: st))) := by
  subst hp
  obtain ⟨locs, Y, N, zs, eT⟩ := X
  have A' := A
  obtain ⟨cl, B, e1, e2, e3⟩ := A
  have i1 : ¬ (j < 0 ∨ cl.slots.size ≤ j.toNatClampNeg) := fun r => r.elim (neg_not q) fun r => by
    rw [e1] at r; simp at r; have := clamp_eq q; omega
  obtain ⟨T', h', X', e', W, stp⟩ := stI Y C.1 C.hZ eT B i1 (g := mkF m pc Ls (.int x :: .int j :: .ref a :: st)) rfl rfl (C.cd hd)
  exact Go.back stp (hr T' h' W (A'.set W rfl) ⟨_, X', Fr.snoc X' N ga, zs, e'⟩)
theorem go_lastore (C : Cx p s m meth c Z a0 own bytes maxL ret nm) (X : St Z p l e R s m args below meth c n0 T h k n) {a : Addr} {vs : List Value} {j : Int32} {x : Int64} (A : La Z h a .long vs) (q : 0 ≤ j.toInt) (hj : j.toInt < vs.length) (ga : n0 ≤ a) (hp : pc + 1 = pc') (hd : decode bytes pc = .ok (.lastore, 1))
    (hr : ∀ T' h', Wr h h' a j.toNatClampNeg (.long x) → La Z h' a .long (vs.set j.toNatClampNeg (.long x)) → St Z p l e R s m args below meth c n0 T' h' k n → Go p e below Q (T'.setTop (mkF m pc' Ls st))) : Go p e below Q (T.setTop (mkF m pc Ls (.long x :: .int j :: .ref a :: st))) := by
  subst hp
  obtain ⟨locs, Y, N, zs, eT⟩ := X
  have A' := A
  obtain ⟨cl, B, e1, e2, e3⟩ := A
  have i1 : ¬ (j < 0 ∨ cl.slots.size ≤ j.toNatClampNeg) := fun r => r.elim (neg_not q) fun r => by
    rw [e1] at r; simp at r; have := clamp_eq q; omega
  obtain ⟨T', h', X', e', W, stp⟩ := stJ Y C.1 C.hZ eT B i1 (g := mkF m pc Ls (.long x :: .int j :: .ref a :: st)) rfl rfl (C.cd hd)
  exact Go.back stp (hr T' h' W (A'.set W rfl) ⟨_, X', Fr.snoc X' N ga, zs, e'⟩)
theorem go_dastore (C : Cx p s m meth c Z a0 own bytes maxL ret nm) (X : St Z p l e R s m args below meth c n0 T h k n) {a : Addr} {vs : List Value} {j : Int32} {x : UInt64} (A : La Z h a .double vs) (q : 0 ≤ j.toInt) (hj : j.toInt < vs.length) (ga : n0 ≤ a) (hp : pc + 1 = pc') (hd : decode bytes pc = .ok (.dastore, 1))
    (hr : ∀ T' h', Wr h h' a j.toNatClampNeg (.double x) → La Z h' a .double (vs.set j.toNatClampNeg (.double x)) → St Z p l e R s m args below meth c n0 T' h' k n → Go p e below Q (T'.setTop (mkF m pc' Ls st))) : Go p e below Q (T.setTop (mkF m pc Ls (.double x :: .int j :: .ref a :: st))) := by
  subst hp
  obtain ⟨locs, Y, N, zs, eT⟩ := X
  have A' := A
  obtain ⟨cl, B, e1, e2, e3⟩ := A
  have i1 : ¬ (j < 0 ∨ cl.slots.size ≤ j.toNatClampNeg) := fun r => r.elim (neg_not q) fun r => by
    rw [e1] at r; simp at r; have := clamp_eq q; omega
  obtain ⟨T', h', X', e', W, stp⟩ := stD Y C.1 C.hZ eT B i1 (g := mkF m pc Ls (.double x :: .int j :: .ref a :: st)) rfl rfl (C.cd hd)
  exact Go.back stp (hr T' h' W (A'.set W rfl) ⟨_, X', Fr.snoc X' N ga, zs, e'⟩)
theorem go_newarr (C : Cx p s m meth c Z a0 own bytes maxL ret nm) (X : St Z p l e R s m args below meth c n0 T h k n) {aty : ArrayType} (w : (Jvm.Cond.arrayClass (newarray.typeOf aty)).before a0 Z = true) {z : Int32} {cap : Nat} (hz : 0 ≤ z.toInt) (hcap : z.toInt ≤ cap) (hb8 : cap * 8 ≤ 536870912) (hc : k + 1 ≤ R.cells) (hl : n + cap ≤ R.slots) (hp : pc + 2 = pc') (hd : decode bytes pc = .ok (.newarray aty, 2))
    (hr : ∀ T' h' a, a = h.size → n0 ≤ a → Ext h h' → La Z h' a (newarray.typeOf aty) (List.replicate z.toNatClampNeg (defaultValue (newarray.typeOf aty))) → St Z p l e R s m args below meth c n0 T' h' (k + 1) (n + cap) → Go p e below Q (T'.setTop (mkF m pc' Ls (.ref a :: st)))) : Go p e below Q (T.setTop (mkF m pc Ls (.int z :: st))) := by
  subst hp
  have hsz := X.sz
  obtain ⟨locs, Y, N, zs, eT⟩ := X
  have hzc := clamp_eq hz
  obtain ⟨T', h', cA, X', e', E, A, stp⟩ := newP Y C.1 C.hZ w eT (g := mkF m pc Ls (.int z :: st)) rfl (C.cd hd) rfl (neg_not hz) (cap := cap) (by omega) hb8 hc hl
  refine Go.back stp (hr T' h' _ rfl hsz E ⟨_, A, by simp [newA], ?_, fun v hv => ?_⟩ ⟨_, X', N, zs, e'⟩)
  · have := z.toInt_lt; simp; omega
  · obtain ⟨-, rfl⟩ := List.mem_replicate.mp hv; cases aty <;> rfl
theorem go_newarrE (C : Cx p s m meth c Z a0 own bytes maxL ret nm) (X : St Z p l e R s m args below meth c n0 T h k n) {aty : ArrayType} (w : (Jvm.Cond.arrayClass (newarray.typeOf aty)).before a0 Z = true) {z : Int32} {cap : Nat} {ad : String} (had : "[" ++ (newarray.typeOf aty).toString = ad) (hz : 0 ≤ z.toInt) (hcap : z.toInt ≤ cap) (hb8 : cap * 8 ≤ 536870912) (hc : k + 1 ≤ R.cells) (hl : n + cap ≤ R.slots) (hp : pc + 2 = pc') (hd : decode bytes pc = .ok (.newarray aty, 2))
    (hr : ∀ T' h' a, a = h.size → n0 ≤ a → Ext h h' → La Z h' a (newarray.typeOf aty) (List.replicate z.toNatClampNeg (defaultValue (newarray.typeOf aty))) → Exa Z h' a ad → St Z p l e R s m args below meth c n0 T' h' (k + 1) (n + cap) → Go p e below Q (T'.setTop (mkF m pc' Ls (.ref a :: st)))) : Go p e below Q (T.setTop (mkF m pc Ls (.int z :: st))) := by
  subst hp
  have hsz := X.sz
  obtain ⟨locs, Y, N, zs, eT⟩ := X
  have hzc := clamp_eq hz
  obtain ⟨T', h', cA, X', e', E, A, EX, stp⟩ := newPE Y C.1 C.hZ w eT (g := mkF m pc Ls (.int z :: st)) rfl (C.cd hd) rfl (neg_not hz) (cap := cap) (by omega) hb8 hc hl had
  refine Go.back stp (hr T' h' _ rfl hsz E ⟨_, A, by simp [newA], ?_, fun v hv => ?_⟩ EX ⟨_, X', N, zs, e'⟩)
  · have := z.toInt_lt; simp; omega
  · obtain ⟨-, rfl⟩ := List.mem_replicate.mp hv; cases aty <;> rfl
theorem go_ifnull_n (C : Cx p s m meth c Z a0 own bytes maxL ret nm) (X : St Z p l e R s m args below meth c n0 T h k n) {o : Int} (hd : decode bytes pc = .ok (.ifnull o, 3)) (ho : 0 ≤ (pc : Int) + o) (hp2 : ((pc : Int) + o).toNat = pc2) (hr : Go p e below Q (T.setTop (mkF m pc2 Ls st))) : Go p e below Q (T.setTop (mkF m pc Ls (.null :: st))) := by
  obtain ⟨locs, Y, -, -, -⟩ := X
  exact Go.back (fun t kt => Jvm.Free.XS.ifnullYes Y.here C.1 rfl (pc0 := pc) rfl (C.cd hd) rfl ho hp2 kt) hr
theorem go_ifnull_r (C : Cx p s m meth c Z a0 own bytes maxL ret nm) (X : St Z p l e R s m args below meth c n0 T h k n) {o : Int} {b : Addr} (hp : pc + 3 = pc') (hd : decode bytes pc = .ok (.ifnull o, 3)) (hr : Go p e below Q (T.setTop (mkF m pc' Ls st))) : Go p e below Q (T.setTop (mkF m pc Ls (.ref b :: st))) := by
  subst hp
  obtain ⟨locs, Y, -, -, -⟩ := X
  exact Go.back (fun t kt => Jvm.Free.XS.ifnullNo Y.here C.1 rfl (C.cd hd) rfl kt) hr
theorem go_ifnonnull_r (C : Cx p s m meth c Z a0 own bytes maxL ret nm) (X : St Z p l e R s m args below meth c n0 T h k n) {o : Int} {b : Addr} (hd : decode bytes pc = .ok (.ifnonnull o, 3)) (ho : 0 ≤ (pc : Int) + o) (hp2 : ((pc : Int) + o).toNat = pc2) (hr : Go p e below Q (T.setTop (mkF m pc2 Ls st))) : Go p e below Q (T.setTop (mkF m pc Ls (.ref b :: st))) := by
  obtain ⟨locs, Y, -, -, -⟩ := X
  exact Go.back (fun t kt => Jvm.Free.XS.ifnonnullYes Y.here C.1 rfl (pc0 := pc) rfl (C.cd hd) rfl ho hp2 kt) hr
theorem go_ifnonnull_n (C : Cx p s m meth c Z a0 own bytes maxL ret nm) (X : St Z p l e R s m args below meth c n0 T h k n) {o : Int} (hp : pc + 3 = pc') (hd : decode bytes pc = .ok (.ifnonnull o, 3)) (hr : Go p e below Q (T.setTop (mkF m pc' Ls st))) : Go p e below Q (T.setTop (mkF m pc Ls (.null :: st))) := by
  subst hp
  obtain ⟨locs, Y, -, -, -⟩ := X
  exact Go.back (fun t kt => Jvm.Free.XS.ifnonnullNo Y.here C.1 rfl (C.cd hd) rfl kt) hr
theorem go_acmp_eq (C : Cx p s m meth c Z a0 own bytes maxL ret nm) (X : St Z p l e R s m args below meth c n0 T h k n) {o : Int} {x y : Value} (hx : x.isRef = true) (hy : y.isRef = true) (hd : decode bytes pc = .ok (.if_acmp .eq o, 3)) (hp : pc + 3 = pc') (ho : 0 ≤ (pc : Int) + o) (hp2 : ((pc : Int) + o).toNat = pc2) (h1 : x = y → Go p e below Q (T.setTop (mkF m pc2 Ls st))) (h2 : ¬ x = y → Go p e below Q (T.setTop (mkF m pc' Ls st))) : Go p e below Q (T.setTop (mkF m pc Ls (y :: x :: st))) := by
  obtain ⟨locs, Y, -, -, -⟩ := X
  by_cases q : x = y
  · exact Go.back (fun t kt => acmp (g := mkF m pc Ls (y :: x :: st)) Y C.1 rfl hx hy (pc0 := pc) (pc' := pc2) (same := true) rfl (C.cd hd) rfl (decide_eq_true q) ho (by simp [acV, hp2]) kt) (h1 q)
  · exact Go.back (fun t kt => acmp (g := mkF m pc Ls (y :: x :: st)) Y C.1 rfl hx hy (pc0 := pc) (pc' := pc') (same := false) rfl (C.cd hd) rfl (decide_eq_false q) ho (by simp [acV, hp]) kt) (h2 q)
theorem go_acmp_ne (C : Cx p s m meth c Z a0 own bytes maxL ret nm) (X : St Z p l e R s m args below meth c n0 T h k n) {o : Int} {x y : Value} (hx : x.isRef = true) (hy : y.isRef = true) (hd : decode bytes pc = .ok (.if_acmp .ne o, 3)) (hp : pc + 3 = pc') (ho : 0 ≤ (pc : Int) + o) (hp2 : ((pc : Int) + o).toNat = pc2) (h1 : ¬ x = y → Go p e below Q (T.setTop (mkF m pc2 Ls st))) (h2 : x = y → Go p e below Q (T.setTop (mkF m pc' Ls st))) : Go p e below Q (T.setTop (mkF m pc Ls (y :: x :: st))) := by
  obtain ⟨locs, Y, -, -, -⟩ := X
  by_cases q : x = y
  · exact Go.back (fun t kt => acmp (g := mkF m pc Ls (y :: x :: st)) Y C.1 rfl hx hy (pc0 := pc) (pc' := pc') (same := true) rfl (C.cd hd) rfl (decide_eq_true q) ho (by simp [acV, hp]) kt) (h2 q)
  · exact Go.back (fun t kt => acmp (g := mkF m pc Ls (y :: x :: st)) Y C.1 rfl hx hy (pc0 := pc) (pc' := pc2) (same := false) rfl (C.cd hd) rfl (decide_eq_false q) ho (by simp [acV, hp2]) kt) (h1 q)
theorem go_cast (C : Cx p s m meth c Z a0 own bytes maxL ret nm) (X : St Z p l e R s m args below meth c n0 T h k n) {cn : String} {a : Addr} (w : (Jvm.Cond.classLink own idx cn).before a0 Z = true) (F : Ins Z h a cn true) (hp : pc + 3 = pc') (hd : decode bytes pc = .ok (.checkcast idx, 3)) (hr : ∀ T', St Z p l e R s m args below meth c n0 T' h k n → Go p e below Q (T'.setTop (mkF m pc' Ls (.ref a :: st)))) : Go p e below Q (T.setTop (mkF m pc Ls (.ref a :: st))) := by
  subst hp
  obtain ⟨locs, Y, N, zs, eT⟩ := X
  obtain ⟨T', X', e', stp⟩ := castY Y C.1 C.hZ C.ow w eT F (g := mkF m pc Ls (.ref a :: st)) rfl rfl (C.cd hd)
  exact Go.back stp (hr T' ⟨_, X', N, zs, e'⟩)
theorem go_clone (C : Cx p s m meth c Z a0 own bytes maxL ret nm) (X : St Z p l e R s m args below meth c n0 T h k n) {ad : String} {a : Addr} {ty : FieldType} {vs : List Value} {cap : Nat} (w1 : (Jvm.Cond.methodLink own idx ⟨ad, "clone", "()Ljava/lang/Object;"⟩).before a0 Z = true) (w2 : (Jvm.Cond.sameMethod ad "java/lang/Object" "clone" "()Ljava/lang/Object;").before a0 Z = true) (w3 : (Jvm.Cond.native ⟨"java/lang/Object", "clone", "()Ljava/lang/Object;"⟩).before a0 Z = true)
    (w4 : (Jvm.Cond.instanceMethod ⟨"java/lang/Object", "clone", "()Ljava/lang/Object;"⟩).before a0 Z = true) (w5 : (Jvm.Cond.selects ad ⟨ad, "clone", "()Ljava/lang/Object;"⟩ ⟨"java/lang/Object", "clone", "()Ljava/lang/Object;"⟩).before a0 Z = true) (w6 : (Jvm.Cond.castable ad "java/lang/Cloneable").before a0 Z = true)
    (A : La Z h a ty vs) (E : Exa Z h a ad) (hf : 1 ≤ R.frames) (hl : (st.map fun v => v.category).sum + 14 ≤ R.locals) (hcap : vs.length ≤ cap) (hc : k + 1 ≤ R.cells) (hsl : n + cap ≤ R.slots) (hsz : Ls.size = maxL) (hp : pc + 3 = pc') (hd : decode bytes pc = .ok (.invokevirtual idx, 3))
    (hr : ∀ T' h' b, b = h.size → n0 ≤ b → Ext h h' → La Z h' b ty vs → Exa Z h' b ad → St Z p l e R s m args below meth c n0 T' h' (k + 1) (n + cap) → Go p e below Q (T'.setTop (mkF m pc' Ls (.ref b :: st)))) : Go p e below Q (T.setTop (mkF m pc Ls (.ref a :: st))) := by
  subst hp
  have hs0 := X.sz
  obtain ⟨locs, Y, N, zs, eT⟩ := X
  obtain ⟨cl, B, e1, e2, e3⟩ := A
  have FC : FitC Z cl := fitC_of B fun i hi v hv => e3 v (by rw [e1] at hv; simp at hv; exact List.mem_of_getElem? hv)
  obtain ⟨T', h', X', e', ex, A', E', stp⟩ := cloneA Y C.1 C.hZ C.ow w1 w2 w3 w4 w5 w6 eT B E FC (g := mkF m pc Ls (.ref a :: st)) rfl (hsz.trans C.ml.symm) rfl (C.cd hd) hf (W := (st.map fun v => v.category).sum) (cap := cap) (by show 2 * 0 + _ ≤ _; omega) hl (by rw [e1]; simpa using hcap) hc hsl
  exact Go.back stp (hr T' h' _ rfl hs0 ex ⟨_, A', e1, e2, e3⟩ E' ⟨_, X', N, zs, e'⟩)

theorem Laid.of {cn O fn d : String} (w : (Jvm.Cond.lays cn O fn d).before a0 Z = true) : Laid Z a0 cn O fn d := Or.inl w
theorem Laid.ofF {cn O fn d : String} (w : (Jvm.Cond.laysFinal cn O fn d).before a0 Z = true) : Laid Z a0 cn O fn d := Or.inr w
end Steps1
/-! numbers -/
theorem i_add {a b : Int32} {x y : Int} (ha : a.toInt = x) (hb : b.toInt = y) (h1 : -2147483648 ≤ x + y) (h2 : x + y < 2147483648) : (a + b).toInt = x + y := by have := c_iadd a b; have := rng32 (a + b); omega
theorem i_sub {a b : Int32} {x y : Int} (ha : a.toInt = x) (hb : b.toInt = y) (h1 : -2147483648 ≤ x - y) (h2 : x - y < 2147483648) : (a - b).toInt = x - y := by have := c_isub a b; have := rng32 (a - b); omega
theorem i_mul {a b : Int32} {x y : Int} (ha : a.toInt = x) (hb : b.toInt = y) (h1 : -2147483648 ≤ x * y) (h2 : x * y < 2147483648) : (a * b).toInt = x * y := by have := c_imul a b; have := rng32 (a * b); rw [ha, hb] at *; generalize x * y = z at *; omega
theorem l_add {a b : Int64} {x y : Int} (ha : a.toInt = x) (hb : b.toInt = y) (h1 : -9223372036854775808 ≤ x + y) (h2 : x + y < 9223372036854775808) : (a + b).toInt = x + y := by have := c_ladd a b; have := rng64 (a + b); omega
theorem l_sub {a b : Int64} {x y : Int} (ha : a.toInt = x) (hb : b.toInt = y) (h1 : -9223372036854775808 ≤ x - y) (h2 : x - y < 9223372036854775808) : (a - b).toInt = x - y := by have := c_lsub a b; have := rng64 (a - b); omega
theorem l_mul {a b : Int64} {x y : Int} (ha : a.toInt = x) (hb : b.toInt = y) (h1 : -9223372036854775808 ≤ x * y) (h2 : x * y < 9223372036854775808) : (a * b).toInt = x * y := by have := c_lmul a b; have := rng64 (a * b); rw [ha, hb] at *; generalize x * y = z at *; omega
theorem i_div {a b : Int32} {x y : Int} (ha : a.toInt = x) (hb : b.toInt = y) (h1 : 0 ≤ x) (h2 : 0 < y) : (a / b).toInt = x / y := by
  have := (c_idiv a b y hb (fun q => by subst q; have : (-1 : Int32).toInt = -1 := rfl; omega)).1 (by omega); rw [this, ha]
theorem l_div {a b : Int64} {x y : Int} (ha : a.toInt = x) (hb : b.toInt = y) (h1 : 0 ≤ x) (h2 : 0 < y) : (a / b).toInt = x / y := by
  have := (c_ldiv a b y hb (fun q => by subst q; have : (-1 : Int64).toInt = -1 := rfl; omega)).1 (by omega); rw [this, ha]
theorem i_rem {a b : Int32} {x y : Int} (ha : a.toInt = x) (hb : b.toInt = y) (h1 : 0 ≤ x) : (a % b).toInt = x % y := by
  have := (c_irem a b y hb).1 (by omega); rw [this, ha]
theorem l_rem {a b : Int64} {x y : Int} (ha : a.toInt = x) (hb : b.toInt = y) (h1 : 0 ≤ x) : (a % b).toInt = x % y := by
  rw [← lrem_mod]; have := (c_lrem a b y hb).1 (by omega); rw [this, ha]
/-- arrays of ints and longs as lists -/
def ia (xs : List Int32) : List Value := xs.map Value.int
def ja (xs : List Int64) : List Value := xs.map Value.long
def at32 (xs : List Int32) (i : Int32) : Int32 := xs.getD i.toNatClampNeg 0
def at64 (xs : List Int64) (i : Int32) : Int64 := xs.getD i.toNatClampNeg 0
def put32 (xs : List Int32) (i y : Int32) : List Int32 := xs.set i.toNatClampNeg y
def put64 (xs : List Int64) (i : Int32) (y : Int64) : List Int64 := xs.set i.toNatClampNeg y
theorem clamp_lt {i : Int32} {n : Nat} (h0 : 0 ≤ i.toInt) (h1 : i.toInt < n) : i.toNatClampNeg < n := by
  have := clamp_eq h0
  omega
theorem ia_at {xs : List Int32} {i : Int32} (h0 : 0 ≤ i.toInt) (h1 : i.toInt < xs.length) : (ia xs)[i.toNatClampNeg]? = some (.int (at32 xs i)) := by
  have := clamp_lt h0 h1; simp [ia, at32, this]
theorem ja_at {xs : List Int64} {i : Int32} (h0 : 0 ≤ i.toInt) (h1 : i.toInt < xs.length) : (ja xs)[i.toNatClampNeg]? = some (.long (at64 xs i)) := by
  have := clamp_lt h0 h1; simp [ja, at64, this]
theorem ia_put (xs : List Int32) (i y : Int32) : (ia xs).set i.toNatClampNeg (.int y) = ia (put32 xs i y) := by simp [ia, put32, List.map_set]
theorem ja_put (xs : List Int64) (i : Int32) (y : Int64) : (ja xs).set i.toNatClampNeg (.long y) = ja (put64 xs i y) := by simp [ja, put64, List.map_set]
theorem ia_len (xs : List Int32) : (ia xs).length = xs.length := by simp [ia]
theorem ja_len (xs : List Int64) : (ja xs).length = xs.length := by simp [ja]
theorem put32_len (xs : List Int32) (i y : Int32) : (put32 xs i y).length = xs.length := by simp [put32]
theorem put64_len (xs : List Int64) (i : Int32) (y : Int64) : (put64 xs i y).length = xs.length := by simp [put64]
theorem La.of {Z : State} {h : Heap} {a : Addr} {ty : FieldType} {c : Cell} (A : Arr Z h a c ty) (vs : List Value) (hl : c.slots.size = vs.length) (h31 : vs.length < 2 ^ 31) (H : ∀ i, i < vs.length → c.slots[i]? = vs[i]?) (G : ∀ v ∈ vs, fits ty v = true) : La Z h a ty vs := by
  refine ⟨c, A, Array.ext_getElem? fun i => ?_, h31, G⟩
  by_cases q : i < vs.length
  · rw [H i q]; simp
  · rw [Array.getElem?_eq_none (by omega)]; simp; omega
theorem eqv_r {Z : State} {args : Array Value} {X F : Term} {idx : List Nat} {y : Addr} (hF : F.eval args Z none idx Z = some (.ref y)) (h : (Jvm.Cond.eq X F).value args Z none Z idx = some true) : X.eval args Z none idx Z = some (.ref y) := by
  simp only [Jvm.Cond.value, hF] at h
  cases hx : X.eval args Z none idx Z with
  | none => simp [hx] at h
  | some v => cases v <;> simp [hx] at h ⊢; exact h
theorem i_eq {a b : Int32} (h : a.toInt = b.toInt) : a = b := Int32.toInt_inj.mp h
theorem l_eq {a b : Int64} (h : a.toInt = b.toInt) : a = b := Int64.toInt_inj.mp h
theorem i_ne {a b : Int32} (h : ¬ a = b) : ¬ a.toInt = b.toInt := fun q => h (i_eq q)
theorem l_ne {a b : Int64} (h : ¬ a = b) : ¬ a.toInt = b.toInt := fun q => h (l_eq q)

def own_seek (nx : List Int32) (r : Int32) : Nat → Int32 → Int32 → Option (Int32 × Int32)
  | 0, _, _ => none
  | f + 1, pv, a => if a.toInt < 0 then some (pv, a) else if r.toInt ≤ a.toInt then some (pv, a) else own_seek nx r f a (at32 nx a)
def own_addF (fi nx : List Int32) (nd r : Int32) : Option (List Int32 × List Int32) :=
  match own_seek nx r 5 (-1) (at32 fi nd) with
  | none => none
  | some (pv, a) => if pv.toInt < 0 then some (put32 fi nd r, put32 nx r a) else if pv.toInt < nx.length then some (fi, put32 (put32 nx r a) pv r) else none
theorem d4_0 : decode jdk_65_method_103_code 0 = .ok (.iconst 0, 1) := by decide +kernel
theorem d4_1 : decode jdk_65_method_103_code 1 = .ok (.istore_n 2, 1) := by decide +kernel
theorem d4_2 : decode jdk_65_method_103_code 2 = .ok (.aload_n 0, 1) := by decide +kernel
theorem d4_3 : decode jdk_65_method_103_code 3 = .ok (.arraylength, 1) := by decide +kernel
theorem d4_4 : decode jdk_65_method_103_code 4 = .ok (.istore_n 3, 1) := by decide +kernel
theorem d4_5 : decode jdk_65_method_103_code 5 = .ok (.iload_n 2, 1) := by decide +kernel
theorem d4_6 : decode jdk_65_method_103_code 6 = .ok (.iload_n 3, 1) := by decide +kernel
theorem d4_7 : decode jdk_65_method_103_code 7 = .ok (.if_icmp .ge 13, 3) := by decide +kernel
theorem d4_10 : decode jdk_65_method_103_code 10 = .ok (.aload_n 0, 1) := by decide +kernel
theorem d4_11 : decode jdk_65_method_103_code 11 = .ok (.iload_n 2, 1) := by decide +kernel
theorem d4_12 : decode jdk_65_method_103_code 12 = .ok (.iload_n 1, 1) := by decide +kernel
theorem d4_13 : decode jdk_65_method_103_code 13 = .ok (.iastore, 1) := by decide +kernel
theorem d4_14 : decode jdk_65_method_103_code 14 = .ok (.iinc 2 1, 3) := by decide +kernel
theorem d4_17 : decode jdk_65_method_103_code 17 = .ok (.goto (-12), 3) := by decide +kernel
theorem d4_20 : decode jdk_65_method_103_code 20 = .ok (.return_, 1) := by decide +kernel
theorem pn_java_util_Arrays : plainName "java/util/Arrays" = true := by first | (simp [plainName, overriddenIn]; done) | decide +kernel
theorem ef_own_fill (m : MethodId) (b : Addr) (z : Int32) : entryFrame m #[(.ref b), (.int z)] 4 = mkF m 0 #[rv b, iv z, un, un] [] := by first | (simp [entryFrame, mkF, argsToLocals, Value.category]; done) | rfl
set_option maxRecDepth 65536 in
set_option maxHeartbeats 40000000 in
theorem own_fill (l : Launch) (Z : State) (a0 : Array Value) (hw : ∀ d ∈ tables_1, d.before a0 Z = true) (b : Addr) (z : Int32) (x0 x1 : Int32) (h : Heap) (n0 : Nat) (hn0 : Old Z n0 h) (A1 : La Z h b .int [.int x0, .int x1]) (gb : n0 ≤ b) :
    Con l Z (⟨"java/util/Arrays", "fill", "([II)V"⟩ : MethodName) jdk_65_method_103_code 4 none ({ frames := 0, cells := 0, slots := 0, locals := 0 } : Room) #[(.ref b), (.int z)] h n0 (fun v h' => v = none ∧ Keep h h' [b] ∧ La Z h' b .int [.int z, .int z]) := by
  refine con_of hw (plainFor_of_name pn_java_util_Arrays) hn0 ?_
  intro p e s m below meth c T0 C X0
  refine Go.cast (congrArg T0.setTop (ef_own_fill m b z)) ?_
  refine go_iconst C X0 1 rfl d4_0 (z := 0) rfl ?_
  refine go_istoreN C X0 2 rfl d4_1 #[rv b, iv z, iv (0 : Int32), un] rfl ?_
  refine go_aloadN C X0 3 rfl d4_2 rfl rfl ?_
  refine go_alen C X0 A1 (z := (2 : Int32)) rfl (pc' := 4) rfl d4_3 ?_
  refine go_istoreN C X0 5 rfl d4_4 #[rv b, iv z, iv (0 : Int32), iv (2 : Int32)] rfl ?_
  refine go_iloadN C X0 6 rfl d4_5 rfl ?_
  refine go_iloadN C X0 7 rfl d4_6 rfl ?_
  refine go_icmp_ge C X0 d4_7 (pc' := 10) (pc2 := 20) rfl (by decide) (by decide) (fun (c7 : 2 ≤ 0) => False.elim (by first | omega | exact absurd c7 (by decide))) (fun (c7 : 0 < 2) => ?_)
  refine go_aloadN C X0 11 rfl d4_10 rfl rfl ?_
  refine go_iloadN C X0 12 rfl d4_11 rfl ?_
  refine go_iloadN C X0 13 rfl d4_12 rfl ?_
  refine go_iastore C X0 A1 (by decide) (by show _ < (2 : Int); decide) gb (pc' := 14) rfl d4_13 (fun T1 h3 W4 A5 X2 => ?_)
  have K6 := (Keep.refl h [b]).wr W4 (Or.inl (List.mem_of_getElem? (i := 0) rfl))
  replace A5 : La Z h3 b .int ([(.int z), (.int x1)]) := A5
  refine go_iinc C X2 17 rfl d4_14 rfl (z := 1) rfl #[rv b, iv z, iv (1 : Int32), iv (2 : Int32)] rfl ?_
  refine go_goto C X2 d4_17 (pc' := 5) (by decide) (by decide) ?_
  refine go_iloadN C X2 6 rfl d4_5 rfl ?_
  refine go_iloadN C X2 7 rfl d4_6 rfl ?_
  refine go_icmp_ge C X2 d4_7 (pc' := 10) (pc2 := 20) rfl (by decide) (by decide) (fun (c7 : 2 ≤ 1) => False.elim (by first | omega | exact absurd c7 (by decide))) (fun (c7 : 1 < 2) => ?_)
  refine go_aloadN C X2 11 rfl d4_10 rfl rfl ?_
  refine go_iloadN C X2 12 rfl d4_11 rfl ?_
  refine go_iloadN C X2 13 rfl d4_12 rfl ?_
  refine go_iastore C X2 A5 (by decide) (by show _ < (2 : Int); decide) gb (pc' := 14) rfl d4_13 (fun T7 h9 W10 A11 X8 => ?_)
  have K12 := K6.wr W10 (Or.inl (List.mem_of_getElem? (i := 0) rfl))
  replace A11 : La Z h9 b .int ([(.int z), (.int z)]) := A11
  refine go_iinc C X8 17 rfl d4_14 rfl (z := 1) rfl #[rv b, iv z, iv (2 : Int32), iv (2 : Int32)] rfl ?_
  refine go_goto C X8 d4_17 (pc' := 5) (by decide) (by decide) ?_
  refine go_iloadN C X8 6 rfl d4_5 rfl ?_
  refine go_iloadN C X8 7 rfl d4_6 rfl ?_
  refine go_icmp_ge C X8 d4_7 (pc' := 10) (pc2 := 20) rfl (by decide) (by decide) (fun (c7 : 2 ≤ 2) => ?_) (fun (c7 : 2 < 2) => False.elim (by first | omega | exact absurd c7 (by decide)))
  exact go_ret0 C X8 d4_20 ⟨rfl, K12, A11⟩ (by decide) (by decide)
theorem d2_0 : decode prog_68_method_1_code 0 = .ok (.aload_n 0, 1) := by decide +kernel
theorem d2_1 : decode prog_68_method_1_code 1 = .ok (.invokespecial 1, 3) := by decide +kernel
theorem d2_4 : decode prog_68_method_1_code 4 = .ok (.aload_n 0, 1) := by decide +kernel
theorem d2_5 : decode prog_68_method_1_code 5 = .ok (.iload_n 1, 1) := by decide +kernel
theorem d2_6 : decode prog_68_method_1_code 6 = .ok (.newarray .int, 2) := by decide +kernel
theorem d2_8 : decode prog_68_method_1_code 8 = .ok (.putfield 7, 3) := by decide +kernel
theorem d2_11 : decode prog_68_method_1_code 11 = .ok (.aload_n 0, 1) := by decide +kernel
theorem d2_12 : decode prog_68_method_1_code 12 = .ok (.iload_n 2, 1) := by decide +kernel
theorem d2_13 : decode prog_68_method_1_code 13 = .ok (.newarray .int, 2) := by decide +kernel
theorem d2_15 : decode prog_68_method_1_code 15 = .ok (.putfield 13, 3) := by decide +kernel
theorem d2_18 : decode prog_68_method_1_code 18 = .ok (.aload_n 0, 1) := by decide +kernel
theorem d2_19 : decode prog_68_method_1_code 19 = .ok (.getfield 7, 3) := by decide +kernel
theorem d2_22 : decode prog_68_method_1_code 22 = .ok (.iconst (-1), 1) := by decide +kernel
theorem pd_0 : parseMethodDescriptor "([II)V" = some ⟨[(.array .int), .int], none⟩ := by decide +kernel
theorem d2_23 : decode prog_68_method_1_code 23 = .ok (.invokestatic 16, 3) := by decide +kernel
theorem d2_26 : decode prog_68_method_1_code 26 = .ok (.return_, 1) := by decide +kernel
theorem pn_com_example_waymarshal_waymarshal_replay_VacantVehicles : plainName "com/example/waymarshal/waymarshal/replay/VacantVehicles" = true := by first | (simp [plainName, overriddenIn]; done) | decide +kernel
theorem ef_own_init (m : MethodId) (a : Addr) : entryFrame m #[(.ref a), (.int (2 : Int32)), (.int (4 : Int32))] 3 = mkF m 0 #[rv a, iv (2 : Int32), iv (4 : Int32)] [] := by first | (simp [entryFrame, mkF, argsToLocals, Value.category]; done) | rfl
set_option maxRecDepth 65536 in
set_option maxHeartbeats 40000000 in
theorem own_init (l : Launch) (Z : State) (a0 : Array Value) (hw : ∀ d ∈ tables_1, d.before a0 Z = true) (a : Addr)  (h : Heap) (n0 : Nat) (hn0 : Old Z n0 h) (E0 : Exa Z h a "com/example/waymarshal/waymarshal/replay/VacantVehicles") (F1 : Fld Z h a "com/example/waymarshal/waymarshal/replay/VacantVehicles" "first" "[I" .null) (F2 : Fld Z h a "com/example/waymarshal/waymarshal/replay/VacantVehicles" "next" "[I" .null) (ga : n0 ≤ a) :
    Con l Z (⟨"com/example/waymarshal/waymarshal/replay/VacantVehicles", "<init>", "(II)V"⟩ : MethodName) prog_68_method_1_code 3 none ({ frames := 1, cells := 2, slots := 6, locals := 15 } : Room) #[(.ref a), (.int (2 : Int32)), (.int (4 : Int32))] h n0 (fun v h' => v = none ∧ ∃ f n : Addr, Keep h h' [a] ∧ Exa Z h' a "com/example/waymarshal/waymarshal/replay/VacantVehicles" ∧ Fld Z h' a "com/example/waymarshal/waymarshal/replay/VacantVehicles" "first" "[I" (.ref f) ∧ Fld Z h' a "com/example/waymarshal/waymarshal/replay/VacantVehicles" "next" "[I" (.ref n) ∧ La Z h' f .int (ia [-1, -1]) ∧ La Z h' n .int (ia [0, 0, 0, 0]) ∧ h.size ≤ f ∧ h.size ≤ n ∧ f ≠ n) := by
  refine con_of hw (plainFor_of_name pn_com_example_waymarshal_waymarshal_replay_VacantVehicles) hn0 ?_
  intro p e s m below meth c T0 C X0
  refine Go.cast (congrArg T0.setTop (ef_own_init m a)) ?_
  refine go_aloadN C X0 1 rfl d2_0 rfl rfl ?_
  refine go_initO C X0 (C.w 12 rfl) (C.w 13 rfl) (C.w 14 rfl) (by decide) (Nat.le_of_ble_eq_true rfl) rfl (pc' := 4) rfl d2_1 (fun T1 X2 => ?_)
  refine go_aloadN C X2 5 rfl d2_4 rfl rfl ?_
  refine go_iloadN C X2 6 rfl d2_5 rfl ?_
  refine go_newarr C X2 (C.w 1 rfl) (cap := 2) (by decide) (by decide) (by decide) (by decide) (by decide) (pc' := 8) rfl d2_6 (fun T3 h5 f ha_f ga_f E6 A7  X4 => ?_)
  have ne_a_f : a ≠ f := Nat.ne_of_lt (Nat.lt_of_lt_of_le E0.lt (Nat.le_of_eq ha_f.symm))
  have sz_f : h.size ≤ f := Nat.le_trans (Keep.refl h [a]).1 (Nat.le_of_eq ha_f.symm)
  have E8 := E0.ext E6
  have F9 := F1.ext E6
  have F10 := F2.ext E6
  have K11 := (Keep.refl h [a]).ext E6
  replace A7 : La Z h5 f .int ([(.int (0 : Int32)), (.int (0 : Int32))]) := A7
  refine go_putF C X4 (C.w 15 rfl) Via.refl F9 E8 (Or.inr ⟨C.w 16 rfl, rfl, C.nmE⟩) (C.w 7 rfl) ga (ty := (.array .int)) (by decide) rfl rfl (pc' := 11) rfl d2_8 (fun T12 h14 W15 X13 => ?_)
  have F16 := F9.same W15
  have E17 := E8.wr W15
  have F18 := F10.other W15 (Or.inr (slot_ne (Or.inr (C.w 18 rfl)) (Or.inr (C.w 16 rfl)) (by decide) (t := (.array .int)) (t' := (.array .int)) (by decide) (by decide)))
  have A19 := A7.other W15 (Ne.symm ne_a_f)
  have K20 := K11.wr W15 (Or.inl (List.mem_of_getElem? (i := 0) rfl))
  refine go_aloadN C X13 12 rfl d2_11 rfl rfl ?_
  refine go_iloadN C X13 13 rfl d2_12 rfl ?_
  refine go_newarr C X13 (C.w 1 rfl) (cap := 4) (by decide) (by decide) (by decide) (by decide) (by decide) (pc' := 15) rfl d2_13 (fun T21 h23 n ha_n ga_n E24 A25  X22 => ?_)
  have ne_a_n : a ≠ n := Nat.ne_of_lt (Nat.lt_of_lt_of_le E17.lt (Nat.le_of_eq ha_n.symm))
  have ne_f_n : f ≠ n := Nat.ne_of_lt (Nat.lt_of_lt_of_le A19.lt (Nat.le_of_eq ha_n.symm))
  have sz_n : h.size ≤ n := Nat.le_trans K20.1 (Nat.le_of_eq ha_n.symm)
  have E26 := E17.ext E24
  have F27 := F16.ext E24
  have F28 := F18.ext E24
  have A29 := A19.ext E24
  have K30 := K20.ext E24
  replace A25 : La Z h23 n .int ([(.int (0 : Int32)), (.int (0 : Int32)), (.int (0 : Int32)), (.int (0 : Int32))]) := A25
  refine go_putF C X22 (C.w 17 rfl) Via.refl F28 E26 (Or.inr ⟨C.w 18 rfl, rfl, C.nmE⟩) (C.w 7 rfl) ga (ty := (.array .int)) (by decide) rfl rfl (pc' := 18) rfl d2_15 (fun T31 h33 W34 X32 => ?_)
  have F35 := F28.same W34
  have E36 := E26.wr W34
  have F37 := F27.other W34 (Or.inr (slot_ne (Or.inr (C.w 16 rfl)) (Or.inr (C.w 18 rfl)) (by decide) (t := (.array .int)) (t' := (.array .int)) (by decide) (by decide)))
  have A38 := A29.other W34 (Ne.symm ne_a_f)
  have A39 := A25.other W34 (Ne.symm ne_a_n)
  have K40 := K30.wr W34 (Or.inl (List.mem_of_getElem? (i := 0) rfl))
  refine go_aloadN C X32 19 rfl d2_18 rfl rfl ?_
  refine go_getF C X32 (C.w 15 rfl) Via.refl F37 (pc' := 22) rfl d2_19 (fun T41 X42 => ?_)
  refine go_iconst C X42 23 rfl d2_22 (z := (-1)) rfl ?_
  refine go_callS C X42 (C.w 19 rfl) (C.w 20 rfl) (C.w 21 rfl) (C.w 22 rfl) (own_fill l Z a0 C.ws f (-1 : Int32) 0 0 h33 n0 X42.old A38 ga_f) (argsL := [(.ref f), (.int (-1 : Int32))]) (rest := []) (lenOf pd_0 rfl) rfl (by decide) (by decide) (Nat.le_of_ble_eq_true rfl) (by decide) (by decide) rfl rfl (pc' := 26) rfl d2_23 ?_
  rintro T43 h45 _ ⟨rfl, K9, A9⟩ X44
  show Go p e below _ (T43.setTop (mkF m 26 #[rv a, iv (2 : Int32), iv (4 : Int32)] []))
  have E46 := E36.keep K9
  have F47 := F37.keep K9 (ninS ne_a_f nin0)
  have F48 := F35.keep K9 (ninS ne_a_f nin0)
  have A49 := A39.keep K9 (ninS (Ne.symm ne_f_n) nin0)
  have K50 := K40.trans K9 (allS (Or.inr sz_f) all0)
  exact go_ret0 C X44 d2_26 ⟨rfl, f, n, K50, E46, F47, F48, A9, A49, sz_f, sz_n, ne_f_n⟩ (by decide) (by decide)
theorem d6_0 : decode prog_68_method_2_code 0 = .ok (.iconst (-1), 1) := by decide +kernel
theorem d6_1 : decode prog_68_method_2_code 1 = .ok (.istore_n 3, 1) := by decide +kernel
theorem d6_2 : decode prog_68_method_2_code 2 = .ok (.aload_n 0, 1) := by decide +kernel
theorem d6_3 : decode prog_68_method_2_code 3 = .ok (.getfield 7, 3) := by decide +kernel
theorem d6_6 : decode prog_68_method_2_code 6 = .ok (.iload_n 1, 1) := by decide +kernel
theorem d6_7 : decode prog_68_method_2_code 7 = .ok (.iaload, 1) := by decide +kernel
theorem d6_8 : decode prog_68_method_2_code 8 = .ok (.istore 4, 2) := by decide +kernel
theorem d6_36 : decode prog_68_method_2_code 36 = .ok (.aload_n 0, 1) := by decide +kernel
theorem d6_37 : decode prog_68_method_2_code 37 = .ok (.getfield 13, 3) := by decide +kernel
theorem d6_40 : decode prog_68_method_2_code 40 = .ok (.iload_n 2, 1) := by decide +kernel
theorem d6_41 : decode prog_68_method_2_code 41 = .ok (.iload 4, 2) := by decide +kernel
theorem d6_43 : decode prog_68_method_2_code 43 = .ok (.iastore, 1) := by decide +kernel
theorem d6_44 : decode prog_68_method_2_code 44 = .ok (.iload_n 3, 1) := by decide +kernel
theorem d6_45 : decode prog_68_method_2_code 45 = .ok (.ifCond .ge 13, 3) := by decide +kernel
theorem d6_58 : decode prog_68_method_2_code 58 = .ok (.aload_n 0, 1) := by decide +kernel
theorem d6_59 : decode prog_68_method_2_code 59 = .ok (.getfield 13, 3) := by decide +kernel
theorem d6_62 : decode prog_68_method_2_code 62 = .ok (.iload_n 3, 1) := by decide +kernel
theorem d6_63 : decode prog_68_method_2_code 63 = .ok (.iload_n 2, 1) := by decide +kernel
theorem d6_64 : decode prog_68_method_2_code 64 = .ok (.iastore, 1) := by decide +kernel
theorem d6_65 : decode prog_68_method_2_code 65 = .ok (.return_, 1) := by decide +kernel
theorem d6_48 : decode prog_68_method_2_code 48 = .ok (.aload_n 0, 1) := by decide +kernel
theorem d6_49 : decode prog_68_method_2_code 49 = .ok (.getfield 7, 3) := by decide +kernel
theorem d6_52 : decode prog_68_method_2_code 52 = .ok (.iload_n 1, 1) := by decide +kernel
theorem d6_53 : decode prog_68_method_2_code 53 = .ok (.iload_n 2, 1) := by decide +kernel
theorem d6_54 : decode prog_68_method_2_code 54 = .ok (.iastore, 1) := by decide +kernel
theorem d6_55 : decode prog_68_method_2_code 55 = .ok (.goto 10, 3) := by decide +kernel
theorem d6_10 : decode prog_68_method_2_code 10 = .ok (.iload 4, 2) := by decide +kernel
theorem d6_12 : decode prog_68_method_2_code 12 = .ok (.ifCond .lt 24, 3) := by decide +kernel
theorem d6_15 : decode prog_68_method_2_code 15 = .ok (.iload 4, 2) := by decide +kernel
theorem d6_17 : decode prog_68_method_2_code 17 = .ok (.iload_n 2, 1) := by decide +kernel
theorem d6_18 : decode prog_68_method_2_code 18 = .ok (.if_icmp .ge 18, 3) := by decide +kernel
theorem d6_21 : decode prog_68_method_2_code 21 = .ok (.iload 4, 2) := by decide +kernel
theorem d6_23 : decode prog_68_method_2_code 23 = .ok (.istore_n 3, 1) := by decide +kernel
theorem d6_24 : decode prog_68_method_2_code 24 = .ok (.aload_n 0, 1) := by decide +kernel
theorem d6_25 : decode prog_68_method_2_code 25 = .ok (.getfield 13, 3) := by decide +kernel
theorem d6_28 : decode prog_68_method_2_code 28 = .ok (.iload 4, 2) := by decide +kernel
theorem d6_30 : decode prog_68_method_2_code 30 = .ok (.iaload, 1) := by decide +kernel
theorem d6_31 : decode prog_68_method_2_code 31 = .ok (.istore 4, 2) := by decide +kernel
theorem d6_33 : decode prog_68_method_2_code 33 = .ok (.goto (-23), 3) := by decide +kernel
theorem ef_own_add (m : MethodId) (a : Addr) (nd : Int32) (r : Int32) : entryFrame m #[(.ref a), (.int nd), (.int r)] 5 = mkF m 0 #[rv a, iv nd, iv r, un, un] [] := by first | (simp [entryFrame, mkF, argsToLocals, Value.category]; done) | rfl
set_option maxRecDepth 65536 in
set_option maxHeartbeats 40000000 in
theorem own_add (l : Launch) (Z : State) (a0 : Array Value) (hw : ∀ d ∈ tables_1, d.before a0 Z = true) (a : Addr) (nd : Int32) (r : Int32) (f n : Addr) (fi nx fi' nx' : List Int32) (h : Heap) (n0 : Nat) (hn0 : Old Z n0 h) (F1 : Fld Z h a "com/example/waymarshal/waymarshal/replay/VacantVehicles" "first" "[I" (.ref f)) (F2 : Fld Z h a "com/example/waymarshal/waymarshal/replay/VacantVehicles" "next" "[I" (.ref n)) (A1 : La Z h f .int (ia fi)) (A2 : La Z h n .int (ia nx)) (nfn : f ≠ n) (naf : a ≠ f) (nan : a ≠ n) (gf : n0 ≤ f) (gn : n0 ≤ n) (nd0 : 0 ≤ nd.toInt) (nd1 : nd.toInt < fi.length) (r0 : 0 ≤ r.toInt) (r1 : r.toInt < nx.length) (H : own_addF fi nx nd r = some (fi', nx')) :
    Con l Z (⟨"com/example/waymarshal/waymarshal/replay/VacantVehicles", "add", "(II)V"⟩ : MethodName) prog_68_method_2_code 5 none ({ frames := 0, cells := 0, slots := 0, locals := 0 } : Room) #[(.ref a), (.int nd), (.int r)] h n0 (fun v h' => v = none ∧ Keep h h' [f, n] ∧ La Z h' f .int (ia fi') ∧ La Z h' n .int (ia nx')) := by
  refine con_of hw (plainFor_of_name pn_com_example_waymarshal_waymarshal_replay_VacantVehicles) hn0 ?_
  intro p e s m below meth c T0 C X0
  refine Go.cast (congrArg T0.setTop (ef_own_add m a nd r)) ?_
  refine go_iconst C X0 1 rfl d6_0 (z := (-1)) rfl ?_
  refine go_istoreN C X0 2 rfl d6_1 #[rv a, iv nd, iv r, iv (-1 : Int32), un] rfl ?_
  refine go_aloadN C X0 3 rfl d6_2 rfl rfl ?_
  refine go_getF C X0 (C.w 15 rfl) Via.refl F1 (pc' := 6) rfl d6_3 (fun T1 X2 => ?_)
  refine go_iloadN C X2 7 rfl d6_6 rfl ?_
  refine go_iaload C X2 A1 nd0 (v := (.int (at32 fi nd))) (ia_at nd0 nd1) (pc' := 8) rfl d6_7 ?_
  refine go_istore C X2 10 rfl d6_8 #[rv a, iv nd, iv r, iv (-1 : Int32), iv (at32 fi nd)] rfl ?_
  unfold own_addF at H
  split at H
  · cases H
  rename_i pv' at' e5
  have EX : ∀ (T1 : State) (X1 : St Z p l e ({ frames := 0, cells := 0, slots := 0, locals := 0 } : Room) s m #[(.ref a), (.int nd), (.int r)] below meth c n0 T1 h (0) (0)), Go p e below (FinQ s ({ frames := 0, cells := 0, slots := 0, locals := 0 } : Room).cells ({ frames := 0, cells := 0, slots := 0, locals := 0 } : Room).slots n0 (fun v h' => v = none ∧ Keep h h' [f, n] ∧ La Z h' f .int (ia fi') ∧ La Z h' n .int (ia nx'))) (T1.setTop (mkF m 36 #[rv a, iv nd, iv r, iv pv', iv at'] [])) := by
    intro T1 X1
    refine go_aloadN C X1 37 rfl d6_36 rfl rfl ?_
    refine go_getF C X1 (C.w 17 rfl) Via.refl F2 (pc' := 40) rfl d6_37 (fun T3 X4 => ?_)
    refine go_iloadN C X4 41 rfl d6_40 rfl ?_
    refine go_iload C X4 43 rfl d6_41 rfl ?_
    refine go_iastore C X4 A2 r0 (by rw [ia_len]; exact r1) gn (pc' := 44) rfl d6_43 (fun T5 h7 W8 A9 X6 => ?_)
    have F10 := F1.other W8 (Or.inl nan)
    have F11 := F2.other W8 (Or.inl nan)
    have A12 := A1.other W8 nfn
    have K13 := (Keep.refl h [f, n]).wr W8 (Or.inl (List.mem_of_getElem? (i := 1) rfl))
    rw [ia_put] at A9
    refine go_iloadN C X6 45 rfl d6_44 rfl ?_
    refine go_if_ge C X6 d6_45 (pc' := 48) (pc2 := 58) rfl (by decide) (by decide) (fun (c45 : 0 ≤ pv'.toInt) => ?_) (fun (c45 : pv'.toInt < 0) => ?_)
    · rw [if_neg (by omega)] at H
      split at H
      case isFalse => cases H
      rename_i q9
      obtain ⟨e7, e8⟩ := Prod.mk.inj (Option.some.inj H)
      refine go_aloadN C X6 59 rfl d6_58 rfl rfl ?_
      refine go_getF C X6 (C.w 17 rfl) Via.refl F11 (pc' := 62) rfl d6_59 (fun T14 X15 => ?_)
      refine go_iloadN C X15 63 rfl d6_62 rfl ?_
      refine go_iloadN C X15 64 rfl d6_63 rfl ?_
      refine go_iastore C X15 A9 c45 (by rw [ia_len, put32_len]; exact q9) gn (pc' := 65) rfl d6_64 (fun T16 h18 W19 A20 X17 => ?_)
      have F21 := F10.other W19 (Or.inl nan)
      have F22 := F11.other W19 (Or.inl nan)
      have A23 := A12.other W19 nfn
      have K24 := K13.wr W19 (Or.inl (List.mem_of_getElem? (i := 1) rfl))
      rw [ia_put] at A20
      exact go_ret0 C X17 d6_65 (by subst e7; subst e8; exact ⟨rfl, K24, A23, A20⟩) (by decide) (by decide)
    · rw [if_pos c45] at H
      obtain ⟨e7, e8⟩ := Prod.mk.inj (Option.some.inj H)
      refine go_aloadN C X6 49 rfl d6_48 rfl rfl ?_
      refine go_getF C X6 (C.w 15 rfl) Via.refl F10 (pc' := 52) rfl d6_49 (fun T25 X26 => ?_)
      refine go_iloadN C X26 53 rfl d6_52 rfl ?_
      refine go_iloadN C X26 54 rfl d6_53 rfl ?_
      refine go_iastore C X26 A12 nd0 (by rw [ia_len]; exact nd1) gf (pc' := 55) rfl d6_54 (fun T27 h29 W30 A31 X28 => ?_)
      have F32 := F10.other W30 (Or.inl naf)
      have F33 := F11.other W30 (Or.inl naf)
      have A34 := A9.other W30 (Ne.symm nfn)
      have K35 := K13.wr W30 (Or.inl (List.mem_of_getElem? (i := 0) rfl))
      rw [ia_put] at A31
      refine go_goto C X28 d6_55 (pc' := 65) (by decide) (by decide) ?_
      exact go_ret0 C X28 d6_65 (by subst e7; subst e8; exact ⟨rfl, K35, A31, A34⟩) (by decide) (by decide)
  have LP : ∀ (fu : Nat) (T1 : State) (X1 : St Z p l e ({ frames := 0, cells := 0, slots := 0, locals := 0 } : Room) s m #[(.ref a), (.int nd), (.int r)] below meth c n0 T1 h (0) (0)) (pv at1 : Int32) (_ : own_seek nx r fu pv at1 = some (pv', at')), Go p e below (FinQ s ({ frames := 0, cells := 0, slots := 0, locals := 0 } : Room).cells ({ frames := 0, cells := 0, slots := 0, locals := 0 } : Room).slots n0 (fun v h' => v = none ∧ Keep h h' [f, n] ∧ La Z h' f .int (ia fi') ∧ La Z h' n .int (ia nx'))) (T1.setTop (mkF m 10 #[rv a, iv nd, iv r, iv pv, iv at1] [])) := by
    intro fu
    induction fu with
    | zero => intro T1 X1 pv at1 H1; cases H1
    | succ fu ih =>
      intro T1 X1 pv at1 H1
      rw [own_seek] at H1
      refine go_iload C X1 12 rfl d6_10 rfl ?_
      refine go_if_lt C X1 d6_12 (pc' := 15) (pc2 := 36) rfl (by decide) (by decide) (fun (c12 : at1.toInt < 0) => ?_) (fun (c12 : 0 ≤ at1.toInt) => ?_)
      · rw [if_pos c12] at H1
        cases H1
        exact EX _ X1
      · refine go_iload C X1 17 rfl d6_15 rfl ?_
        refine go_iloadN C X1 18 rfl d6_17 rfl ?_
        refine go_icmp_ge C X1 d6_18 (pc' := 21) (pc2 := 36) rfl (by decide) (by decide) (fun (c18 : r.toInt ≤ at1.toInt) => ?_) (fun (c18 : at1.toInt < r.toInt) => ?_)
        · rw [if_neg (by omega), if_pos c18] at H1
          cases H1
          exact EX _ X1
        · refine go_iload C X1 23 rfl d6_21 rfl ?_
          refine go_istoreN C X1 24 rfl d6_23 #[rv a, iv nd, iv r, iv at1, iv at1] rfl ?_
          refine go_aloadN C X1 25 rfl d6_24 rfl rfl ?_
          refine go_getF C X1 (C.w 17 rfl) Via.refl F2 (pc' := 28) rfl d6_25 (fun T36 X37 => ?_)
          refine go_iload C X37 30 rfl d6_28 rfl ?_
          refine go_iaload C X37 A2 c12 (v := (.int (at32 nx at1))) (ia_at c12 (by omega)) (pc' := 31) rfl d6_30 ?_
          refine go_istore C X37 33 rfl d6_31 #[rv a, iv nd, iv r, iv at1, iv (at32 nx at1)] rfl ?_
          refine go_goto C X37 d6_33 (pc' := 10) (by decide) (by decide) ?_
          rw [if_neg (by omega), if_neg (by omega)] at H1
          exact ih _ X37 _ _ H1
  exact LP 5 _ X2 _ _ e5
theorem d7_0 : decode prog_68_method_4_code 0 = .ok (.aload_n 0, 1) := by decide +kernel
theorem d7_1 : decode prog_68_method_4_code 1 = .ok (.getfield 7, 3) := by decide +kernel
theorem d7_4 : decode prog_68_method_4_code 4 = .ok (.iload_n 1, 1) := by decide +kernel
theorem d7_5 : decode prog_68_method_4_code 5 = .ok (.iaload, 1) := by decide +kernel
theorem d7_6 : decode prog_68_method_4_code 6 = .ok (.ireturn, 1) := by decide +kernel
theorem ef_own_first (m : MethodId) (a : Addr) (i : Int32) : entryFrame m #[(.ref a), (.int i)] 2 = mkF m 0 #[rv a, iv i] [] := by first | (simp [entryFrame, mkF, argsToLocals, Value.category]; done) | rfl
set_option maxRecDepth 65536 in
set_option maxHeartbeats 40000000 in
theorem own_first (l : Launch) (Z : State) (a0 : Array Value) (hw : ∀ d ∈ tables_1, d.before a0 Z = true) (a : Addr) (i : Int32) (b : Addr) (xs : List Int32) (h : Heap) (n0 : Nat) (hn0 : Old Z n0 h) (F1 : Fld Z h a "com/example/waymarshal/waymarshal/replay/VacantVehicles" "first" "[I" (.ref b)) (A1 : La Z h b .int (ia xs)) (q0 : 0 ≤ i.toInt) (q1 : i.toInt < xs.length) :
    Con l Z (⟨"com/example/waymarshal/waymarshal/replay/VacantVehicles", "first", "(I)I"⟩ : MethodName) prog_68_method_4_code 2 (some .int) ({ frames := 0, cells := 0, slots := 0, locals := 0 } : Room) #[(.ref a), (.int i)] h n0 (fun v h' => v = some (.int (at32 xs i)) ∧ h = h') := by
  refine con_of hw (plainFor_of_name pn_com_example_waymarshal_waymarshal_replay_VacantVehicles) hn0 ?_
  intro p e s m below meth c T0 C X0
  refine Go.cast (congrArg T0.setTop (ef_own_first m a i)) ?_
  refine go_aloadN C X0 1 rfl d7_0 rfl rfl ?_
  refine go_getF C X0 (C.w 15 rfl) Via.refl F1 (pc' := 4) rfl d7_1 (fun T1 X2 => ?_)
  refine go_iloadN C X2 5 rfl d7_4 rfl ?_
  refine go_iaload C X2 A1 q0 (v := (.int (at32 xs i))) (ia_at q0 q1) (pc' := 6) rfl d7_5 ?_
  exact go_retI C X2 d7_6 ⟨rfl, rfl⟩ (by decide) (by decide)
theorem d10_0 : decode prog_68_method_5_code 0 = .ok (.aload_n 0, 1) := by decide +kernel
theorem d10_1 : decode prog_68_method_5_code 1 = .ok (.getfield 13, 3) := by decide +kernel
theorem d10_4 : decode prog_68_method_5_code 4 = .ok (.iload_n 1, 1) := by decide +kernel
theorem d10_5 : decode prog_68_method_5_code 5 = .ok (.iaload, 1) := by decide +kernel
theorem d10_6 : decode prog_68_method_5_code 6 = .ok (.ireturn, 1) := by decide +kernel
theorem ef_own_next (m : MethodId) (a : Addr) (i : Int32) : entryFrame m #[(.ref a), (.int i)] 2 = mkF m 0 #[rv a, iv i] [] := by first | (simp [entryFrame, mkF, argsToLocals, Value.category]; done) | rfl
set_option maxRecDepth 65536 in
set_option maxHeartbeats 40000000 in
theorem own_next (l : Launch) (Z : State) (a0 : Array Value) (hw : ∀ d ∈ tables_1, d.before a0 Z = true) (a : Addr) (i : Int32) (b : Addr) (xs : List Int32) (h : Heap) (n0 : Nat) (hn0 : Old Z n0 h) (F1 : Fld Z h a "com/example/waymarshal/waymarshal/replay/VacantVehicles" "next" "[I" (.ref b)) (A1 : La Z h b .int (ia xs)) (q0 : 0 ≤ i.toInt) (q1 : i.toInt < xs.length) :
    Con l Z (⟨"com/example/waymarshal/waymarshal/replay/VacantVehicles", "next", "(I)I"⟩ : MethodName) prog_68_method_5_code 2 (some .int) ({ frames := 0, cells := 0, slots := 0, locals := 0 } : Room) #[(.ref a), (.int i)] h n0 (fun v h' => v = some (.int (at32 xs i)) ∧ h = h') := by
  refine con_of hw (plainFor_of_name pn_com_example_waymarshal_waymarshal_replay_VacantVehicles) hn0 ?_
  intro p e s m below meth c T0 C X0
  refine Go.cast (congrArg T0.setTop (ef_own_next m a i)) ?_
  refine go_aloadN C X0 1 rfl d10_0 rfl rfl ?_
  refine go_getF C X0 (C.w 17 rfl) Via.refl F1 (pc' := 4) rfl d10_1 (fun T1 X2 => ?_)
  refine go_iloadN C X2 5 rfl d10_4 rfl ?_
  refine go_iaload C X2 A1 q0 (v := (.int (at32 xs i))) (ia_at q0 q1) (pc' := 6) rfl d10_5 ?_
  exact go_retI C X2 d10_6 ⟨rfl, rfl⟩ (by decide) (by decide)
def own_swap (xs : List Int32) (i j : Int32) : List Int32 := put32 (put32 xs i (at32 xs j)) j (at32 xs i)
def own_addIf (st : List Int32 × List Int32) (as : List Int32) (r : Int32) : Option (List Int32 × List Int32) := if (at32 as r).toInt < 2 then own_addF st.1 st.2 (at32 as r) r else some st
def own_nextAt (as : List Int32) (nd fr : Int32) : Int32 := if fr.toInt ≤ 0 ∧ at32 as 0 = nd then 0 else if fr.toInt ≤ 1 ∧ at32 as 1 = nd then 1 else if fr.toInt ≤ 2 ∧ at32 as 2 = nd then 2 else if fr.toInt ≤ 3 ∧ at32 as 3 = nd then 3 else -1
def own_nextOk (nx as : List Int32) (r : Int32) : Int32 := if (at32 as r).toInt < 2 then (if at32 nx r = own_nextAt as (at32 as r) (r + 1) then 1 else 0) else 1
theorem d1_0 : decode method_2_code 0 = .ok (.aload_n 0, 1) := by decide +kernel
theorem d1_1 : decode method_2_code 1 = .ok (.iload_n 1, 1) := by decide +kernel
theorem d1_2 : decode method_2_code 2 = .ok (.iaload, 1) := by decide +kernel
theorem d1_3 : decode method_2_code 3 = .ok (.istore_n 3, 1) := by decide +kernel
theorem d1_4 : decode method_2_code 4 = .ok (.aload_n 0, 1) := by decide +kernel
theorem d1_5 : decode method_2_code 5 = .ok (.iload_n 1, 1) := by decide +kernel
theorem d1_6 : decode method_2_code 6 = .ok (.aload_n 0, 1) := by decide +kernel
theorem d1_7 : decode method_2_code 7 = .ok (.iload_n 2, 1) := by decide +kernel
theorem d1_8 : decode method_2_code 8 = .ok (.iaload, 1) := by decide +kernel
theorem d1_9 : decode method_2_code 9 = .ok (.iastore, 1) := by decide +kernel
theorem d1_10 : decode method_2_code 10 = .ok (.aload_n 0, 1) := by decide +kernel
theorem d1_11 : decode method_2_code 11 = .ok (.iload_n 2, 1) := by decide +kernel
theorem d1_12 : decode method_2_code 12 = .ok (.iload_n 3, 1) := by decide +kernel
theorem d1_13 : decode method_2_code 13 = .ok (.iastore, 1) := by decide +kernel
theorem d1_14 : decode method_2_code 14 = .ok (.return_, 1) := by decide +kernel
theorem pn_com_example_waymarshal_waymarshal_replay_VacantVehiclesAddPinLaw : plainName "com/example/waymarshal/waymarshal/replay/VacantVehiclesAddPinLaw" = true := by first | (simp [plainName, overriddenIn]; done) | decide +kernel
theorem ef_own_swapM (m : MethodId) (b : Addr) (i : Int32) (j : Int32) : entryFrame m #[(.ref b), (.int i), (.int j)] 4 = mkF m 0 #[rv b, iv i, iv j, un] [] := by first | (simp [entryFrame, mkF, argsToLocals, Value.category]; done) | rfl
set_option maxRecDepth 65536 in
set_option maxHeartbeats 40000000 in
theorem own_swapM (l : Launch) (Z : State) (a0 : Array Value) (hw : ∀ d ∈ tables_1, d.before a0 Z = true) (b : Addr) (i : Int32) (j : Int32) (xs : List Int32) (h : Heap) (n0 : Nat) (hn0 : Old Z n0 h) (A1 : La Z h b .int (ia xs)) (gb : n0 ≤ b) (i0 : 0 ≤ i.toInt) (i1 : i.toInt < xs.length) (j0 : 0 ≤ j.toInt) (j1 : j.toInt < xs.length) :
    Con l Z (⟨"com/example/waymarshal/waymarshal/replay/VacantVehiclesAddPinLaw", "swap", "([III)V"⟩ : MethodName) method_2_code 4 none ({ frames := 0, cells := 0, slots := 0, locals := 0 } : Room) #[(.ref b), (.int i), (.int j)] h n0 (fun v h' => v = none ∧ Keep h h' [b] ∧ La Z h' b .int (ia (own_swap xs i j))) := by
  refine con_of hw (plainFor_of_name pn_com_example_waymarshal_waymarshal_replay_VacantVehiclesAddPinLaw) hn0 ?_
  intro p e s m below meth c T0 C X0
  refine Go.cast (congrArg T0.setTop (ef_own_swapM m b i j)) ?_
  refine go_aloadN C X0 1 rfl d1_0 rfl rfl ?_
  refine go_iloadN C X0 2 rfl d1_1 rfl ?_
  refine go_iaload C X0 A1 i0 (v := (.int (at32 xs i))) (ia_at i0 i1) (pc' := 3) rfl d1_2 ?_
  refine go_istoreN C X0 4 rfl d1_3 #[rv b, iv i, iv j, iv (at32 xs i)] rfl ?_
  refine go_aloadN C X0 5 rfl d1_4 rfl rfl ?_
  refine go_iloadN C X0 6 rfl d1_5 rfl ?_
  refine go_aloadN C X0 7 rfl d1_6 rfl rfl ?_
  refine go_iloadN C X0 8 rfl d1_7 rfl ?_
  refine go_iaload C X0 A1 j0 (v := (.int (at32 xs j))) (ia_at j0 j1) (pc' := 9) rfl d1_8 ?_
  refine go_iastore C X0 A1 i0 (by rw [ia_len]; exact i1) gb (pc' := 10) rfl d1_9 (fun T1 h3 W4 A5 X2 => ?_)
  have K6 := (Keep.refl h [b]).wr W4 (Or.inl (List.mem_of_getElem? (i := 0) rfl))
  rw [ia_put] at A5
  refine go_aloadN C X2 11 rfl d1_10 rfl rfl ?_
  refine go_iloadN C X2 12 rfl d1_11 rfl ?_
  refine go_iloadN C X2 13 rfl d1_12 rfl ?_
  refine go_iastore C X2 A5 j0 (by rw [ia_len, put32_len]; exact j1) gb (pc' := 14) rfl d1_13 (fun T7 h9 W10 A11 X8 => ?_)
  have K12 := K6.wr W10 (Or.inl (List.mem_of_getElem? (i := 0) rfl))
  rw [ia_put] at A11
  exact go_ret0 C X8 d1_14 ⟨rfl, K12, A11⟩ (by decide) (by decide)
theorem d8_0 : decode method_3_code 0 = .ok (.iload_n 2, 1) := by decide +kernel
theorem d8_1 : decode method_3_code 1 = .ok (.ifCond .gt 12, 3) := by decide +kernel
theorem d8_13 : decode method_3_code 13 = .ok (.iload_n 2, 1) := by decide +kernel
theorem d8_14 : decode method_3_code 14 = .ok (.iconst 1, 1) := by decide +kernel
theorem d8_15 : decode method_3_code 15 = .ok (.if_icmp .gt 12, 3) := by decide +kernel
theorem d8_27 : decode method_3_code 27 = .ok (.iload_n 2, 1) := by decide +kernel
theorem d8_28 : decode method_3_code 28 = .ok (.iconst 2, 1) := by decide +kernel
theorem d8_29 : decode method_3_code 29 = .ok (.if_icmp .gt 12, 3) := by decide +kernel
theorem d8_41 : decode method_3_code 41 = .ok (.iload_n 2, 1) := by decide +kernel
theorem d8_42 : decode method_3_code 42 = .ok (.iconst 3, 1) := by decide +kernel
theorem d8_43 : decode method_3_code 43 = .ok (.if_icmp .gt 12, 3) := by decide +kernel
theorem d8_55 : decode method_3_code 55 = .ok (.iconst (-1), 1) := by decide +kernel
theorem d8_56 : decode method_3_code 56 = .ok (.ireturn, 1) := by decide +kernel
theorem d8_46 : decode method_3_code 46 = .ok (.aload_n 0, 1) := by decide +kernel
theorem d8_47 : decode method_3_code 47 = .ok (.iconst 3, 1) := by decide +kernel
theorem d8_48 : decode method_3_code 48 = .ok (.iaload, 1) := by decide +kernel
theorem d8_49 : decode method_3_code 49 = .ok (.iload_n 1, 1) := by decide +kernel
theorem d8_50 : decode method_3_code 50 = .ok (.if_icmp .ne 5, 3) := by decide +kernel
theorem d8_53 : decode method_3_code 53 = .ok (.iconst 3, 1) := by decide +kernel
theorem d8_54 : decode method_3_code 54 = .ok (.ireturn, 1) := by decide +kernel
theorem d8_32 : decode method_3_code 32 = .ok (.aload_n 0, 1) := by decide +kernel
theorem d8_33 : decode method_3_code 33 = .ok (.iconst 2, 1) := by decide +kernel
theorem d8_34 : decode method_3_code 34 = .ok (.iaload, 1) := by decide +kernel
theorem d8_35 : decode method_3_code 35 = .ok (.iload_n 1, 1) := by decide +kernel
theorem d8_36 : decode method_3_code 36 = .ok (.if_icmp .ne 5, 3) := by decide +kernel
theorem d8_39 : decode method_3_code 39 = .ok (.iconst 2, 1) := by decide +kernel
theorem d8_40 : decode method_3_code 40 = .ok (.ireturn, 1) := by decide +kernel
theorem d8_18 : decode method_3_code 18 = .ok (.aload_n 0, 1) := by decide +kernel
theorem d8_19 : decode method_3_code 19 = .ok (.iconst 1, 1) := by decide +kernel
theorem d8_20 : decode method_3_code 20 = .ok (.iaload, 1) := by decide +kernel
theorem d8_21 : decode method_3_code 21 = .ok (.iload_n 1, 1) := by decide +kernel
theorem d8_22 : decode method_3_code 22 = .ok (.if_icmp .ne 5, 3) := by decide +kernel
theorem d8_25 : decode method_3_code 25 = .ok (.iconst 1, 1) := by decide +kernel
theorem d8_26 : decode method_3_code 26 = .ok (.ireturn, 1) := by decide +kernel
theorem d8_4 : decode method_3_code 4 = .ok (.aload_n 0, 1) := by decide +kernel
theorem d8_5 : decode method_3_code 5 = .ok (.iconst 0, 1) := by decide +kernel
theorem d8_6 : decode method_3_code 6 = .ok (.iaload, 1) := by decide +kernel
theorem d8_7 : decode method_3_code 7 = .ok (.iload_n 1, 1) := by decide +kernel
theorem d8_8 : decode method_3_code 8 = .ok (.if_icmp .ne 5, 3) := by decide +kernel
theorem d8_11 : decode method_3_code 11 = .ok (.iconst 0, 1) := by decide +kernel
theorem d8_12 : decode method_3_code 12 = .ok (.ireturn, 1) := by decide +kernel
theorem ef_own_nextAtM (m : MethodId) (b : Addr) (nd : Int32) (fr : Int32) : entryFrame m #[(.ref b), (.int nd), (.int fr)] 3 = mkF m 0 #[rv b, iv nd, iv fr] [] := by first | (simp [entryFrame, mkF, argsToLocals, Value.category]; done) | rfl
set_option maxRecDepth 65536 in
set_option maxHeartbeats 40000000 in
theorem own_nextAtM (l : Launch) (Z : State) (a0 : Array Value) (hw : ∀ d ∈ tables_1, d.before a0 Z = true) (b : Addr) (nd : Int32) (fr : Int32) (xs : List Int32) (h : Heap) (n0 : Nat) (hn0 : Old Z n0 h) (A1 : La Z h b .int (ia xs)) (hl : xs.length = 4) :
    Con l Z (⟨"com/example/waymarshal/waymarshal/replay/VacantVehiclesAddPinLaw", "nextAt", "([III)I"⟩ : MethodName) method_3_code 3 (some .int) ({ frames := 0, cells := 0, slots := 0, locals := 0 } : Room) #[(.ref b), (.int nd), (.int fr)] h n0 (fun v h' => v = some (.int (own_nextAt xs nd fr)) ∧ h = h') := by
  refine con_of hw (plainFor_of_name pn_com_example_waymarshal_waymarshal_replay_VacantVehiclesAddPinLaw) hn0 ?_
  intro p e s m below meth c T0 C X0
  refine Go.cast (congrArg T0.setTop (ef_own_nextAtM m b nd fr)) ?_
  refine go_iloadN C X0 1 rfl d8_0 rfl ?_
  refine go_if_gt C X0 d8_1 (pc' := 4) (pc2 := 13) rfl (by decide) (by decide) (fun (c1 : 0 < fr.toInt) => ?_) (fun (c1 : fr.toInt ≤ 0) => ?_)
  · refine go_iloadN C X0 14 rfl d8_13 rfl ?_
    refine go_iconst C X0 15 rfl d8_14 (z := 1) rfl ?_
    refine go_icmp_gt C X0 d8_15 (pc' := 18) (pc2 := 27) rfl (by decide) (by decide) (fun (c15 : 1 < fr.toInt) => ?_) (fun (c15 : fr.toInt ≤ 1) => ?_)
    · refine go_iloadN C X0 28 rfl d8_27 rfl ?_
      refine go_iconst C X0 29 rfl d8_28 (z := 2) rfl ?_
      refine go_icmp_gt C X0 d8_29 (pc' := 32) (pc2 := 41) rfl (by decide) (by decide) (fun (c29 : 2 < fr.toInt) => ?_) (fun (c29 : fr.toInt ≤ 2) => ?_)
      · refine go_iloadN C X0 42 rfl d8_41 rfl ?_
        refine go_iconst C X0 43 rfl d8_42 (z := 3) rfl ?_
        refine go_icmp_gt C X0 d8_43 (pc' := 46) (pc2 := 55) rfl (by decide) (by decide) (fun (c43 : 3 < fr.toInt) => ?_) (fun (c43 : fr.toInt ≤ 3) => ?_)
        · refine go_iconst C X0 56 rfl d8_55 (z := (-1)) rfl ?_
          exact go_retI C X0 d8_56 ⟨by unfold own_nextAt; rw [if_neg (by first | (intro q; omega) | (intro q; exact c8 q.2))]; rw [if_neg (by first | (intro q; omega) | (intro q; exact c22 q.2))]; rw [if_neg (by first | (intro q; omega) | (intro q; exact c36 q.2))]; rw [if_neg (by first | (intro q; omega) | (intro q; exact c50 q.2))], rfl⟩ (by decide) (by decide)
        · refine go_aloadN C X0 47 rfl d8_46 rfl rfl ?_
          refine go_iconst C X0 48 rfl d8_47 (z := 3) rfl ?_
          refine go_iaload C X0 A1 (by decide) (v := (.int (at32 xs (3 : Int32)))) (ia_at (by decide) (by rw [hl]; decide)) (pc' := 49) rfl d8_48 ?_
          refine go_iloadN C X0 50 rfl d8_49 rfl ?_
          refine go_icmp_ne C X0 d8_50 (pc' := 53) (pc2 := 55) rfl (by decide) (by decide) (fun (c50 : ¬ (at32 xs (3 : Int32)) = nd) => ?_) (fun (c50 : (at32 xs (3 : Int32)) = nd) => ?_)
          · refine go_iconst C X0 56 rfl d8_55 (z := (-1)) rfl ?_
            exact go_retI C X0 d8_56 ⟨by unfold own_nextAt; rw [if_neg (by first | (intro q; omega) | (intro q; exact c8 q.2))]; rw [if_neg (by first | (intro q; omega) | (intro q; exact c22 q.2))]; rw [if_neg (by first | (intro q; omega) | (intro q; exact c36 q.2))]; rw [if_neg (by first | (intro q; omega) | (intro q; exact c50 q.2))], rfl⟩ (by decide) (by decide)
          · refine go_iconst C X0 54 rfl d8_53 (z := 3) rfl ?_
            exact go_retI C X0 d8_54 ⟨by unfold own_nextAt; rw [if_neg (by first | (intro q; omega) | (intro q; exact c8 q.2))]; rw [if_neg (by first | (intro q; omega) | (intro q; exact c22 q.2))]; rw [if_neg (by first | (intro q; omega) | (intro q; exact c36 q.2))]; rw [if_pos ⟨by omega, by assumption⟩], rfl⟩ (by decide) (by decide)
      · refine go_aloadN C X0 33 rfl d8_32 rfl rfl ?_
        refine go_iconst C X0 34 rfl d8_33 (z := 2) rfl ?_
        refine go_iaload C X0 A1 (by decide) (v := (.int (at32 xs (2 : Int32)))) (ia_at (by decide) (by rw [hl]; decide)) (pc' := 35) rfl d8_34 ?_
        refine go_iloadN C X0 36 rfl d8_35 rfl ?_
        refine go_icmp_ne C X0 d8_36 (pc' := 39) (pc2 := 41) rfl (by decide) (by decide) (fun (c36 : ¬ (at32 xs (2 : Int32)) = nd) => ?_) (fun (c36 : (at32 xs (2 : Int32)) = nd) => ?_)
        · refine go_iloadN C X0 42 rfl d8_41 rfl ?_
          refine go_iconst C X0 43 rfl d8_42 (z := 3) rfl ?_
          refine go_icmp_gt C X0 d8_43 (pc' := 46) (pc2 := 55) rfl (by decide) (by decide) (fun (c43 : 3 < fr.toInt) => ?_) (fun (c43 : fr.toInt ≤ 3) => ?_)
          · refine go_iconst C X0 56 rfl d8_55 (z := (-1)) rfl ?_
            exact go_retI C X0 d8_56 ⟨by unfold own_nextAt; rw [if_neg (by first | (intro q; omega) | (intro q; exact c8 q.2))]; rw [if_neg (by first | (intro q; omega) | (intro q; exact c22 q.2))]; rw [if_neg (by first | (intro q; omega) | (intro q; exact c36 q.2))]; rw [if_neg (by first | (intro q; omega) | (intro q; exact c50 q.2))], rfl⟩ (by decide) (by decide)
          · refine go_aloadN C X0 47 rfl d8_46 rfl rfl ?_
            refine go_iconst C X0 48 rfl d8_47 (z := 3) rfl ?_
            refine go_iaload C X0 A1 (by decide) (v := (.int (at32 xs (3 : Int32)))) (ia_at (by decide) (by rw [hl]; decide)) (pc' := 49) rfl d8_48 ?_
            refine go_iloadN C X0 50 rfl d8_49 rfl ?_
            refine go_icmp_ne C X0 d8_50 (pc' := 53) (pc2 := 55) rfl (by decide) (by decide) (fun (c50 : ¬ (at32 xs (3 : Int32)) = nd) => ?_) (fun (c50 : (at32 xs (3 : Int32)) = nd) => ?_)
            · refine go_iconst C X0 56 rfl d8_55 (z := (-1)) rfl ?_
              exact go_retI C X0 d8_56 ⟨by unfold own_nextAt; rw [if_neg (by first | (intro q; omega) | (intro q; exact c8 q.2))]; rw [if_neg (by first | (intro q; omega) | (intro q; exact c22 q.2))]; rw [if_neg (by first | (intro q; omega) | (intro q; exact c36 q.2))]; rw [if_neg (by first | (intro q; omega) | (intro q; exact c50 q.2))], rfl⟩ (by decide) (by decide)
            · refine go_iconst C X0 54 rfl d8_53 (z := 3) rfl ?_
              exact go_retI C X0 d8_54 ⟨by unfold own_nextAt; rw [if_neg (by first | (intro q; omega) | (intro q; exact c8 q.2))]; rw [if_neg (by first | (intro q; omega) | (intro q; exact c22 q.2))]; rw [if_neg (by first | (intro q; omega) | (intro q; exact c36 q.2))]; rw [if_pos ⟨by omega, by assumption⟩], rfl⟩ (by decide) (by decide)
        · refine go_iconst C X0 40 rfl d8_39 (z := 2) rfl ?_
          exact go_retI C X0 d8_40 ⟨by unfold own_nextAt; rw [if_neg (by first | (intro q; omega) | (intro q; exact c8 q.2))]; rw [if_neg (by first | (intro q; omega) | (intro q; exact c22 q.2))]; rw [if_pos ⟨by omega, by assumption⟩], rfl⟩ (by decide) (by decide)
    · refine go_aloadN C X0 19 rfl d8_18 rfl rfl ?_
      refine go_iconst C X0 20 rfl d8_19 (z := 1) rfl ?_
      refine go_iaload C X0 A1 (by decide) (v := (.int (at32 xs (1 : Int32)))) (ia_at (by decide) (by rw [hl]; decide)) (pc' := 21) rfl d8_20 ?_
      refine go_iloadN C X0 22 rfl d8_21 rfl ?_
      refine go_icmp_ne C X0 d8_22 (pc' := 25) (pc2 := 27) rfl (by decide) (by decide) (fun (c22 : ¬ (at32 xs (1 : Int32)) = nd) => ?_) (fun (c22 : (at32 xs (1 : Int32)) = nd) => ?_)
      · refine go_iloadN C X0 28 rfl d8_27 rfl ?_
        refine go_iconst C X0 29 rfl d8_28 (z := 2) rfl ?_
        refine go_icmp_gt C X0 d8_29 (pc' := 32) (pc2 := 41) rfl (by decide) (by decide) (fun (c29 : 2 < fr.toInt) => ?_) (fun (c29 : fr.toInt ≤ 2) => ?_)
        · refine go_iloadN C X0 42 rfl d8_41 rfl ?_
          refine go_iconst C X0 43 rfl d8_42 (z := 3) rfl ?_
          refine go_icmp_gt C X0 d8_43 (pc' := 46) (pc2 := 55) rfl (by decide) (by decide) (fun (c43 : 3 < fr.toInt) => ?_) (fun (c43 : fr.toInt ≤ 3) => ?_)
          · refine go_iconst C X0 56 rfl d8_55 (z := (-1)) rfl ?_
            exact go_retI C X0 d8_56 ⟨by unfold own_nextAt; rw [if_neg (by first | (intro q; omega) | (intro q; exact c8 q.2))]; rw [if_neg (by first | (intro q; omega) | (intro q; exact c22 q.2))]; rw [if_neg (by first | (intro q; omega) | (intro q; exact c36 q.2))]; rw [if_neg (by first | (intro q; omega) | (intro q; exact c50 q.2))], rfl⟩ (by decide) (by decide)
          · refine go_aloadN C X0 47 rfl d8_46 rfl rfl ?_
            refine go_iconst C X0 48 rfl d8_47 (z := 3) rfl ?_
            refine go_iaload C X0 A1 (by decide) (v := (.int (at32 xs (3 : Int32)))) (ia_at (by decide) (by rw [hl]; decide)) (pc' := 49) rfl d8_48 ?_
            refine go_iloadN C X0 50 rfl d8_49 rfl ?_
            refine go_icmp_ne C X0 d8_50 (pc' := 53) (pc2 := 55) rfl (by decide) (by decide) (fun (c50 : ¬ (at32 xs (3 : Int32)) = nd) => ?_) (fun (c50 : (at32 xs (3 : Int32)) = nd) => ?_)
            · refine go_iconst C X0 56 rfl d8_55 (z := (-1)) rfl ?_
              exact go_retI C X0 d8_56 ⟨by unfold own_nextAt; rw [if_neg (by first | (intro q; omega) | (intro q; exact c8 q.2))]; rw [if_neg (by first | (intro q; omega) | (intro q; exact c22 q.2))]; rw [if_neg (by first | (intro q; omega) | (intro q; exact c36 q.2))]; rw [if_neg (by first | (intro q; omega) | (intro q; exact c50 q.2))], rfl⟩ (by decide) (by decide)
            · refine go_iconst C X0 54 rfl d8_53 (z := 3) rfl ?_
              exact go_retI C X0 d8_54 ⟨by unfold own_nextAt; rw [if_neg (by first | (intro q; omega) | (intro q; exact c8 q.2))]; rw [if_neg (by first | (intro q; omega) | (intro q; exact c22 q.2))]; rw [if_neg (by first | (intro q; omega) | (intro q; exact c36 q.2))]; rw [if_pos ⟨by omega, by assumption⟩], rfl⟩ (by decide) (by decide)
        · refine go_aloadN C X0 33 rfl d8_32 rfl rfl ?_
          refine go_iconst C X0 34 rfl d8_33 (z := 2) rfl ?_
          refine go_iaload C X0 A1 (by decide) (v := (.int (at32 xs (2 : Int32)))) (ia_at (by decide) (by rw [hl]; decide)) (pc' := 35) rfl d8_34 ?_
          refine go_iloadN C X0 36 rfl d8_35 rfl ?_
          refine go_icmp_ne C X0 d8_36 (pc' := 39) (pc2 := 41) rfl (by decide) (by decide) (fun (c36 : ¬ (at32 xs (2 : Int32)) = nd) => ?_) (fun (c36 : (at32 xs (2 : Int32)) = nd) => ?_)
          · refine go_iloadN C X0 42 rfl d8_41 rfl ?_
            refine go_iconst C X0 43 rfl d8_42 (z := 3) rfl ?_
            refine go_icmp_gt C X0 d8_43 (pc' := 46) (pc2 := 55) rfl (by decide) (by decide) (fun (c43 : 3 < fr.toInt) => ?_) (fun (c43 : fr.toInt ≤ 3) => ?_)
            · refine go_iconst C X0 56 rfl d8_55 (z := (-1)) rfl ?_
              exact go_retI C X0 d8_56 ⟨by unfold own_nextAt; rw [if_neg (by first | (intro q; omega) | (intro q; exact c8 q.2))]; rw [if_neg (by first | (intro q; omega) | (intro q; exact c22 q.2))]; rw [if_neg (by first | (intro q; omega) | (intro q; exact c36 q.2))]; rw [if_neg (by first | (intro q; omega) | (intro q; exact c50 q.2))], rfl⟩ (by decide) (by decide)
            · refine go_aloadN C X0 47 rfl d8_46 rfl rfl ?_
              refine go_iconst C X0 48 rfl d8_47 (z := 3) rfl ?_
              refine go_iaload C X0 A1 (by decide) (v := (.int (at32 xs (3 : Int32)))) (ia_at (by decide) (by rw [hl]; decide)) (pc' := 49) rfl d8_48 ?_
              refine go_iloadN C X0 50 rfl d8_49 rfl ?_
              refine go_icmp_ne C X0 d8_50 (pc' := 53) (pc2 := 55) rfl (by decide) (by decide) (fun (c50 : ¬ (at32 xs (3 : Int32)) = nd) => ?_) (fun (c50 : (at32 xs (3 : Int32)) = nd) => ?_)
              · refine go_iconst C X0 56 rfl d8_55 (z := (-1)) rfl ?_
                exact go_retI C X0 d8_56 ⟨by unfold own_nextAt; rw [if_neg (by first | (intro q; omega) | (intro q; exact c8 q.2))]; rw [if_neg (by first | (intro q; omega) | (intro q; exact c22 q.2))]; rw [if_neg (by first | (intro q; omega) | (intro q; exact c36 q.2))]; rw [if_neg (by first | (intro q; omega) | (intro q; exact c50 q.2))], rfl⟩ (by decide) (by decide)
              · refine go_iconst C X0 54 rfl d8_53 (z := 3) rfl ?_
                exact go_retI C X0 d8_54 ⟨by unfold own_nextAt; rw [if_neg (by first | (intro q; omega) | (intro q; exact c8 q.2))]; rw [if_neg (by first | (intro q; omega) | (intro q; exact c22 q.2))]; rw [if_neg (by first | (intro q; omega) | (intro q; exact c36 q.2))]; rw [if_pos ⟨by omega, by assumption⟩], rfl⟩ (by decide) (by decide)
          · refine go_iconst C X0 40 rfl d8_39 (z := 2) rfl ?_
            exact go_retI C X0 d8_40 ⟨by unfold own_nextAt; rw [if_neg (by first | (intro q; omega) | (intro q; exact c8 q.2))]; rw [if_neg (by first | (intro q; omega) | (intro q; exact c22 q.2))]; rw [if_pos ⟨by omega, by assumption⟩], rfl⟩ (by decide) (by decide)
      · refine go_iconst C X0 26 rfl d8_25 (z := 1) rfl ?_
        exact go_retI C X0 d8_26 ⟨by unfold own_nextAt; rw [if_neg (by first | (intro q; omega) | (intro q; exact c8 q.2))]; rw [if_pos ⟨by omega, by assumption⟩], rfl⟩ (by decide) (by decide)
  · refine go_aloadN C X0 5 rfl d8_4 rfl rfl ?_
    refine go_iconst C X0 6 rfl d8_5 (z := 0) rfl ?_
    refine go_iaload C X0 A1 (by decide) (v := (.int (at32 xs (0 : Int32)))) (ia_at (by decide) (by rw [hl]; decide)) (pc' := 7) rfl d8_6 ?_
    refine go_iloadN C X0 8 rfl d8_7 rfl ?_
    refine go_icmp_ne C X0 d8_8 (pc' := 11) (pc2 := 13) rfl (by decide) (by decide) (fun (c8 : ¬ (at32 xs (0 : Int32)) = nd) => ?_) (fun (c8 : (at32 xs (0 : Int32)) = nd) => ?_)
    · refine go_iloadN C X0 14 rfl d8_13 rfl ?_
      refine go_iconst C X0 15 rfl d8_14 (z := 1) rfl ?_
      refine go_icmp_gt C X0 d8_15 (pc' := 18) (pc2 := 27) rfl (by decide) (by decide) (fun (c15 : 1 < fr.toInt) => ?_) (fun (c15 : fr.toInt ≤ 1) => ?_)
      · refine go_iloadN C X0 28 rfl d8_27 rfl ?_
        refine go_iconst C X0 29 rfl d8_28 (z := 2) rfl ?_
        refine go_icmp_gt C X0 d8_29 (pc' := 32) (pc2 := 41) rfl (by decide) (by decide) (fun (c29 : 2 < fr.toInt) => ?_) (fun (c29 : fr.toInt ≤ 2) => ?_)
        · refine go_iloadN C X0 42 rfl d8_41 rfl ?_
          refine go_iconst C X0 43 rfl d8_42 (z := 3) rfl ?_
          refine go_icmp_gt C X0 d8_43 (pc' := 46) (pc2 := 55) rfl (by decide) (by decide) (fun (c43 : 3 < fr.toInt) => ?_) (fun (c43 : fr.toInt ≤ 3) => ?_)
          · refine go_iconst C X0 56 rfl d8_55 (z := (-1)) rfl ?_
            exact go_retI C X0 d8_56 ⟨by unfold own_nextAt; rw [if_neg (by first | (intro q; omega) | (intro q; exact c8 q.2))]; rw [if_neg (by first | (intro q; omega) | (intro q; exact c22 q.2))]; rw [if_neg (by first | (intro q; omega) | (intro q; exact c36 q.2))]; rw [if_neg (by first | (intro q; omega) | (intro q; exact c50 q.2))], rfl⟩ (by decide) (by decide)
          · refine go_aloadN C X0 47 rfl d8_46 rfl rfl ?_
            refine go_iconst C X0 48 rfl d8_47 (z := 3) rfl ?_
            refine go_iaload C X0 A1 (by decide) (v := (.int (at32 xs (3 : Int32)))) (ia_at (by decide) (by rw [hl]; decide)) (pc' := 49) rfl d8_48 ?_
            refine go_iloadN C X0 50 rfl d8_49 rfl ?_
            refine go_icmp_ne C X0 d8_50 (pc' := 53) (pc2 := 55) rfl (by decide) (by decide) (fun (c50 : ¬ (at32 xs (3 : Int32)) = nd) => ?_) (fun (c50 : (at32 xs (3 : Int32)) = nd) => ?_)
            · refine go_iconst C X0 56 rfl d8_55 (z := (-1)) rfl ?_
              exact go_retI C X0 d8_56 ⟨by unfold own_nextAt; rw [if_neg (by first | (intro q; omega) | (intro q; exact c8 q.2))]; rw [if_neg (by first | (intro q; omega) | (intro q; exact c22 q.2))]; rw [if_neg (by first | (intro q; omega) | (intro q; exact c36 q.2))]; rw [if_neg (by first | (intro q; omega) | (intro q; exact c50 q.2))], rfl⟩ (by decide) (by decide)
            · refine go_iconst C X0 54 rfl d8_53 (z := 3) rfl ?_
              exact go_retI C X0 d8_54 ⟨by unfold own_nextAt; rw [if_neg (by first | (intro q; omega) | (intro q; exact c8 q.2))]; rw [if_neg (by first | (intro q; omega) | (intro q; exact c22 q.2))]; rw [if_neg (by first | (intro q; omega) | (intro q; exact c36 q.2))]; rw [if_pos ⟨by omega, by assumption⟩], rfl⟩ (by decide) (by decide)
        · refine go_aloadN C X0 33 rfl d8_32 rfl rfl ?_
          refine go_iconst C X0 34 rfl d8_33 (z := 2) rfl ?_
          refine go_iaload C X0 A1 (by decide) (v := (.int (at32 xs (2 : Int32)))) (ia_at (by decide) (by rw [hl]; decide)) (pc' := 35) rfl d8_34 ?_
          refine go_iloadN C X0 36 rfl d8_35 rfl ?_
          refine go_icmp_ne C X0 d8_36 (pc' := 39) (pc2 := 41) rfl (by decide) (by decide) (fun (c36 : ¬ (at32 xs (2 : Int32)) = nd) => ?_) (fun (c36 : (at32 xs (2 : Int32)) = nd) => ?_)
          · refine go_iloadN C X0 42 rfl d8_41 rfl ?_
            refine go_iconst C X0 43 rfl d8_42 (z := 3) rfl ?_
            refine go_icmp_gt C X0 d8_43 (pc' := 46) (pc2 := 55) rfl (by decide) (by decide) (fun (c43 : 3 < fr.toInt) => ?_) (fun (c43 : fr.toInt ≤ 3) => ?_)
            · refine go_iconst C X0 56 rfl d8_55 (z := (-1)) rfl ?_
              exact go_retI C X0 d8_56 ⟨by unfold own_nextAt; rw [if_neg (by first | (intro q; omega) | (intro q; exact c8 q.2))]; rw [if_neg (by first | (intro q; omega) | (intro q; exact c22 q.2))]; rw [if_neg (by first | (intro q; omega) | (intro q; exact c36 q.2))]; rw [if_neg (by first | (intro q; omega) | (intro q; exact c50 q.2))], rfl⟩ (by decide) (by decide)
            · refine go_aloadN C X0 47 rfl d8_46 rfl rfl ?_
              refine go_iconst C X0 48 rfl d8_47 (z := 3) rfl ?_
              refine go_iaload C X0 A1 (by decide) (v := (.int (at32 xs (3 : Int32)))) (ia_at (by decide) (by rw [hl]; decide)) (pc' := 49) rfl d8_48 ?_
              refine go_iloadN C X0 50 rfl d8_49 rfl ?_
              refine go_icmp_ne C X0 d8_50 (pc' := 53) (pc2 := 55) rfl (by decide) (by decide) (fun (c50 : ¬ (at32 xs (3 : Int32)) = nd) => ?_) (fun (c50 : (at32 xs (3 : Int32)) = nd) => ?_)
              · refine go_iconst C X0 56 rfl d8_55 (z := (-1)) rfl ?_
                exact go_retI C X0 d8_56 ⟨by unfold own_nextAt; rw [if_neg (by first | (intro q; omega) | (intro q; exact c8 q.2))]; rw [if_neg (by first | (intro q; omega) | (intro q; exact c22 q.2))]; rw [if_neg (by first | (intro q; omega) | (intro q; exact c36 q.2))]; rw [if_neg (by first | (intro q; omega) | (intro q; exact c50 q.2))], rfl⟩ (by decide) (by decide)
              · refine go_iconst C X0 54 rfl d8_53 (z := 3) rfl ?_
                exact go_retI C X0 d8_54 ⟨by unfold own_nextAt; rw [if_neg (by first | (intro q; omega) | (intro q; exact c8 q.2))]; rw [if_neg (by first | (intro q; omega) | (intro q; exact c22 q.2))]; rw [if_neg (by first | (intro q; omega) | (intro q; exact c36 q.2))]; rw [if_pos ⟨by omega, by assumption⟩], rfl⟩ (by decide) (by decide)
          · refine go_iconst C X0 40 rfl d8_39 (z := 2) rfl ?_
            exact go_retI C X0 d8_40 ⟨by unfold own_nextAt; rw [if_neg (by first | (intro q; omega) | (intro q; exact c8 q.2))]; rw [if_neg (by first | (intro q; omega) | (intro q; exact c22 q.2))]; rw [if_pos ⟨by omega, by assumption⟩], rfl⟩ (by decide) (by decide)
      · refine go_aloadN C X0 19 rfl d8_18 rfl rfl ?_
        refine go_iconst C X0 20 rfl d8_19 (z := 1) rfl ?_
        refine go_iaload C X0 A1 (by decide) (v := (.int (at32 xs (1 : Int32)))) (ia_at (by decide) (by rw [hl]; decide)) (pc' := 21) rfl d8_20 ?_
        refine go_iloadN C X0 22 rfl d8_21 rfl ?_
        refine go_icmp_ne C X0 d8_22 (pc' := 25) (pc2 := 27) rfl (by decide) (by decide) (fun (c22 : ¬ (at32 xs (1 : Int32)) = nd) => ?_) (fun (c22 : (at32 xs (1 : Int32)) = nd) => ?_)
        · refine go_iloadN C X0 28 rfl d8_27 rfl ?_
          refine go_iconst C X0 29 rfl d8_28 (z := 2) rfl ?_
          refine go_icmp_gt C X0 d8_29 (pc' := 32) (pc2 := 41) rfl (by decide) (by decide) (fun (c29 : 2 < fr.toInt) => ?_) (fun (c29 : fr.toInt ≤ 2) => ?_)
          · refine go_iloadN C X0 42 rfl d8_41 rfl ?_
            refine go_iconst C X0 43 rfl d8_42 (z := 3) rfl ?_
            refine go_icmp_gt C X0 d8_43 (pc' := 46) (pc2 := 55) rfl (by decide) (by decide) (fun (c43 : 3 < fr.toInt) => ?_) (fun (c43 : fr.toInt ≤ 3) => ?_)
            · refine go_iconst C X0 56 rfl d8_55 (z := (-1)) rfl ?_
              exact go_retI C X0 d8_56 ⟨by unfold own_nextAt; rw [if_neg (by first | (intro q; omega) | (intro q; exact c8 q.2))]; rw [if_neg (by first | (intro q; omega) | (intro q; exact c22 q.2))]; rw [if_neg (by first | (intro q; omega) | (intro q; exact c36 q.2))]; rw [if_neg (by first | (intro q; omega) | (intro q; exact c50 q.2))], rfl⟩ (by decide) (by decide)
            · refine go_aloadN C X0 47 rfl d8_46 rfl rfl ?_
              refine go_iconst C X0 48 rfl d8_47 (z := 3) rfl ?_
              refine go_iaload C X0 A1 (by decide) (v := (.int (at32 xs (3 : Int32)))) (ia_at (by decide) (by rw [hl]; decide)) (pc' := 49) rfl d8_48 ?_
              refine go_iloadN C X0 50 rfl d8_49 rfl ?_
              refine go_icmp_ne C X0 d8_50 (pc' := 53) (pc2 := 55) rfl (by decide) (by decide) (fun (c50 : ¬ (at32 xs (3 : Int32)) = nd) => ?_) (fun (c50 : (at32 xs (3 : Int32)) = nd) => ?_)
              · refine go_iconst C X0 56 rfl d8_55 (z := (-1)) rfl ?_
                exact go_retI C X0 d8_56 ⟨by unfold own_nextAt; rw [if_neg (by first | (intro q; omega) | (intro q; exact c8 q.2))]; rw [if_neg (by first | (intro q; omega) | (intro q; exact c22 q.2))]; rw [if_neg (by first | (intro q; omega) | (intro q; exact c36 q.2))]; rw [if_neg (by first | (intro q; omega) | (intro q; exact c50 q.2))], rfl⟩ (by decide) (by decide)
              · refine go_iconst C X0 54 rfl d8_53 (z := 3) rfl ?_
                exact go_retI C X0 d8_54 ⟨by unfold own_nextAt; rw [if_neg (by first | (intro q; omega) | (intro q; exact c8 q.2))]; rw [if_neg (by first | (intro q; omega) | (intro q; exact c22 q.2))]; rw [if_neg (by first | (intro q; omega) | (intro q; exact c36 q.2))]; rw [if_pos ⟨by omega, by assumption⟩], rfl⟩ (by decide) (by decide)
          · refine go_aloadN C X0 33 rfl d8_32 rfl rfl ?_
            refine go_iconst C X0 34 rfl d8_33 (z := 2) rfl ?_
            refine go_iaload C X0 A1 (by decide) (v := (.int (at32 xs (2 : Int32)))) (ia_at (by decide) (by rw [hl]; decide)) (pc' := 35) rfl d8_34 ?_
            refine go_iloadN C X0 36 rfl d8_35 rfl ?_
            refine go_icmp_ne C X0 d8_36 (pc' := 39) (pc2 := 41) rfl (by decide) (by decide) (fun (c36 : ¬ (at32 xs (2 : Int32)) = nd) => ?_) (fun (c36 : (at32 xs (2 : Int32)) = nd) => ?_)
            · refine go_iloadN C X0 42 rfl d8_41 rfl ?_
              refine go_iconst C X0 43 rfl d8_42 (z := 3) rfl ?_
              refine go_icmp_gt C X0 d8_43 (pc' := 46) (pc2 := 55) rfl (by decide) (by decide) (fun (c43 : 3 < fr.toInt) => ?_) (fun (c43 : fr.toInt ≤ 3) => ?_)
              · refine go_iconst C X0 56 rfl d8_55 (z := (-1)) rfl ?_
                exact go_retI C X0 d8_56 ⟨by unfold own_nextAt; rw [if_neg (by first | (intro q; omega) | (intro q; exact c8 q.2))]; rw [if_neg (by first | (intro q; omega) | (intro q; exact c22 q.2))]; rw [if_neg (by first | (intro q; omega) | (intro q; exact c36 q.2))]; rw [if_neg (by first | (intro q; omega) | (intro q; exact c50 q.2))], rfl⟩ (by decide) (by decide)
              · refine go_aloadN C X0 47 rfl d8_46 rfl rfl ?_
                refine go_iconst C X0 48 rfl d8_47 (z := 3) rfl ?_
                refine go_iaload C X0 A1 (by decide) (v := (.int (at32 xs (3 : Int32)))) (ia_at (by decide) (by rw [hl]; decide)) (pc' := 49) rfl d8_48 ?_
                refine go_iloadN C X0 50 rfl d8_49 rfl ?_
                refine go_icmp_ne C X0 d8_50 (pc' := 53) (pc2 := 55) rfl (by decide) (by decide) (fun (c50 : ¬ (at32 xs (3 : Int32)) = nd) => ?_) (fun (c50 : (at32 xs (3 : Int32)) = nd) => ?_)
                · refine go_iconst C X0 56 rfl d8_55 (z := (-1)) rfl ?_
                  exact go_retI C X0 d8_56 ⟨by unfold own_nextAt; rw [if_neg (by first | (intro q; omega) | (intro q; exact c8 q.2))]; rw [if_neg (by first | (intro q; omega) | (intro q; exact c22 q.2))]; rw [if_neg (by first | (intro q; omega) | (intro q; exact c36 q.2))]; rw [if_neg (by first | (intro q; omega) | (intro q; exact c50 q.2))], rfl⟩ (by decide) (by decide)
                · refine go_iconst C X0 54 rfl d8_53 (z := 3) rfl ?_
                  exact go_retI C X0 d8_54 ⟨by unfold own_nextAt; rw [if_neg (by first | (intro q; omega) | (intro q; exact c8 q.2))]; rw [if_neg (by first | (intro q; omega) | (intro q; exact c22 q.2))]; rw [if_neg (by first | (intro q; omega) | (intro q; exact c36 q.2))]; rw [if_pos ⟨by omega, by assumption⟩], rfl⟩ (by decide) (by decide)
            · refine go_iconst C X0 40 rfl d8_39 (z := 2) rfl ?_
              exact go_retI C X0 d8_40 ⟨by unfold own_nextAt; rw [if_neg (by first | (intro q; omega) | (intro q; exact c8 q.2))]; rw [if_neg (by first | (intro q; omega) | (intro q; exact c22 q.2))]; rw [if_pos ⟨by omega, by assumption⟩], rfl⟩ (by decide) (by decide)
        · refine go_iconst C X0 26 rfl d8_25 (z := 1) rfl ?_
          exact go_retI C X0 d8_26 ⟨by unfold own_nextAt; rw [if_neg (by first | (intro q; omega) | (intro q; exact c8 q.2))]; rw [if_pos ⟨by omega, by assumption⟩], rfl⟩ (by decide) (by decide)
    · refine go_iconst C X0 12 rfl d8_11 (z := 0) rfl ?_
      exact go_retI C X0 d8_12 ⟨by unfold own_nextAt; rw [if_pos ⟨by omega, by assumption⟩], rfl⟩ (by decide) (by decide)
theorem d5_0 : decode method_4_code 0 = .ok (.aload_n 1, 1) := by decide +kernel
theorem d5_1 : decode method_4_code 1 = .ok (.iload_n 2, 1) := by decide +kernel
theorem d5_2 : decode method_4_code 2 = .ok (.iaload, 1) := by decide +kernel
theorem d5_3 : decode method_4_code 3 = .ok (.iconst 2, 1) := by decide +kernel
theorem d5_4 : decode method_4_code 4 = .ok (.if_icmp .ge 11, 3) := by decide +kernel
theorem d5_15 : decode method_4_code 15 = .ok (.return_, 1) := by decide +kernel
theorem d5_7 : decode method_4_code 7 = .ok (.aload_n 0, 1) := by decide +kernel
theorem d5_8 : decode method_4_code 8 = .ok (.aload_n 1, 1) := by decide +kernel
theorem d5_9 : decode method_4_code 9 = .ok (.iload_n 2, 1) := by decide +kernel
theorem d5_10 : decode method_4_code 10 = .ok (.iaload, 1) := by decide +kernel
theorem d5_11 : decode method_4_code 11 = .ok (.iload_n 2, 1) := by decide +kernel
theorem pd_1 : parseMethodDescriptor "(II)V" = some ⟨[.int, .int], none⟩ := by decide +kernel
theorem d5_12 : decode method_4_code 12 = .ok (.invokevirtual 7, 3) := by decide +kernel
theorem ef_own_addIfM (m : MethodId) (a : Addr) (b : Addr) (r : Int32) : entryFrame m #[(.ref a), (.ref b), (.int r)] 3 = mkF m 0 #[rv a, rv b, iv r] [] := by first | (simp [entryFrame, mkF, argsToLocals, Value.category]; done) | rfl
set_option maxRecDepth 65536 in
set_option maxHeartbeats 40000000 in
theorem own_addIfM (l : Launch) (Z : State) (a0 : Array Value) (hw : ∀ d ∈ tables_1, d.before a0 Z = true) (a : Addr) (b : Addr) (r : Int32) (f n : Addr) (xs fi nx fi' nx' : List Int32) (h : Heap) (n0 : Nat) (hn0 : Old Z n0 h) (E0 : Exa Z h a "com/example/waymarshal/waymarshal/replay/VacantVehicles") (F1 : Fld Z h a "com/example/waymarshal/waymarshal/replay/VacantVehicles" "first" "[I" (.ref f)) (F2 : Fld Z h a "com/example/waymarshal/waymarshal/replay/VacantVehicles" "next" "[I" (.ref n)) (A1 : La Z h f .int (ia fi)) (A2 : La Z h n .int (ia nx)) (A3 : La Z h b .int (ia xs)) (nfn : f ≠ n) (naf : a ≠ f) (nan : a ≠ n) (nbf : b ≠ f) (nbn : b ≠ n) (gf : n0 ≤ f) (gn : n0 ≤ n) (hf : fi.length = 2) (hnx : nx.length = 4) (hl : xs.length = 4) (r0 : 0 ≤ r.toInt) (r1 : r.toInt < 4) (nd0 : 0 ≤ (at32 xs r).toInt) (H : own_addIf (fi, nx) xs r = some (fi', nx')) :
    Con l Z (⟨"com/example/waymarshal/waymarshal/replay/VacantVehiclesAddPinLaw", "addIf", "(Lcom/example/waymarshal/waymarshal/replay/VacantVehicles;[II)V"⟩ : MethodName) method_4_code 3 none ({ frames := 1, cells := 0, slots := 0, locals := 16 } : Room) #[(.ref a), (.ref b), (.int r)] h n0 (fun v h' => v = none ∧ Keep h h' [f, n] ∧ La Z h' f .int (ia fi') ∧ La Z h' n .int (ia nx')) := by
  refine con_of hw (plainFor_of_name pn_com_example_waymarshal_waymarshal_replay_VacantVehiclesAddPinLaw) hn0 ?_
  intro p e s m below meth c T0 C X0
  refine Go.cast (congrArg T0.setTop (ef_own_addIfM m a b r)) ?_
  refine go_aloadN C X0 1 rfl d5_0 rfl rfl ?_
  refine go_iloadN C X0 2 rfl d5_1 rfl ?_
  refine go_iaload C X0 A3 r0 (v := (.int (at32 xs r))) (ia_at r0 (by omega)) (pc' := 3) rfl d5_2 ?_
  refine go_iconst C X0 4 rfl d5_3 (z := 2) rfl ?_
  refine go_icmp_ge C X0 d5_4 (pc' := 7) (pc2 := 15) rfl (by decide) (by decide) (fun (c4 : 2 ≤ (at32 xs r).toInt) => ?_) (fun (c4 : (at32 xs r).toInt < 2) => ?_)
  · exact go_ret0 C X0 d5_15 (by unfold own_addIf at H; rw [if_neg (by omega)] at H; obtain ⟨e1, e2⟩ := Prod.mk.inj (Option.some.inj H); subst e1; subst e2; exact ⟨rfl, (Keep.refl h [f, n]), A1, A2⟩) (by decide) (by decide)
  · unfold own_addIf at H
    rw [if_pos c4] at H
    refine go_aloadN C X0 8 rfl d5_7 rfl rfl ?_
    refine go_aloadN C X0 9 rfl d5_8 rfl rfl ?_
    refine go_iloadN C X0 10 rfl d5_9 rfl ?_
    refine go_iaload C X0 A3 r0 (v := (.int (at32 xs r))) (ia_at r0 (by omega)) (pc' := 11) rfl d5_10 ?_
    refine go_iloadN C X0 12 rfl d5_11 rfl ?_
    refine go_virtual C X0 E0 (C.w 26 rfl) (C.w 27 rfl) (notFace_of_selects (args := #[]) (mvT C.hZ (C.w 29 rfl))) (C.w 29 rfl) (C.w 28 rfl) (C.w 8 rfl) (C.w 30 rfl) (own_add l Z a0 C.ws a (at32 xs r) r f n fi nx fi' nx' h n0 X0.old F1 F2 A1 A2 nfn naf nan gf gn nd0 (by omega) r0 (by omega) H) (argsL := [(.int (at32 xs r)), (.int r)]) (rest := []) (lenOf pd_1 rfl) rfl (by decide) (by decide) (Nat.le_of_ble_eq_true rfl) (by decide) (by decide) rfl rfl (pc' := 15) rfl d5_12 ?_
    rintro T1 h3 _ ⟨rfl, K9, A8, A9⟩ X2
    show Go p e below _ (T1.setTop (mkF m 15 #[rv a, rv b, iv r] []))
    have F4 := F1.keep K9 (ninS naf (ninS nan nin0))
    have F5 := F2.keep K9 (ninS naf (ninS nan nin0))
    have A6 := A3.keep K9 (ninS nbf (ninS nbn nin0))
    have E7 := E0.keep K9
    have K8 := (Keep.refl h [f, n]).trans K9 (allS (Or.inl (List.mem_of_getElem? (i := 0) rfl)) (allS (Or.inl (List.mem_of_getElem? (i := 1) rfl)) all0))
    exact go_ret0 C X2 d5_15 ⟨rfl, K8, A8, A9⟩ (by decide) (by decide)
theorem d9_0 : decode method_5_code 0 = .ok (.aload_n 1, 1) := by decide +kernel
theorem d9_1 : decode method_5_code 1 = .ok (.iload_n 2, 1) := by decide +kernel
theorem d9_2 : decode method_5_code 2 = .ok (.iaload, 1) := by decide +kernel
theorem d9_3 : decode method_5_code 3 = .ok (.iconst 2, 1) := by decide +kernel
theorem d9_4 : decode method_5_code 4 = .ok (.if_icmp .lt 5, 3) := by decide +kernel
theorem d9_9 : decode method_5_code 9 = .ok (.aload_n 0, 1) := by decide +kernel
theorem d9_10 : decode method_5_code 10 = .ok (.iload_n 2, 1) := by decide +kernel
theorem pd_2 : parseMethodDescriptor "(I)I" = some ⟨[.int], some .int⟩ := by decide +kernel
theorem d9_11 : decode method_5_code 11 = .ok (.invokevirtual 13, 3) := by decide +kernel
theorem d9_14 : decode method_5_code 14 = .ok (.aload_n 1, 1) := by decide +kernel
theorem d9_15 : decode method_5_code 15 = .ok (.aload_n 1, 1) := by decide +kernel
theorem d9_16 : decode method_5_code 16 = .ok (.iload_n 2, 1) := by decide +kernel
theorem d9_17 : decode method_5_code 17 = .ok (.iaload, 1) := by decide +kernel
theorem d9_18 : decode method_5_code 18 = .ok (.iload_n 2, 1) := by decide +kernel
theorem d9_19 : decode method_5_code 19 = .ok (.iconst 1, 1) := by decide +kernel
theorem d9_20 : decode method_5_code 20 = .ok (.iadd, 1) := by decide +kernel
theorem pd_3 : parseMethodDescriptor "([III)I" = some ⟨[(.array .int), .int, .int], some .int⟩ := by decide +kernel
theorem d9_21 : decode method_5_code 21 = .ok (.invokestatic 17, 3) := by decide +kernel
theorem d9_24 : decode method_5_code 24 = .ok (.if_icmp .ne 7, 3) := by decide +kernel
theorem d9_31 : decode method_5_code 31 = .ok (.iconst 0, 1) := by decide +kernel
theorem d9_32 : decode method_5_code 32 = .ok (.ireturn, 1) := by decide +kernel
theorem d9_27 : decode method_5_code 27 = .ok (.iconst 1, 1) := by decide +kernel
theorem d9_28 : decode method_5_code 28 = .ok (.goto 4, 3) := by decide +kernel
theorem d9_7 : decode method_5_code 7 = .ok (.iconst 1, 1) := by decide +kernel
theorem d9_8 : decode method_5_code 8 = .ok (.ireturn, 1) := by decide +kernel
theorem ef_own_nextOkM (m : MethodId) (a : Addr) (b : Addr) (r : Int32) : entryFrame m #[(.ref a), (.ref b), (.int r)] 3 = mkF m 0 #[rv a, rv b, iv r] [] := by first | (simp [entryFrame, mkF, argsToLocals, Value.category]; done) | rfl
set_option maxRecDepth 65536 in
set_option maxHeartbeats 40000000 in
theorem own_nextOkM (l : Launch) (Z : State) (a0 : Array Value) (hw : ∀ d ∈ tables_1, d.before a0 Z = true) (a : Addr) (b : Addr) (r : Int32) (n : Addr) (xs nx : List Int32) (h : Heap) (n0 : Nat) (hn0 : Old Z n0 h) (E0 : Exa Z h a "com/example/waymarshal/waymarshal/replay/VacantVehicles") (F2 : Fld Z h a "com/example/waymarshal/waymarshal/replay/VacantVehicles" "next" "[I" (.ref n)) (A2 : La Z h n .int (ia nx)) (A3 : La Z h b .int (ia xs)) (hnx : nx.length = 4) (hl : xs.length = 4) (r0 : 0 ≤ r.toInt) (r1 : r.toInt < 4) :
    Con l Z (⟨"com/example/waymarshal/waymarshal/replay/VacantVehiclesAddPinLaw", "nextOk", "(Lcom/example/waymarshal/waymarshal/replay/VacantVehicles;[II)Z"⟩ : MethodName) method_5_code 3 (some .boolean) ({ frames := 1, cells := 0, slots := 0, locals := 15 } : Room) #[(.ref a), (.ref b), (.int r)] h n0 (fun v h' => v = some (.int (own_nextOk nx xs r)) ∧ h = h') := by
  refine con_of hw (plainFor_of_name pn_com_example_waymarshal_waymarshal_replay_VacantVehiclesAddPinLaw) hn0 ?_
  intro p e s m below meth c T0 C X0
  refine Go.cast (congrArg T0.setTop (ef_own_nextOkM m a b r)) ?_
  refine go_aloadN C X0 1 rfl d9_0 rfl rfl ?_
  refine go_iloadN C X0 2 rfl d9_1 rfl ?_
  refine go_iaload C X0 A3 r0 (v := (.int (at32 xs r))) (ia_at r0 (by omega)) (pc' := 3) rfl d9_2 ?_
  refine go_iconst C X0 4 rfl d9_3 (z := 2) rfl ?_
  refine go_icmp_lt C X0 d9_4 (pc' := 7) (pc2 := 9) rfl (by decide) (by decide) (fun (c4 : (at32 xs r).toInt < 2) => ?_) (fun (c4 : 2 ≤ (at32 xs r).toInt) => ?_)
  · refine go_aloadN C X0 10 rfl d9_9 rfl rfl ?_
    refine go_iloadN C X0 11 rfl d9_10 rfl ?_
    refine go_virtual C X0 E0 (C.w 42 rfl) (C.w 43 rfl) (notFace_of_selects (args := #[]) (mvT C.hZ (C.w 45 rfl))) (C.w 45 rfl) (C.w 44 rfl) (C.w 8 rfl) (C.w 46 rfl) (own_next l Z a0 C.ws a r n nx h n0 X0.old F2 A2 r0 (by omega)) (argsL := [(.int r)]) (rest := []) (lenOf pd_2 rfl) rfl (by decide) (by decide) (Nat.le_of_ble_eq_true rfl) (by decide) (by decide) rfl rfl (pc' := 14) rfl d9_11 ?_
    rintro T1 _ _ ⟨rfl, rfl⟩ X2
    show Go p e below _ (T1.setTop (mkF m 14 #[rv a, rv b, iv r] [(.int (at32 nx r))]))
    refine go_aloadN C X2 15 rfl d9_14 rfl rfl ?_
    refine go_aloadN C X2 16 rfl d9_15 rfl rfl ?_
    refine go_iloadN C X2 17 rfl d9_16 rfl ?_
    refine go_iaload C X2 A3 r0 (v := (.int (at32 xs r))) (ia_at r0 (by omega)) (pc' := 18) rfl d9_17 ?_
    refine go_iloadN C X2 19 rfl d9_18 rfl ?_
    refine go_iconst C X2 20 rfl d9_19 (z := 1) rfl ?_
    refine go_iadd C X2 21 rfl d9_20 ?_
    refine go_callS C X2 (C.w 36 rfl) (C.w 37 rfl) (C.w 4 rfl) (C.w 38 rfl) (own_nextAtM l Z a0 C.ws b (at32 xs r) (r + (1 : Int32)) xs h n0 X2.old A3 hl) (argsL := [(.ref b), (.int (at32 xs r)), (.int (r + (1 : Int32)))]) (rest := [(.int (at32 nx r))]) (lenOf pd_3 rfl) rfl (by decide) (by decide) (Nat.le_of_ble_eq_true rfl) (by decide) (by decide) rfl rfl (pc' := 24) rfl d9_21 ?_
    rintro T4 _ _ ⟨rfl, rfl⟩ X5
    show Go p e below _ (T4.setTop (mkF m 24 #[rv a, rv b, iv r] [(.int (own_nextAt xs (at32 xs r) (r + (1 : Int32)))), (.int (at32 nx r))]))
    refine go_icmp_ne C X5 d9_24 (pc' := 27) (pc2 := 31) rfl (by decide) (by decide) (fun (c24 : ¬ (at32 nx r) = (own_nextAt xs (at32 xs r) (r + (1 : Int32)))) => ?_) (fun (c24 : (at32 nx r) = (own_nextAt xs (at32 xs r) (r + (1 : Int32)))) => ?_)
    · refine go_iconst C X5 32 rfl d9_31 (z := 0) rfl ?_
      exact go_retN C X5 (by simp) (z' := 0) rfl d9_32 ⟨by unfold own_nextOk; rw [if_pos c4, if_neg c24], rfl⟩ (by decide) (by decide)
    · refine go_iconst C X5 28 rfl d9_27 (z := 1) rfl ?_
      refine go_goto C X5 d9_28 (pc' := 32) (by decide) (by decide) ?_
      exact go_retN C X5 (by simp) (z' := 1) rfl d9_32 ⟨by unfold own_nextOk; rw [if_pos c4, if_pos c24], rfl⟩ (by decide) (by decide)
  · refine go_iconst C X0 8 rfl d9_7 (z := 1) rfl ?_
    exact go_retN C X0 (by simp) (z' := 1) rfl d9_8 ⟨by unfold own_nextOk; rw [if_neg (by omega)], rfl⟩ (by decide) (by decide)
def own_ord (s0 s1 s2 : Int32) : List Int32 := own_swap (own_swap (own_swap [0, 1, 2, 3] 0 s0) 1 s1) 2 s2
def own_rok (as : List Int32) (r : Int32) : Bool := decide (0 ≤ r.toInt) && decide (r.toInt < 4) && decide (0 ≤ (at32 as r).toInt)
def own_stp (st : List Int32 × List Int32) (as : List Int32) (r : Int32) (k : List Int32 × List Int32 → Bool) : Bool := own_rok as r && match own_addIf st as r with | none => false | some t => decide (t.1.length = 2) && decide (t.2.length = 4) && k t
def own_end (as : List Int32) (t : List Int32 × List Int32) : Bool := decide (at32 t.1 0 = own_nextAt as 0 0) && decide (at32 t.1 1 = own_nextAt as 1 0) && decide (own_nextOk t.2 as 0 = 1) && decide (own_nextOk t.2 as 1 = 1) && decide (own_nextOk t.2 as 2 = 1) && decide (own_nextOk t.2 as 3 = 1)
def own_chk (o as : List Int32) : Bool := own_stp ([-1, -1], [0, 0, 0, 0]) as (at32 o 0) fun t => own_stp t as (at32 o 1) fun t => own_stp t as (at32 o 2) fun t => own_stp t as (at32 o 3) (own_end as)
theorem own_stp_e {st : List Int32 × List Int32} {as : List Int32} {r : Int32} {k : List Int32 × List Int32 → Bool} (h : own_stp st as r k = true) : (0 ≤ r.toInt ∧ r.toInt < 4 ∧ 0 ≤ (at32 as r).toInt) ∧ ∃ f n, own_addIf st as r = some (f, n) ∧ (f.length = 2 ∧ n.length = 4) ∧ k (f, n) = true := by
  unfold own_stp own_rok at h
  simp only [Bool.and_eq_true, decide_eq_true_eq] at h
  obtain ⟨⟨⟨h1, h2⟩, h3⟩, h4⟩ := h
  refine ⟨⟨h1, h2, h3⟩, ?_⟩
  cases e : own_addIf st as r with
  | none => rw [e] at h4; cases h4
  | some t =>
    rw [e] at h4
    simp only [Bool.and_eq_true, decide_eq_true_eq] at h4
    exact ⟨t.1, t.2, rfl, h4.1, h4.2⟩
set_option maxRecDepth 100000 in
theorem own_all : ([0, 1, 2, 3].all fun s0 => [1, 2, 3].all fun s1 => [2, 3].all fun s2 => [0, 1, 2, 3].all fun a0 => [0, 1, 2, 3].all fun a1 => [0, 1, 2, 3].all fun a2 => [0, 1, 2, 3].all fun a3 => own_chk (own_ord s0 s1 s2) [a0, a1, a2, a3]) = true := by decide +kernel
theorem own_in4 {x : Int32} (h0 : 0 ≤ x.toInt) (h1 : x.toInt < 4) : x ∈ ([0, 1, 2, 3] : List Int32) := by
  have : x = 0 ∨ x = 1 ∨ x = 2 ∨ x = 3 := by
    rcases (by omega : x.toInt = 0 ∨ x.toInt = 1 ∨ x.toInt = 2 ∨ x.toInt = 3) with q | q | q | q
    · exact Or.inl (i_eq q)
    · exact Or.inr (Or.inl (i_eq q))
    · exact Or.inr (Or.inr (Or.inl (i_eq q)))
    · exact Or.inr (Or.inr (Or.inr (i_eq q)))
  rcases this with rfl | rfl | rfl | rfl <;> simp
theorem own_in3 {x : Int32} (h0 : 1 ≤ x.toInt) (h1 : x.toInt < 4) : x ∈ ([1, 2, 3] : List Int32) := by
  have := own_in4 (by omega) h1
  simp only [List.mem_cons, List.not_mem_nil, or_false] at this ⊢
  rcases this with rfl | q
  · exact absurd h0 (by decide)
  · exact q
theorem own_in2 {x : Int32} (h0 : 2 ≤ x.toInt) (h1 : x.toInt < 4) : x ∈ ([2, 3] : List Int32) := by
  have := own_in3 (by omega) h1
  simp only [List.mem_cons, List.not_mem_nil, or_false] at this ⊢
  rcases this with rfl | q
  · exact absurd h0 (by decide)
  · exact q
theorem own_fin {s0 s1 s2 a0 a1 a2 a3 : Int32} (p0 : 0 ≤ s0.toInt) (p1 : s0.toInt < 4) (p2 : 1 ≤ s1.toInt) (p3 : s1.toInt < 4) (p4 : 2 ≤ s2.toInt) (p5 : s2.toInt < 4) (q0 : 0 ≤ a0.toInt ∧ a0.toInt < 4) (q1 : 0 ≤ a1.toInt ∧ a1.toInt < 4) (q2 : 0 ≤ a2.toInt ∧ a2.toInt < 4) (q3 : 0 ≤ a3.toInt ∧ a3.toInt < 4) : own_chk (own_ord s0 s1 s2) [a0, a1, a2, a3] = true := by
  have h := own_all
  simp only [List.all_eq_true] at h
  exact h s0 (own_in4 p0 p1) s1 (own_in3 p2 p3) s2 (own_in2 p4 p5) a0 (own_in4 q0.1 q0.2) a1 (own_in4 q1.1 q1.2) a2 (own_in4 q2.1 q2.2) a3 (own_in4 q3.1 q3.2)
theorem own_m3 (x : Int32) : 0 ≤ (x &&& 3).toInt ∧ (x &&& 3).toInt < 4 := by have := c_mask x 3 2 (by decide) (by decide); omega
theorem pd_4 : parseMethodDescriptor "([III)V" = some ⟨[(.array .int), .int, .int], none⟩ := by decide +kernel
theorem pd_5 : parseMethodDescriptor "(Lcom/example/waymarshal/waymarshal/replay/VacantVehicles;[II)V" = some ⟨[(.object "com/example/waymarshal/waymarshal/replay/VacantVehicles"), (.array .int), .int], none⟩ := by decide +kernel
theorem pd_6 : parseMethodDescriptor "(Lcom/example/waymarshal/waymarshal/replay/VacantVehicles;[II)Z" = some ⟨[(.object "com/example/waymarshal/waymarshal/replay/VacantVehicles"), (.array .int), .int], some .boolean⟩ := by decide +kernel
theorem ef_own_law (m : MethodId) (a : Int32) (b : Int32) : entryFrame m #[(.int a), (.int b)] maxLocals = mkF m 0 #[iv a, iv b, un, un, un, un, un, un, un, un] [] := by first | (simp [entryFrame, mkF, argsToLocals, Value.category, maxLocals]; done) | rfl
set_option maxRecDepth 65536 in
set_option maxHeartbeats 40000000 in
theorem own_law (l : Launch) (Z : State) (a0 : Array Value) (hw : ∀ d ∈ tables_1, d.before a0 Z = true) (a : Int32) (b : Int32)  (h : Heap) (n0 : Nat) (hn0 : Old Z n0 h)  :
    Con l Z x code maxLocals ret room_1 #[(.int a), (.int b)] h n0 (fun v h' => v = some (.int 1)) := by
  refine con_of hw (plainFor_of_name pn_com_example_waymarshal_waymarshal_replay_VacantVehiclesAddPinLaw) hn0 ?_
  intro p e s m below meth c T0 C X0
  refine Go.cast (congrArg T0.setTop (ef_own_law m a b)) ?_
  refine go_iloadN C X0 1 rfl at_0 rfl ?_
  refine go_ldcInt C X0 (C.w 0 rfl) (pc' := 3) rfl at_1 ?_
  refine go_iand C X0 4 rfl at_3 ?_
  refine go_istoreN C X0 5 rfl at_4 #[iv a, iv b, iv (a &&& (2147483647 : Int32)), un, un, un, un, un, un, un] rfl ?_
  refine go_iloadN C X0 6 rfl at_5 rfl ?_
  refine go_iconst C X0 7 rfl at_6 (z := 4) rfl ?_
  refine go_irem C X0 8 rfl at_7 (by decide) ?_
  refine go_istoreN C X0 9 rfl at_8 #[iv a, iv b, iv (a &&& (2147483647 : Int32)), iv ((a &&& (2147483647 : Int32)) % (4 : Int32)), un, un, un, un, un, un] rfl ?_
  refine go_iconst C X0 10 rfl at_9 (z := 1) rfl ?_
  refine go_iloadN C X0 11 rfl at_10 rfl ?_
  refine go_iconst C X0 12 rfl at_11 (z := 4) rfl ?_
  refine go_idiv C X0 13 rfl at_12 (by decide) ?_
  refine go_iconst C X0 14 rfl at_13 (z := 3) rfl ?_
  refine go_irem C X0 15 rfl at_14 (by decide) ?_
  refine go_iadd C X0 16 rfl at_15 ?_
  refine go_istore C X0 18 rfl at_16 #[iv a, iv b, iv (a &&& (2147483647 : Int32)), iv ((a &&& (2147483647 : Int32)) % (4 : Int32)), iv ((1 : Int32) + (((a &&& (2147483647 : Int32)) / (4 : Int32)) % (3 : Int32))), un, un, un, un, un] rfl ?_
  refine go_iconst C X0 19 rfl at_18 (z := 2) rfl ?_
  refine go_iloadN C X0 20 rfl at_19 rfl ?_
  refine go_bipush C X0 22 rfl at_20 (z := 12) rfl ?_
  refine go_idiv C X0 23 rfl at_22 (by decide) ?_
  refine go_iconst C X0 24 rfl at_23 (z := 2) rfl ?_
  refine go_irem C X0 25 rfl at_24 (by decide) ?_
  refine go_iadd C X0 26 rfl at_25 ?_
  refine go_istore C X0 28 rfl at_26 #[iv a, iv b, iv (a &&& (2147483647 : Int32)), iv ((a &&& (2147483647 : Int32)) % (4 : Int32)), iv ((1 : Int32) + (((a &&& (2147483647 : Int32)) / (4 : Int32)) % (3 : Int32))), iv ((2 : Int32) + (((a &&& (2147483647 : Int32)) / (12 : Int32)) % (2 : Int32))), un, un, un, un] rfl ?_
  have k0 : 0 ≤ (a &&& 2147483647).toInt := by have := c_mask a 2147483647 31 (by decide) (by decide); omega
  generalize ekk : (a &&& (2147483647 : Int32)) = kk
  rw [ekk] at k0
  have t0 := i_rem (a := kk) (b := 4) (y := 4) rfl rfl k0
  have t1 := i_rem (b := 3) (y := 3) (i_div (a := kk) (b := 4) (y := 4) rfl rfl k0 (by decide)) rfl (by omega)
  have t2 := i_rem (b := 2) (y := 2) (i_div (a := kk) (b := 12) (y := 12) rfl rfl k0 (by decide)) rfl (by omega)
  have t3 := i_add (a := 1) (x := 1) rfl t1 (by omega) (by omega)
  have t4 := i_add (a := 2) (x := 2) rfl t2 (by omega) (by omega)
  generalize es0 : (kk % (4 : Int32)) = s0
  rw [es0] at t0
  generalize es1 : ((1 : Int32) + ((kk / (4 : Int32)) % (3 : Int32))) = s1
  rw [es1] at t3
  generalize es2 : ((2 : Int32) + ((kk / (12 : Int32)) % (2 : Int32))) = s2
  rw [es2] at t4
  refine go_iconst C X0 29 rfl at_28 (z := 4) rfl ?_
  refine go_newarr C X0 (C.w 1 rfl) (cap := 4) (by decide) (by decide) (by decide) (by decide) (by decide) (pc' := 31) rfl at_29 (fun T1 h3 od ha_od ga_od E4 A5  X2 => ?_)
  replace A5 : La Z h3 od .int ([(.int (0 : Int32)), (.int (0 : Int32)), (.int (0 : Int32)), (.int (0 : Int32))]) := A5
  refine go_dup C X2 32 rfl at_31 rfl ?_
  refine go_iconst C X2 33 rfl at_32 (z := 0) rfl ?_
  refine go_iconst C X2 34 rfl at_33 (z := 0) rfl ?_
  refine go_iastore C X2 A5 (by decide) (by show _ < (4 : Int); decide) ga_od (pc' := 35) rfl at_34 (fun T6 h8 W9 A10 X7 => ?_)
  replace A10 : La Z h8 od .int ([(.int (0 : Int32)), (.int (0 : Int32)), (.int (0 : Int32)), (.int (0 : Int32))]) := A10
  refine go_dup C X7 36 rfl at_35 rfl ?_
  refine go_iconst C X7 37 rfl at_36 (z := 1) rfl ?_
  refine go_iconst C X7 38 rfl at_37 (z := 1) rfl ?_
  refine go_iastore C X7 A10 (by decide) (by show _ < (4 : Int); decide) ga_od (pc' := 39) rfl at_38 (fun T11 h13 W14 A15 X12 => ?_)
  replace A15 : La Z h13 od .int ([(.int (0 : Int32)), (.int (1 : Int32)), (.int (0 : Int32)), (.int (0 : Int32))]) := A15
  refine go_dup C X12 40 rfl at_39 rfl ?_
  refine go_iconst C X12 41 rfl at_40 (z := 2) rfl ?_
  refine go_iconst C X12 42 rfl at_41 (z := 2) rfl ?_
  refine go_iastore C X12 A15 (by decide) (by show _ < (4 : Int); decide) ga_od (pc' := 43) rfl at_42 (fun T16 h18 W19 A20 X17 => ?_)
  replace A20 : La Z h18 od .int ([(.int (0 : Int32)), (.int (1 : Int32)), (.int (2 : Int32)), (.int (0 : Int32))]) := A20
  refine go_dup C X17 44 rfl at_43 rfl ?_
  refine go_iconst C X17 45 rfl at_44 (z := 3) rfl ?_
  refine go_iconst C X17 46 rfl at_45 (z := 3) rfl ?_
  refine go_iastore C X17 A20 (by decide) (by show _ < (4 : Int); decide) ga_od (pc' := 47) rfl at_46 (fun T21 h23 W24 A25 X22 => ?_)
  replace A25 : La Z h23 od .int ([(.int (0 : Int32)), (.int (1 : Int32)), (.int (2 : Int32)), (.int (3 : Int32))]) := A25
  refine go_astore C X22 49 rfl at_47 rfl #[iv a, iv b, iv kk, iv s0, iv s1, iv s2, rv od, un, un, un] rfl ?_
  refine go_aload C X22 51 rfl at_49 rfl rfl ?_
  refine go_iconst C X22 52 rfl at_51 (z := 0) rfl ?_
  refine go_iloadN C X22 53 rfl at_52 rfl ?_
  refine go_callS C X22 (C.w 2 rfl) (C.w 3 rfl) (C.w 4 rfl) (C.w 5 rfl) (own_swapM l Z a0 C.ws od (0 : Int32) s0 [0, 1, 2, 3] h23 n0 X22.old A25 ga_od (by decide) (by decide) (by omega) (by show _ < (4 : Int); omega)) (argsL := [(.ref od), (.int (0 : Int32)), (.int s0)]) (rest := []) (lenOf pd_4 rfl) rfl (by decide) (by decide) (Nat.le_of_ble_eq_true rfl) (by decide) (by decide) rfl rfl (pc' := 56) rfl at_53 ?_
  rintro T26 h28 _ ⟨rfl, K1056, A1056⟩ X27
  show Go p e below _ (T26.setTop (mkF m 56 #[iv a, iv b, iv kk, iv s0, iv s1, iv s2, rv od, un, un, un] []))
  refine go_aload C X27 58 rfl at_56 rfl rfl ?_
  refine go_iconst C X27 59 rfl at_58 (z := 1) rfl ?_
  refine go_iload C X27 61 rfl at_59 rfl ?_
  have LS1 : (own_swap [0, 1, 2, 3] 0 s0).length = 4 := by simp [own_swap, put32_len]
  refine go_callS C X27 (C.w 2 rfl) (C.w 3 rfl) (C.w 4 rfl) (C.w 5 rfl) (own_swapM l Z a0 C.ws od (1 : Int32) s1 (own_swap [0, 1, 2, 3] (0 : Int32) s0) h28 n0 X27.old A1056 ga_od (by decide) (by rw [LS1]; decide) (by omega) (by rw [LS1]; omega)) (argsL := [(.ref od), (.int (1 : Int32)), (.int s1)]) (rest := []) (lenOf pd_4 rfl) rfl (by decide) (by decide) (Nat.le_of_ble_eq_true rfl) (by decide) (by decide) rfl rfl (pc' := 64) rfl at_61 ?_
  rintro T29 h31 _ ⟨rfl, K1064, A1064⟩ X30
  show Go p e below _ (T29.setTop (mkF m 64 #[iv a, iv b, iv kk, iv s0, iv s1, iv s2, rv od, un, un, un] []))
  refine go_aload C X30 66 rfl at_64 rfl rfl ?_
  refine go_iconst C X30 67 rfl at_66 (z := 2) rfl ?_
  refine go_iload C X30 69 rfl at_67 rfl ?_
  have LS2 : (own_swap (own_swap [0, 1, 2, 3] 0 s0) 1 s1).length = 4 := by simp [own_swap, put32_len]
  refine go_callS C X30 (C.w 2 rfl) (C.w 3 rfl) (C.w 4 rfl) (C.w 5 rfl) (own_swapM l Z a0 C.ws od (2 : Int32) s2 (own_swap (own_swap [0, 1, 2, 3] (0 : Int32) s0) (1 : Int32) s1) h31 n0 X30.old A1064 ga_od (by decide) (by rw [LS2]; decide) (by omega) (by rw [LS2]; omega)) (argsL := [(.ref od), (.int (2 : Int32)), (.int s2)]) (rest := []) (lenOf pd_4 rfl) rfl (by decide) (by decide) (Nat.le_of_ble_eq_true rfl) (by decide) (by decide) rfl rfl (pc' := 72) rfl at_69 ?_
  rintro T32 h34 _ ⟨rfl, K1072, A1072⟩ X33
  show Go p e below _ (T32.setTop (mkF m 72 #[iv a, iv b, iv kk, iv s0, iv s1, iv s2, rv od, un, un, un] []))
  refine go_iconst C X33 73 rfl at_72 (z := 4) rfl ?_
  refine go_newarr C X33 (C.w 1 rfl) (cap := 4) (by decide) (by decide) (by decide) (by decide) (by decide) (pc' := 75) rfl at_73 (fun T35 h37 av ha_av ga_av E38 A39  X36 => ?_)
  have ne_od_av : od ≠ av := Nat.ne_of_lt (Nat.lt_of_lt_of_le A1072.lt (Nat.le_of_eq ha_av.symm))
  have A40 := A1072.ext E38
  replace A39 : La Z h37 av .int ([(.int (0 : Int32)), (.int (0 : Int32)), (.int (0 : Int32)), (.int (0 : Int32))]) := A39
  refine go_astore C X36 77 rfl at_75 rfl #[iv a, iv b, iv kk, iv s0, iv s1, iv s2, rv od, rv av, un, un] rfl ?_
  refine go_aload C X36 79 rfl at_77 rfl rfl ?_
  refine go_iconst C X36 80 rfl at_79 (z := 0) rfl ?_
  refine go_iloadN C X36 81 rfl at_80 rfl ?_
  refine go_iconst C X36 82 rfl at_81 (z := 3) rfl ?_
  refine go_iand C X36 83 rfl at_82 ?_
  refine go_iastore C X36 A39 (by decide) (by show _ < (4 : Int); decide) ga_av (pc' := 84) rfl at_83 (fun T41 h43 W44 A45 X42 => ?_)
  have A46 := A40.other W44 ne_od_av
  replace A45 : La Z h43 av .int ([(.int (b &&& (3 : Int32))), (.int (0 : Int32)), (.int (0 : Int32)), (.int (0 : Int32))]) := A45
  refine go_aload C X42 86 rfl at_84 rfl rfl ?_
  refine go_iconst C X42 87 rfl at_86 (z := 1) rfl ?_
  refine go_iloadN C X42 88 rfl at_87 rfl ?_
  refine go_iconst C X42 89 rfl at_88 (z := 2) rfl ?_
  refine go_ishr C X42 90 rfl at_89 ?_
  refine go_iconst C X42 91 rfl at_90 (z := 3) rfl ?_
  refine go_iand C X42 92 rfl at_91 ?_
  refine go_iastore C X42 A45 (by decide) (by show _ < (4 : Int); decide) ga_av (pc' := 93) rfl at_92 (fun T47 h49 W50 A51 X48 => ?_)
  have A52 := A46.other W50 ne_od_av
  replace A51 : La Z h49 av .int ([(.int (b &&& (3 : Int32))), (.int ((b >>> ((2 : Int32) &&& 31)) &&& (3 : Int32))), (.int (0 : Int32)), (.int (0 : Int32))]) := A51
  refine go_aload C X48 95 rfl at_93 rfl rfl ?_
  refine go_iconst C X48 96 rfl at_95 (z := 2) rfl ?_
  refine go_iloadN C X48 97 rfl at_96 rfl ?_
  refine go_iconst C X48 98 rfl at_97 (z := 4) rfl ?_
  refine go_ishr C X48 99 rfl at_98 ?_
  refine go_iconst C X48 100 rfl at_99 (z := 3) rfl ?_
  refine go_iand C X48 101 rfl at_100 ?_
  refine go_iastore C X48 A51 (by decide) (by show _ < (4 : Int); decide) ga_av (pc' := 102) rfl at_101 (fun T53 h55 W56 A57 X54 => ?_)
  have A58 := A52.other W56 ne_od_av
  replace A57 : La Z h55 av .int ([(.int (b &&& (3 : Int32))), (.int ((b >>> ((2 : Int32) &&& 31)) &&& (3 : Int32))), (.int ((b >>> ((4 : Int32) &&& 31)) &&& (3 : Int32))), (.int (0 : Int32))]) := A57
  refine go_aload C X54 104 rfl at_102 rfl rfl ?_
  refine go_iconst C X54 105 rfl at_104 (z := 3) rfl ?_
  refine go_iloadN C X54 106 rfl at_105 rfl ?_
  refine go_bipush C X54 108 rfl at_106 (z := 6) rfl ?_
  refine go_ishr C X54 109 rfl at_108 ?_
  refine go_iconst C X54 110 rfl at_109 (z := 3) rfl ?_
  refine go_iand C X54 111 rfl at_110 ?_
  refine go_iastore C X54 A57 (by decide) (by show _ < (4 : Int); decide) ga_av (pc' := 112) rfl at_111 (fun T59 h61 W62 A63 X60 => ?_)
  have A64 := A58.other W62 ne_od_av
  replace A63 : La Z h61 av .int ([(.int (b &&& (3 : Int32))), (.int ((b >>> ((2 : Int32) &&& 31)) &&& (3 : Int32))), (.int ((b >>> ((4 : Int32) &&& 31)) &&& (3 : Int32))), (.int ((b >>> ((6 : Int32) &&& 31)) &&& (3 : Int32)))]) := A63
  have m0 := own_m3 b
  have m1 := own_m3 (b >>> ((2 : Int32) &&& 31))
  have m2 := own_m3 (b >>> ((4 : Int32) &&& 31))
  have m3 := own_m3 (b >>> ((6 : Int32) &&& 31))
  generalize ez0 : (b &&& (3 : Int32)) = z0 at *
  generalize ez1 : ((b >>> ((2 : Int32) &&& 31)) &&& (3 : Int32)) = z1 at *
  generalize ez2 : ((b >>> ((4 : Int32) &&& 31)) &&& (3 : Int32)) = z2 at *
  generalize ez3 : ((b >>> ((6 : Int32) &&& 31)) &&& (3 : Int32)) = z3 at *
  have Hc := own_fin (by omega) (by omega) (by omega) (by omega) (by omega) (by omega) m0 m1 m2 m3 (s0 := s0) (s1 := s1) (s2 := s2)
  unfold own_chk at Hc
  obtain ⟨R0, fi1, nx1, H0, l1, Hc⟩ := own_stp_e Hc
  obtain ⟨R1, fi2, nx2, H1, l2, Hc⟩ := own_stp_e Hc
  obtain ⟨R2, fi3, nx3, H2, l3, Hc⟩ := own_stp_e Hc
  obtain ⟨R3, fi4, nx4, H3, l4, Hc⟩ := own_stp_e Hc
  simp only [own_end, Bool.and_eq_true, decide_eq_true_eq] at Hc
  obtain ⟨⟨⟨⟨⟨V0, V1⟩, V2⟩, V3⟩, V4⟩, V5⟩ := Hc
  refine go_new C X60 (C.w 6 rfl) (C.w 7 rfl) (C.w 8 rfl) (by decide) (by decide) (pc' := 115) rfl at_112 (fun T65 h67 vv ha_vv ga_vv E68 E69 D70 X66 => ?_)
  have ne_od_vv : od ≠ vv := Nat.ne_of_lt (Nat.lt_of_lt_of_le A64.lt (Nat.le_of_eq ha_vv.symm))
  have ne_av_vv : av ≠ vv := Nat.ne_of_lt (Nat.lt_of_lt_of_le A63.lt (Nat.le_of_eq ha_vv.symm))
  have A71 := A64.ext E68
  have A72 := A63.ext E68
  have F73 : Fld Z h67 vv "com/example/waymarshal/waymarshal/replay/VacantVehicles" "first" "[I" .null := D70 (Or.inr (C.w 16 rfl)) (ty := (.array .int)) (by decide)
  have F74 : Fld Z h67 vv "com/example/waymarshal/waymarshal/replay/VacantVehicles" "next" "[I" .null := D70 (Or.inr (C.w 18 rfl)) (ty := (.array .int)) (by decide)
  refine go_dup C X66 116 rfl at_115 rfl ?_
  refine go_iconst C X66 117 rfl at_116 (z := 2) rfl ?_
  refine go_iconst C X66 118 rfl at_117 (z := 4) rfl ?_
  have hsz_118 := X66.sz
  have lt_od_118 := A71.lt
  have lt_av_118 := A72.lt
  have lt_vv_118 := E69.lt
  refine go_special C X66 (C.w 9 rfl) (C.w 10 rfl) (C.w 8 rfl) (C.w 11 rfl) rfl (own_init l Z a0 C.ws vv h67 n0 X66.old E69 F73 F74 ga_vv) (argsL := [(.int (2 : Int32)), (.int (4 : Int32))]) (rest := [(.ref vv)]) (lenOf pd_1 rfl) rfl (by decide) (by decide) (Nat.le_of_ble_eq_true rfl) (by decide) (by decide) rfl rfl (pc' := 121) rfl at_118 ?_
  rintro T75 h77 _ ⟨rfl, f, n, K9, E9, F8, F9, A8, A9, sz9f, sz9n, ne_f_n⟩ X76
  show Go p e below _ (T75.setTop (mkF m 121 #[iv a, iv b, iv kk, iv s0, iv s1, iv s2, rv od, rv av, un, un] [(.ref vv)]))
  have ne_od_f : od ≠ f := Nat.ne_of_lt (Nat.lt_of_lt_of_le lt_od_118 sz9f)
  have ne_av_f : av ≠ f := Nat.ne_of_lt (Nat.lt_of_lt_of_le lt_av_118 sz9f)
  have ne_vv_f : vv ≠ f := Nat.ne_of_lt (Nat.lt_of_lt_of_le lt_vv_118 sz9f)
  have ga_f : n0 ≤ f := Nat.le_trans hsz_118 sz9f
  have ne_od_n : od ≠ n := Nat.ne_of_lt (Nat.lt_of_lt_of_le lt_od_118 sz9n)
  have ne_av_n : av ≠ n := Nat.ne_of_lt (Nat.lt_of_lt_of_le lt_av_118 sz9n)
  have ne_vv_n : vv ≠ n := Nat.ne_of_lt (Nat.lt_of_lt_of_le lt_vv_118 sz9n)
  have ga_n : n0 ≤ n := Nat.le_trans hsz_118 sz9n
  have A78 := A71.keep K9 (ninS ne_od_vv nin0)
  have A79 := A72.keep K9 (ninS ne_av_vv nin0)
  have E80 := E69.keep K9
  refine go_astore C X76 123 rfl at_121 rfl #[iv a, iv b, iv kk, iv s0, iv s1, iv s2, rv od, rv av, rv vv, un] rfl ?_
  obtain ⟨fi0, efi0⟩ : ∃ q : List Int32, q = [-1, -1] := ⟨_, rfl⟩
  obtain ⟨nx0, enx0⟩ : ∃ q : List Int32, q = [0, 0, 0, 0] := ⟨_, rfl⟩
  have l0 : fi0.length = 2 ∧ nx0.length = 4 := by subst efi0; subst enx0; decide
  rw [← efi0, ← enx0] at H0
  rw [← efi0] at A8
  rw [← enx0] at A9
  have L4 : (own_ord s0 s1 s2).length = 4 := by simp [own_ord, own_swap, put32_len]
  refine go_aload C X76 125 rfl at_123 rfl rfl ?_
  refine go_aload C X76 127 rfl at_125 rfl rfl ?_
  refine go_aload C X76 129 rfl at_127 rfl rfl ?_
  refine go_iconst C X76 130 rfl at_129 (z := 0) rfl ?_
  refine go_iaload C X76 A78 (by decide) (v := (.int (at32 (own_swap (own_swap (own_swap [0, 1, 2, 3] (0 : Int32) s0) (1 : Int32) s1) (2 : Int32) s2) (0 : Int32)))) (ia_at (by decide) (by show _ < ((own_ord s0 s1 s2).length : Int); rw [L4]; decide)) (pc' := 131) rfl at_130 ?_
  refine go_callS C X76 (C.w 23 rfl) (C.w 24 rfl) (C.w 4 rfl) (C.w 25 rfl) (own_addIfM l Z a0 C.ws vv av (at32 (own_swap (own_swap (own_swap [0, 1, 2, 3] (0 : Int32) s0) (1 : Int32) s1) (2 : Int32) s2) (0 : Int32)) f n [z0, z1, z2, z3] fi0 nx0 fi1 nx1 h77 n0 X76.old E9 F8 F9 A8 A9 A79 ne_f_n ne_vv_f ne_vv_n ne_av_f ne_av_n ga_f ga_n l0.1 l0.2 rfl R0.1 R0.2.1 R0.2.2 H0) (argsL := [(.ref vv), (.ref av), (.int (at32 (own_swap (own_swap (own_swap [0, 1, 2, 3] (0 : Int32) s0) (1 : Int32) s1) (2 : Int32) s2) (0 : Int32)))]) (rest := []) (lenOf pd_5 rfl) rfl (by decide) (by decide) (Nat.le_of_ble_eq_true rfl) (by decide) (by decide) rfl rfl (pc' := 134) rfl at_131 ?_
  rintro T81 h83 _ ⟨rfl, K1134, B1134, A1134⟩ X82
  show Go p e below _ (T81.setTop (mkF m 134 #[iv a, iv b, iv kk, iv s0, iv s1, iv s2, rv od, rv av, rv vv, un] []))
  have A84 := A78.keep K1134 (ninS ne_od_f (ninS ne_od_n nin0))
  have A85 := A79.keep K1134 (ninS ne_av_f (ninS ne_av_n nin0))
  have E86 := E9.keep K1134
  have F87 := F8.keep K1134 (ninS ne_vv_f (ninS ne_vv_n nin0))
  have F88 := F9.keep K1134 (ninS ne_vv_f (ninS ne_vv_n nin0))
  refine go_aload C X82 136 rfl at_134 rfl rfl ?_
  refine go_aload C X82 138 rfl at_136 rfl rfl ?_
  refine go_aload C X82 140 rfl at_138 rfl rfl ?_
  refine go_iconst C X82 141 rfl at_140 (z := 1) rfl ?_
  refine go_iaload C X82 A84 (by decide) (v := (.int (at32 (own_swap (own_swap (own_swap [0, 1, 2, 3] (0 : Int32) s0) (1 : Int32) s1) (2 : Int32) s2) (1 : Int32)))) (ia_at (by decide) (by show _ < ((own_ord s0 s1 s2).length : Int); rw [L4]; decide)) (pc' := 142) rfl at_141 ?_
  refine go_callS C X82 (C.w 23 rfl) (C.w 24 rfl) (C.w 4 rfl) (C.w 25 rfl) (own_addIfM l Z a0 C.ws vv av (at32 (own_swap (own_swap (own_swap [0, 1, 2, 3] (0 : Int32) s0) (1 : Int32) s1) (2 : Int32) s2) (1 : Int32)) f n [z0, z1, z2, z3] fi1 nx1 fi2 nx2 h83 n0 X82.old E86 F87 F88 B1134 A1134 A85 ne_f_n ne_vv_f ne_vv_n ne_av_f ne_av_n ga_f ga_n l1.1 l1.2 rfl R1.1 R1.2.1 R1.2.2 H1) (argsL := [(.ref vv), (.ref av), (.int (at32 (own_swap (own_swap (own_swap [0, 1, 2, 3] (0 : Int32) s0) (1 : Int32) s1) (2 : Int32) s2) (1 : Int32)))]) (rest := []) (lenOf pd_5 rfl) rfl (by decide) (by decide) (Nat.le_of_ble_eq_true rfl) (by decide) (by decide) rfl rfl (pc' := 145) rfl at_142 ?_
  rintro T89 h91 _ ⟨rfl, K1145, B1145, A1145⟩ X90
  show Go p e below _ (T89.setTop (mkF m 145 #[iv a, iv b, iv kk, iv s0, iv s1, iv s2, rv od, rv av, rv vv, un] []))
  have A92 := A84.keep K1145 (ninS ne_od_f (ninS ne_od_n nin0))
  have A93 := A85.keep K1145 (ninS ne_av_f (ninS ne_av_n nin0))
  have E94 := E86.keep K1145
  have F95 := F87.keep K1145 (ninS ne_vv_f (ninS ne_vv_n nin0))
  have F96 := F88.keep K1145 (ninS ne_vv_f (ninS ne_vv_n nin0))
  refine go_aload C X90 147 rfl at_145 rfl rfl ?_
  refine go_aload C X90 149 rfl at_147 rfl rfl ?_
  refine go_aload C X90 151 rfl at_149 rfl rfl ?_
  refine go_iconst C X90 152 rfl at_151 (z := 2) rfl ?_
  refine go_iaload C X90 A92 (by decide) (v := (.int (at32 (own_swap (own_swap (own_swap [0, 1, 2, 3] (0 : Int32) s0) (1 : Int32) s1) (2 : Int32) s2) (2 : Int32)))) (ia_at (by decide) (by show _ < ((own_ord s0 s1 s2).length : Int); rw [L4]; decide)) (pc' := 153) rfl at_152 ?_
  refine go_callS C X90 (C.w 23 rfl) (C.w 24 rfl) (C.w 4 rfl) (C.w 25 rfl) (own_addIfM l Z a0 C.ws vv av (at32 (own_swap (own_swap (own_swap [0, 1, 2, 3] (0 : Int32) s0) (1 : Int32) s1) (2 : Int32) s2) (2 : Int32)) f n [z0, z1, z2, z3] fi2 nx2 fi3 nx3 h91 n0 X90.old E94 F95 F96 B1145 A1145 A93 ne_f_n ne_vv_f ne_vv_n ne_av_f ne_av_n ga_f ga_n l2.1 l2.2 rfl R2.1 R2.2.1 R2.2.2 H2) (argsL := [(.ref vv), (.ref av), (.int (at32 (own_swap (own_swap (own_swap [0, 1, 2, 3] (0 : Int32) s0) (1 : Int32) s1) (2 : Int32) s2) (2 : Int32)))]) (rest := []) (lenOf pd_5 rfl) rfl (by decide) (by decide) (Nat.le_of_ble_eq_true rfl) (by decide) (by decide) rfl rfl (pc' := 156) rfl at_153 ?_
  rintro T97 h99 _ ⟨rfl, K1156, B1156, A1156⟩ X98
  show Go p e below _ (T97.setTop (mkF m 156 #[iv a, iv b, iv kk, iv s0, iv s1, iv s2, rv od, rv av, rv vv, un] []))
  have A100 := A92.keep K1156 (ninS ne_od_f (ninS ne_od_n nin0))
  have A101 := A93.keep K1156 (ninS ne_av_f (ninS ne_av_n nin0))
  have E102 := E94.keep K1156
  have F103 := F95.keep K1156 (ninS ne_vv_f (ninS ne_vv_n nin0))
  have F104 := F96.keep K1156 (ninS ne_vv_f (ninS ne_vv_n nin0))
  refine go_aload C X98 158 rfl at_156 rfl rfl ?_
  refine go_aload C X98 160 rfl at_158 rfl rfl ?_
  refine go_aload C X98 162 rfl at_160 rfl rfl ?_
  refine go_iconst C X98 163 rfl at_162 (z := 3) rfl ?_
  refine go_iaload C X98 A100 (by decide) (v := (.int (at32 (own_swap (own_swap (own_swap [0, 1, 2, 3] (0 : Int32) s0) (1 : Int32) s1) (2 : Int32) s2) (3 : Int32)))) (ia_at (by decide) (by show _ < ((own_ord s0 s1 s2).length : Int); rw [L4]; decide)) (pc' := 164) rfl at_163 ?_
  refine go_callS C X98 (C.w 23 rfl) (C.w 24 rfl) (C.w 4 rfl) (C.w 25 rfl) (own_addIfM l Z a0 C.ws vv av (at32 (own_swap (own_swap (own_swap [0, 1, 2, 3] (0 : Int32) s0) (1 : Int32) s1) (2 : Int32) s2) (3 : Int32)) f n [z0, z1, z2, z3] fi3 nx3 fi4 nx4 h99 n0 X98.old E102 F103 F104 B1156 A1156 A101 ne_f_n ne_vv_f ne_vv_n ne_av_f ne_av_n ga_f ga_n l3.1 l3.2 rfl R3.1 R3.2.1 R3.2.2 H3) (argsL := [(.ref vv), (.ref av), (.int (at32 (own_swap (own_swap (own_swap [0, 1, 2, 3] (0 : Int32) s0) (1 : Int32) s1) (2 : Int32) s2) (3 : Int32)))]) (rest := []) (lenOf pd_5 rfl) rfl (by decide) (by decide) (Nat.le_of_ble_eq_true rfl) (by decide) (by decide) rfl rfl (pc' := 167) rfl at_164 ?_
  rintro T105 h107 _ ⟨rfl, K1167, B1167, A1167⟩ X106
  show Go p e below _ (T105.setTop (mkF m 167 #[iv a, iv b, iv kk, iv s0, iv s1, iv s2, rv od, rv av, rv vv, un] []))
  have A108 := A100.keep K1167 (ninS ne_od_f (ninS ne_od_n nin0))
  have A109 := A101.keep K1167 (ninS ne_av_f (ninS ne_av_n nin0))
  have E110 := E102.keep K1167
  have F111 := F103.keep K1167 (ninS ne_vv_f (ninS ne_vv_n nin0))
  have F112 := F104.keep K1167 (ninS ne_vv_f (ninS ne_vv_n nin0))
  refine go_aload C X106 169 rfl at_167 rfl rfl ?_
  refine go_iconst C X106 170 rfl at_169 (z := 0) rfl ?_
  refine go_virtual C X106 E110 (C.w 31 rfl) (C.w 32 rfl) (notFace_of_selects (args := #[]) (mvT C.hZ (C.w 34 rfl))) (C.w 34 rfl) (C.w 33 rfl) (C.w 8 rfl) (C.w 35 rfl) (own_first l Z a0 C.ws vv (0 : Int32) f fi4 h107 n0 X106.old F111 B1167 (by decide) (by rw [l4.1]; decide)) (argsL := [(.int (0 : Int32))]) (rest := []) (lenOf pd_2 rfl) rfl (by decide) (by decide) (Nat.le_of_ble_eq_true rfl) (by decide) (by decide) rfl rfl (pc' := 173) rfl at_170 ?_
  rintro T113 _ _ ⟨rfl, rfl⟩ X114
  show Go p e below _ (T113.setTop (mkF m 173 #[iv a, iv b, iv kk, iv s0, iv s1, iv s2, rv od, rv av, rv vv, un] [(.int (at32 fi4 (0 : Int32)))]))
  refine go_aload C X114 175 rfl at_173 rfl rfl ?_
  refine go_iconst C X114 176 rfl at_175 (z := 0) rfl ?_
  refine go_iconst C X114 177 rfl at_176 (z := 0) rfl ?_
  refine go_callS C X114 (C.w 36 rfl) (C.w 37 rfl) (C.w 4 rfl) (C.w 38 rfl) (own_nextAtM l Z a0 C.ws av (0 : Int32) (0 : Int32) [z0, z1, z2, z3] h107 n0 X114.old A109 rfl) (argsL := [(.ref av), (.int (0 : Int32)), (.int (0 : Int32))]) (rest := [(.int (at32 fi4 (0 : Int32)))]) (lenOf pd_3 rfl) rfl (by decide) (by decide) (Nat.le_of_ble_eq_true rfl) (by decide) (by decide) rfl rfl (pc' := 180) rfl at_177 ?_
  rintro T116 _ _ ⟨rfl, rfl⟩ X117
  show Go p e below _ (T116.setTop (mkF m 180 #[iv a, iv b, iv kk, iv s0, iv s1, iv s2, rv od, rv av, rv vv, un] [(.int (own_nextAt [z0, z1, z2, z3] (0 : Int32) (0 : Int32))), (.int (at32 fi4 (0 : Int32)))]))
  refine go_icmp_ne C X117 at_180 (pc' := 183) (pc2 := 203) rfl (by decide) (by decide) (fun (c180 : ¬ (at32 fi4 (0 : Int32)) = (own_nextAt [z0, z1, z2, z3] (0 : Int32) (0 : Int32))) => False.elim (c180 V0)) (fun (c180 : (at32 fi4 (0 : Int32)) = (own_nextAt [z0, z1, z2, z3] (0 : Int32) (0 : Int32))) => ?_)
  refine go_aload C X117 185 rfl at_183 rfl rfl ?_
  refine go_iconst C X117 186 rfl at_185 (z := 1) rfl ?_
  refine go_virtual C X117 E110 (C.w 31 rfl) (C.w 32 rfl) (notFace_of_selects (args := #[]) (mvT C.hZ (C.w 34 rfl))) (C.w 34 rfl) (C.w 33 rfl) (C.w 8 rfl) (C.w 35 rfl) (own_first l Z a0 C.ws vv (1 : Int32) f fi4 h107 n0 X117.old F111 B1167 (by decide) (by rw [l4.1]; decide)) (argsL := [(.int (1 : Int32))]) (rest := []) (lenOf pd_2 rfl) rfl (by decide) (by decide) (Nat.le_of_ble_eq_true rfl) (by decide) (by decide) rfl rfl (pc' := 189) rfl at_186 ?_
  rintro T119 _ _ ⟨rfl, rfl⟩ X120
  show Go p e below _ (T119.setTop (mkF m 189 #[iv a, iv b, iv kk, iv s0, iv s1, iv s2, rv od, rv av, rv vv, un] [(.int (at32 fi4 (1 : Int32)))]))
  refine go_aload C X120 191 rfl at_189 rfl rfl ?_
  refine go_iconst C X120 192 rfl at_191 (z := 1) rfl ?_
  refine go_iconst C X120 193 rfl at_192 (z := 0) rfl ?_
  refine go_callS C X120 (C.w 36 rfl) (C.w 37 rfl) (C.w 4 rfl) (C.w 38 rfl) (own_nextAtM l Z a0 C.ws av (1 : Int32) (0 : Int32) [z0, z1, z2, z3] h107 n0 X120.old A109 rfl) (argsL := [(.ref av), (.int (1 : Int32)), (.int (0 : Int32))]) (rest := [(.int (at32 fi4 (1 : Int32)))]) (lenOf pd_3 rfl) rfl (by decide) (by decide) (Nat.le_of_ble_eq_true rfl) (by decide) (by decide) rfl rfl (pc' := 196) rfl at_193 ?_
  rintro T122 _ _ ⟨rfl, rfl⟩ X123
  show Go p e below _ (T122.setTop (mkF m 196 #[iv a, iv b, iv kk, iv s0, iv s1, iv s2, rv od, rv av, rv vv, un] [(.int (own_nextAt [z0, z1, z2, z3] (1 : Int32) (0 : Int32))), (.int (at32 fi4 (1 : Int32)))]))
  refine go_icmp_ne C X123 at_196 (pc' := 199) (pc2 := 203) rfl (by decide) (by decide) (fun (c196 : ¬ (at32 fi4 (1 : Int32)) = (own_nextAt [z0, z1, z2, z3] (1 : Int32) (0 : Int32))) => False.elim (c196 V1)) (fun (c196 : (at32 fi4 (1 : Int32)) = (own_nextAt [z0, z1, z2, z3] (1 : Int32) (0 : Int32))) => ?_)
  refine go_iconst C X123 200 rfl at_199 (z := 1) rfl ?_
  refine go_goto C X123 at_200 (pc' := 204) (by decide) (by decide) ?_
  refine go_istore C X123 206 rfl at_204 #[iv a, iv b, iv kk, iv s0, iv s1, iv s2, rv od, rv av, rv vv, iv (1 : Int32)] rfl ?_
  refine go_iload C X123 208 rfl at_206 rfl ?_
  refine go_if_eq C X123 at_208 (pc' := 211) (pc2 := 226) rfl (by decide) (by decide) (fun (c208 : (1 : Int32) = (0 : Int32)) => False.elim (by first | omega | exact absurd c208 (by decide))) (fun (c208 : ¬ (1 : Int32) = (0 : Int32)) => ?_)
  refine go_aload C X123 213 rfl at_211 rfl rfl ?_
  refine go_aload C X123 215 rfl at_213 rfl rfl ?_
  refine go_iconst C X123 216 rfl at_215 (z := 0) rfl ?_
  refine go_callS C X123 (C.w 39 rfl) (C.w 40 rfl) (C.w 4 rfl) (C.w 41 rfl) (own_nextOkM l Z a0 C.ws vv av (0 : Int32) n [z0, z1, z2, z3] nx4 h107 n0 X123.old E110 F112 A1167 A109 l4.2 rfl (by decide) (by decide)) (argsL := [(.ref vv), (.ref av), (.int (0 : Int32))]) (rest := []) (lenOf pd_6 rfl) rfl (by decide) (by decide) (Nat.le_of_ble_eq_true rfl) (by decide) (by decide) rfl rfl (pc' := 219) rfl at_216 ?_
  rintro T125 _ _ ⟨rfl, rfl⟩ X126
  show Go p e below _ (T125.setTop (mkF m 219 #[iv a, iv b, iv kk, iv s0, iv s1, iv s2, rv od, rv av, rv vv, iv (1 : Int32)] [(.int (own_nextOk nx4 [z0, z1, z2, z3] (0 : Int32)))]))
  refine go_if_eq C X126 at_219 (pc' := 222) (pc2 := 226) rfl (by decide) (by decide) (fun (c219 : (own_nextOk nx4 [z0, z1, z2, z3] (0 : Int32)) = (0 : Int32)) => False.elim (absurd (V2.symm.trans c219) (by decide))) (fun (c219 : ¬ (own_nextOk nx4 [z0, z1, z2, z3] (0 : Int32)) = (0 : Int32)) => ?_)
  refine go_iconst C X126 223 rfl at_222 (z := 1) rfl ?_
  refine go_goto C X126 at_223 (pc' := 227) (by decide) (by decide) ?_
  refine go_istore C X126 229 rfl at_227 #[iv a, iv b, iv kk, iv s0, iv s1, iv s2, rv od, rv av, rv vv, iv (1 : Int32)] rfl ?_
  refine go_iload C X126 231 rfl at_229 rfl ?_
  refine go_if_eq C X126 at_231 (pc' := 234) (pc2 := 249) rfl (by decide) (by decide) (fun (c231 : (1 : Int32) = (0 : Int32)) => False.elim (by first | omega | exact absurd c231 (by decide))) (fun (c231 : ¬ (1 : Int32) = (0 : Int32)) => ?_)
  refine go_aload C X126 236 rfl at_234 rfl rfl ?_
  refine go_aload C X126 238 rfl at_236 rfl rfl ?_
  refine go_iconst C X126 239 rfl at_238 (z := 1) rfl ?_
  refine go_callS C X126 (C.w 39 rfl) (C.w 40 rfl) (C.w 4 rfl) (C.w 41 rfl) (own_nextOkM l Z a0 C.ws vv av (1 : Int32) n [z0, z1, z2, z3] nx4 h107 n0 X126.old E110 F112 A1167 A109 l4.2 rfl (by decide) (by decide)) (argsL := [(.ref vv), (.ref av), (.int (1 : Int32))]) (rest := []) (lenOf pd_6 rfl) rfl (by decide) (by decide) (Nat.le_of_ble_eq_true rfl) (by decide) (by decide) rfl rfl (pc' := 242) rfl at_239 ?_
  rintro T128 _ _ ⟨rfl, rfl⟩ X129
  show Go p e below _ (T128.setTop (mkF m 242 #[iv a, iv b, iv kk, iv s0, iv s1, iv s2, rv od, rv av, rv vv, iv (1 : Int32)] [(.int (own_nextOk nx4 [z0, z1, z2, z3] (1 : Int32)))]))
  refine go_if_eq C X129 at_242 (pc' := 245) (pc2 := 249) rfl (by decide) (by decide) (fun (c242 : (own_nextOk nx4 [z0, z1, z2, z3] (1 : Int32)) = (0 : Int32)) => False.elim (absurd (V3.symm.trans c242) (by decide))) (fun (c242 : ¬ (own_nextOk nx4 [z0, z1, z2, z3] (1 : Int32)) = (0 : Int32)) => ?_)
  refine go_iconst C X129 246 rfl at_245 (z := 1) rfl ?_
  refine go_goto C X129 at_246 (pc' := 250) (by decide) (by decide) ?_
  refine go_istore C X129 252 rfl at_250 #[iv a, iv b, iv kk, iv s0, iv s1, iv s2, rv od, rv av, rv vv, iv (1 : Int32)] rfl ?_
  refine go_iload C X129 254 rfl at_252 rfl ?_
  refine go_if_eq C X129 at_254 (pc' := 257) (pc2 := 272) rfl (by decide) (by decide) (fun (c254 : (1 : Int32) = (0 : Int32)) => False.elim (by first | omega | exact absurd c254 (by decide))) (fun (c254 : ¬ (1 : Int32) = (0 : Int32)) => ?_)
  refine go_aload C X129 259 rfl at_257 rfl rfl ?_
  refine go_aload C X129 261 rfl at_259 rfl rfl ?_
  refine go_iconst C X129 262 rfl at_261 (z := 2) rfl ?_
  refine go_callS C X129 (C.w 39 rfl) (C.w 40 rfl) (C.w 4 rfl) (C.w 41 rfl) (own_nextOkM l Z a0 C.ws vv av (2 : Int32) n [z0, z1, z2, z3] nx4 h107 n0 X129.old E110 F112 A1167 A109 l4.2 rfl (by decide) (by decide)) (argsL := [(.ref vv), (.ref av), (.int (2 : Int32))]) (rest := []) (lenOf pd_6 rfl) rfl (by decide) (by decide) (Nat.le_of_ble_eq_true rfl) (by decide) (by decide) rfl rfl (pc' := 265) rfl at_262 ?_
  rintro T131 _ _ ⟨rfl, rfl⟩ X132
  show Go p e below _ (T131.setTop (mkF m 265 #[iv a, iv b, iv kk, iv s0, iv s1, iv s2, rv od, rv av, rv vv, iv (1 : Int32)] [(.int (own_nextOk nx4 [z0, z1, z2, z3] (2 : Int32)))]))
  refine go_if_eq C X132 at_265 (pc' := 268) (pc2 := 272) rfl (by decide) (by decide) (fun (c265 : (own_nextOk nx4 [z0, z1, z2, z3] (2 : Int32)) = (0 : Int32)) => False.elim (absurd (V4.symm.trans c265) (by decide))) (fun (c265 : ¬ (own_nextOk nx4 [z0, z1, z2, z3] (2 : Int32)) = (0 : Int32)) => ?_)
  refine go_iconst C X132 269 rfl at_268 (z := 1) rfl ?_
  refine go_goto C X132 at_269 (pc' := 273) (by decide) (by decide) ?_
  refine go_istore C X132 275 rfl at_273 #[iv a, iv b, iv kk, iv s0, iv s1, iv s2, rv od, rv av, rv vv, iv (1 : Int32)] rfl ?_
  refine go_iload C X132 277 rfl at_275 rfl ?_
  refine go_if_eq C X132 at_277 (pc' := 280) (pc2 := 295) rfl (by decide) (by decide) (fun (c277 : (1 : Int32) = (0 : Int32)) => False.elim (by first | omega | exact absurd c277 (by decide))) (fun (c277 : ¬ (1 : Int32) = (0 : Int32)) => ?_)
  refine go_aload C X132 282 rfl at_280 rfl rfl ?_
  refine go_aload C X132 284 rfl at_282 rfl rfl ?_
  refine go_iconst C X132 285 rfl at_284 (z := 3) rfl ?_
  refine go_callS C X132 (C.w 39 rfl) (C.w 40 rfl) (C.w 4 rfl) (C.w 41 rfl) (own_nextOkM l Z a0 C.ws vv av (3 : Int32) n [z0, z1, z2, z3] nx4 h107 n0 X132.old E110 F112 A1167 A109 l4.2 rfl (by decide) (by decide)) (argsL := [(.ref vv), (.ref av), (.int (3 : Int32))]) (rest := []) (lenOf pd_6 rfl) rfl (by decide) (by decide) (Nat.le_of_ble_eq_true rfl) (by decide) (by decide) rfl rfl (pc' := 288) rfl at_285 ?_
  rintro T134 _ _ ⟨rfl, rfl⟩ X135
  show Go p e below _ (T134.setTop (mkF m 288 #[iv a, iv b, iv kk, iv s0, iv s1, iv s2, rv od, rv av, rv vv, iv (1 : Int32)] [(.int (own_nextOk nx4 [z0, z1, z2, z3] (3 : Int32)))]))
  refine go_if_eq C X135 at_288 (pc' := 291) (pc2 := 295) rfl (by decide) (by decide) (fun (c288 : (own_nextOk nx4 [z0, z1, z2, z3] (3 : Int32)) = (0 : Int32)) => False.elim (absurd (V5.symm.trans c288) (by decide))) (fun (c288 : ¬ (own_nextOk nx4 [z0, z1, z2, z3] (3 : Int32)) = (0 : Int32)) => ?_)
  refine go_iconst C X135 292 rfl at_291 (z := 1) rfl ?_
  refine go_goto C X135 at_292 (pc' := 296) (by decide) (by decide) ?_
  refine go_istore C X135 298 rfl at_296 #[iv a, iv b, iv kk, iv s0, iv s1, iv s2, rv od, rv av, rv vv, iv (1 : Int32)] rfl ?_
  refine go_iload C X135 300 rfl at_298 rfl ?_
  exact go_retN C X135 (by simp) (z' := 1) rfl at_300 rfl (by decide) (by decide)
set_option maxRecDepth 65536 in
set_option maxHeartbeats 40000000 in
theorem comes_1 {Post : Tables → Env → Array Value → State → Outcome → State → Prop} (hpost : ∀ tb e args s v u, (limb_1_1.after args s (.returned v) u = true ∧ limb_1_2.after args s (.returned v) u = true ∧ True) → FrameEnd s (.returned v) u (Jvm.fieldLocs frame_1_writes args s ++ Jvm.arrayLocs frame_1_arrays args s ++ Jvm.staticLocs frame_1_statics s) 24 128 → Post tb e args s (.returned v) u) :
    ArmFor flags0 classFile x code maxLocals ret World_1 tables_1 room_1 Calls_1 rest_1 Pre_1 Post := by
  intro l hfl _ _ p e ha hc hk s m args below hf hA hF happ hP
  obtain ⟨hcalls, hrest, hpre⟩ := hP
  obtain ⟨-, -, -, hnamed, -, -, -, hat⟩ := (Spec.applies_iff hf).mp happ
  obtain ⟨hg, hn⟩ := and_e (Cond.before_iff.mp (show (Jvm.Cond.and given_1 narrow_1).before args s = true from hpre))
  obtain ⟨g1, g2⟩ := and_e hg
  obtain ⟨g3, g4⟩ := and_e g2
  obtain ⟨w0, w1, rfl⟩ : ∃ w0 w1 : Value, args = #[w0, w1] := by
    have hs : args.size = 2 := by simpa [Cond.value, given_1] using g1
    obtain ⟨L⟩ := args
    match L, hs with
    | [w0, w1], _ => exact ⟨w0, w1, rfl⟩
  have hw := fun d (hd : d ∈ tables_1) => atoms_spec (ws := Jvm.Cond.code x code maxLocals ret :: tables_1) hat d (List.mem_cons_of_mem _ hd)
  have hfit : Fit s := fun {y c} hc i hi => by
    obtain ⟨ha, rfl⟩ := Array.getElem?_eq_some_iff.mp hc
    have q := List.all_eq_true.mp ((Array.all_eq_true_iff_forall_mem.mp hF) _ (Array.getElem_mem ha)) i (List.mem_range.mpr hi)
    simpa [Array.getElem?_eq_getElem hi] using q
  obtain ⟨i0, ei0⟩ := is_v g3
  obtain rfl : w0 = (.int i0) := Option.some.inj ei0
  obtain ⟨i1, ei1⟩ := is_v g4
  obtain rfl : w1 = (.int i1) := Option.some.inj ei1
  obtain ⟨n, o, h1, h2, h3, _, L, rfl, ⟨N, rfl⟩, hq⟩ := own_law l s _ hw i0 i1  s.heap s.heap.size (Old.start s)  tables_1 p e ha hc hk s m _ below hf ((Spec.applies_iff_loose hf).mp happ).1 ⟨rfl, State.Warmed39.refl s, rfl⟩ trivial
  refine ⟨n, _, h1, h2, h3, hpost _ _ _ _ _ _ ⟨Cond.after_iff.mpr rfl, Cond.after_iff.mpr (eq_i res_at (Term.int_eval (1)) rfl), trivial⟩ ⟨hq.1, hq.2.1, (hq.2.2.sift fun y hy => Or.inr (N y hy)).mono (by decide) (by decide)⟩⟩
theorem main_1_1 : Claimed_1_1 := comes_1 fun _ _ _ _ _ _ h hF => ⟨h.1, hF⟩
theorem main_1_2 : Claimed_1_2 := comes_1 fun _ _ _ _ _ _ h hF => ⟨h.2.1, hF⟩

end Jvm.Pilot.@@N@@
namespace Jvm.Pilot.@@N@@
open Jvm Jvm.ClassFile Sem Op Lib Jvm.Free Jvm.Stand Jvm.Pilot.@@N@@.Jvm.D
/-! MADE BY PROGRAM (witnessworld.py) out of the Statement's table words and the real class files: 10 classes; the members and pool entries that the words name. The judged class is class 1, her method 5. -/
namespace start1
open Jvm.ClassFile
def u (s : String) : CpInfo := .utf8 (stringToUtf16 s)
/-- a pool by its gaps: so many unusable entries, then the entry; so many at the end -/
def gap : Nat → List CpInfo → List CpInfo
  | 0, r => r
  | n + 1, r => .unusable :: gap n r
def poolList (es : List (Nat × CpInfo)) (last : Nat) : List CpInfo := es.foldr (fun e r => gap e.1 (e.2 :: r)) (gap last [])
def pool (es : List (Nat × CpInfo)) (last : Nat) : Array CpInfo := ⟨poolList es last⟩
def fileOf (pool : Array CpInfo) (this : Nat) (attrs : Array Attribute := #[]) (ms : Array MethodInfo := #[]) (fl : Nat := 33) (sup : Nat := 0) (ifs : Array Nat := #[]) (fds : Array FieldInfo := #[]) : ClassFile where
  minorVersion := 0
  majorVersion := 65
  constantPool := pool
  accessFlags := fl
  thisClass := this
  superClass := sup
  interfaces := ifs
  fields := fds
  methods := ms
  attributes := attrs
def plain (name : String) (sup : Option ClassId) : Class where
  name := name
  kind := .ordinary
  loader := none
  accessFlags := 33
  super := sup
  interfaces := #[]
  cf := none
  fields := #[]
  methods := #[]
  instanceTypes := #[]
  staticTypes := #[]
  resolved := #[]
  callSites := []
  init := .initialized
  statics := none
  mirror := none

def pool0 : Array CpInfo := pool [(5, u "<init>"), (0, u "()V"), (1, .class_ 10), (1, u "java/lang/Object")] 113

def k0c0 : Code := { maxStack := 0, maxLocals := 1, code := object_method_1_code, exceptionTable := #[], attributes := #[] }
def k0m0 : Method := { name := "<init>", desc := "()V", sig := { parameters := [], returnType := none }, accessFlags := 1, code := some k0c0 }
/-- java/lang/Object -/
def k0 : Class := { plain "java/lang/Object" none with
  accessFlags := 33
  interfaces := #[]
  cf := some (fileOf pool0 8 #[] #[{ accessFlags := 1, nameIndex := 5, descriptorIndex := 6, attributes := #[] }] 33 0 #[] #[])
  fields := #[]
  methods := #[k0m0]
  instanceTypes := #[]
  staticTypes := #[]
  resolved := Array.replicate 124 none
  statics := none }

def pool1 : Array CpInfo := pool [(2, .class_ 4), (1, u "java/lang/Object"), (0, u "<init>"), (0, u "()V"), (0, .methodref 8 9), (0, .class_ 10), (0, .nameAndType 11 12), (0, u "com/example/waymarshal/waymarshal/replay/VacantVehicles"), (0, u "add"), (0, u "(II)V"), (0, .methodref 8 14), (0, .nameAndType 15 16), (0, u "next"), (0, u "(I)I"), (0, .methodref 18 19), (0, .class_ 20), (0, .nameAndType 21 22), (0, u "com/example/waymarshal/waymarshal/replay/VacantVehiclesAddPinLaw"), (0, u "nextAt"), (0, u "([III)I"), (0, .integer 2147483647), (0, .methodref 18 25), (0, .nameAndType 26 27), (0, u "swap"), (0, u "([III)V"), (0, .methodref 8 29), (0, .nameAndType 5 12), (0, .methodref 18 31), (0, .nameAndType 32 33), (0, u "addIf"), (0, u "(Lcom/example/waymarshal/waymarshal/replay/VacantVehicles;[II)V"), (0, .methodref 8 35), (0, .nameAndType 36 16), (0, u "first"), (0, .methodref 18 38), (0, .nameAndType 39 40), (0, u "nextOk"), (0, u "(Lcom/example/waymarshal/waymarshal/replay/VacantVehicles;[II)Z"), (3, u "law"), (0, u "(II)Z")] 4

def k1m0 : Method := { name := "<init>", desc := "()V", sig := { parameters := [], returnType := none }, accessFlags := 1, code := none }
def k1c1 : Code := { maxStack := 4, maxLocals := 4, code := method_2_code, exceptionTable := #[], attributes := #[] }
def k1m1 : Method := { name := "swap", desc := "([III)V", sig := { parameters := [(.array .int), .int, .int], returnType := none }, accessFlags := 10, code := some k1c1 }
def k1c2 : Code := { maxStack := 2, maxLocals := 3, code := method_3_code, exceptionTable := #[], attributes := #[] }
def k1m2 : Method := { name := "nextAt", desc := "([III)I", sig := { parameters := [(.array .int), .int, .int], returnType := some .int }, accessFlags := 10, code := some k1c2 }
def k1c3 : Code := { maxStack := 3, maxLocals := 3, code := method_4_code, exceptionTable := #[], attributes := #[] }
def k1m3 : Method := { name := "addIf", desc := "(Lcom/example/waymarshal/waymarshal/replay/VacantVehicles;[II)V", sig := { parameters := [(.object "com/example/waymarshal/waymarshal/replay/VacantVehicles"), (.array .int), .int], returnType := none }, accessFlags := 10, code := some k1c3 }
def k1c4 : Code := { maxStack := 5, maxLocals := 3, code := method_5_code, exceptionTable := #[], attributes := #[] }
def k1m4 : Method := { name := "nextOk", desc := "(Lcom/example/waymarshal/waymarshal/replay/VacantVehicles;[II)Z", sig := { parameters := [(.object "com/example/waymarshal/waymarshal/replay/VacantVehicles"), (.array .int), .int], returnType := some .boolean }, accessFlags := 10, code := some k1c4 }
def k1c5 : Code := { maxStack := 4, maxLocals := 10, code := code, exceptionTable := #[], attributes := #[] }
def k1m5 : Method := { name := "law", desc := "(II)Z", sig := { parameters := [.int, .int], returnType := some .boolean }, accessFlags := 9, code := some k1c5 }
/-- com/example/waymarshal/waymarshal/replay/VacantVehiclesAddPinLaw -/
def k1 : Class := { plain "com/example/waymarshal/waymarshal/replay/VacantVehiclesAddPinLaw" (some 0) with
  accessFlags := 49
  interfaces := #[]
  cf := some (fileOf pool1 18 #[] #[{ accessFlags := 1, nameIndex := 5, descriptorIndex := 6, attributes := #[] }, { accessFlags := 10, nameIndex := 26, descriptorIndex := 27, attributes := #[] }, { accessFlags := 10, nameIndex := 21, descriptorIndex := 22, attributes := #[] }, { accessFlags := 10, nameIndex := 32, descriptorIndex := 33, attributes := #[] }, { accessFlags := 10, nameIndex := 39, descriptorIndex := 40, attributes := #[] }, { accessFlags := 9, nameIndex := 44, descriptorIndex := 45, attributes := #[] }] 49 2 #[] #[])
  fields := #[]
  methods := #[k1m0, k1m1, k1m2, k1m3, k1m4, k1m5]
  instanceTypes := #[]
  staticTypes := #[]
  resolved := Array.replicate 50 none
  statics := none }

def pool2 : Array CpInfo := pool [(1, .methodref 2 3), (0, .class_ 4), (0, .nameAndType 5 6), (0, u "java/lang/Object"), (0, u "<init>"), (0, u "()V"), (0, .fieldref 8 9), (0, .class_ 10), (0, .nameAndType 11 12), (0, u "com/example/waymarshal/waymarshal/replay/VacantVehicles"), (0, u "first"), (0, u "[I"), (0, .fieldref 8 14), (0, .nameAndType 15 12), (0, u "next"), (0, .methodref 17 18), (0, .class_ 19), (0, .nameAndType 20 21), (0, u "java/util/Arrays"), (0, u "fill"), (0, u "([II)V"), (0, u "(II)V"), (2, u "add"), (2, u "(I)I")] 2

def k2c0 : Code := { maxStack := 2, maxLocals := 3, code := prog_68_method_1_code, exceptionTable := #[], attributes := #[] }
def k2m0 : Method := { name := "<init>", desc := "(II)V", sig := { parameters := [.int, .int], returnType := none }, accessFlags := 0, code := some k2c0 }
def k2c1 : Code := { maxStack := 3, maxLocals := 5, code := prog_68_method_2_code, exceptionTable := #[], attributes := #[] }
def k2m1 : Method := { name := "add", desc := "(II)V", sig := { parameters := [.int, .int], returnType := none }, accessFlags := 0, code := some k2c1 }
def k2c2 : Code := { maxStack := 2, maxLocals := 2, code := prog_68_method_4_code, exceptionTable := #[], attributes := #[] }
def k2m2 : Method := { name := "first", desc := "(I)I", sig := { parameters := [.int], returnType := some .int }, accessFlags := 0, code := some k2c2 }
def k2c3 : Code := { maxStack := 2, maxLocals := 2, code := prog_68_method_5_code, exceptionTable := #[], attributes := #[] }
def k2m3 : Method := { name := "next", desc := "(I)I", sig := { parameters := [.int], returnType := some .int }, accessFlags := 0, code := some k2c3 }
/-- com/example/waymarshal/waymarshal/replay/VacantVehicles -/
def k2 : Class := { plain "com/example/waymarshal/waymarshal/replay/VacantVehicles" (some 0) with
  accessFlags := 48
  interfaces := #[]
  cf := some (fileOf pool2 8 #[] #[{ accessFlags := 0, nameIndex := 5, descriptorIndex := 22, attributes := #[] }, { accessFlags := 0, nameIndex := 25, descriptorIndex := 22, attributes := #[] }, { accessFlags := 0, nameIndex := 11, descriptorIndex := 28, attributes := #[] }, { accessFlags := 0, nameIndex := 15, descriptorIndex := 28, attributes := #[] }] 48 2 #[] #[{ accessFlags := 18, nameIndex := 11, descriptorIndex := 12, attributes := #[] }, { accessFlags := 18, nameIndex := 15, descriptorIndex := 12, attributes := #[] }])
  fields := #[{ name := "first", type := (.array .int), accessFlags := 18, slot := 0, constantValue := 0 }, { name := "next", type := (.array .int), accessFlags := 18, slot := 1, constantValue := 0 }]
  methods := #[k2m0, k2m1, k2m2, k2m3]
  instanceTypes := #[(.array .int), (.array .int)]
  staticTypes := #[]
  resolved := Array.replicate 31 none
  statics := none }

def pool3 : Array CpInfo := pool [(2, .class_ 4), (1, u "java/lang/Object"), (0, u "<init>"), (0, u "()V"), (7, .class_ 16), (1, u "java/util/Arrays"), (57, .class_ 76), (1, u "java/util/Arrays$NaturalOrder"), (36, .class_ 115), (1, u "java/util/Arrays$LegacyMergeSort"), (1, u "Z"), (257, .class_ 376), (0, u "java/util/Arrays$ArrayList"), (68, u "$assertionsDisabled"), (269, u "MIN_ARRAY_SORT_GRAN"), (0, u "I"), (2, u "INSERTIONSORT_THRESHOLD"), (120, u "fill"), (4, u "([II)V"), (129, .class_ 976), (0, u "java/util/Arrays$ArrayItr")] 52

def k3m0 : Method := { name := "<init>", desc := "()V", sig := { parameters := [], returnType := none }, accessFlags := 2, code := none }
def k3c1 : Code := { maxStack := 3, maxLocals := 4, code := jdk_65_method_103_code, exceptionTable := #[], attributes := #[] }
def k3m1 : Method := { name := "fill", desc := "([II)V", sig := { parameters := [(.array .int), .int], returnType := none }, accessFlags := 9, code := some k3c1 }
/-- java/util/Arrays -/
def k3 : Class := { plain "java/util/Arrays" (some 0) with
  accessFlags := 49
  interfaces := #[]
  cf := some (fileOf pool3 14 #[.nestMembers #[975, 375, 113, 74]] #[{ accessFlags := 2, nameIndex := 5, descriptorIndex := 6, attributes := #[] }, { accessFlags := 9, nameIndex := 840, descriptorIndex := 845, attributes := #[] }] 49 2 #[] #[{ accessFlags := 26, nameIndex := 715, descriptorIndex := 716, attributes := #[] }, { accessFlags := 26, nameIndex := 719, descriptorIndex := 716, attributes := #[] }, { accessFlags := 4120, nameIndex := 445, descriptorIndex := 117, attributes := #[] }])
  fields := #[{ name := "MIN_ARRAY_SORT_GRAN", type := .int, accessFlags := 26, slot := 0, constantValue := 0 }, { name := "INSERTIONSORT_THRESHOLD", type := .int, accessFlags := 26, slot := 1, constantValue := 0 }, { name := "$assertionsDisabled", type := .boolean, accessFlags := 4120, slot := 2, constantValue := 0 }]
  methods := #[k3m0, k3m1]
  instanceTypes := #[]
  staticTypes := #[.int, .int, .boolean]
  resolved := Array.replicate 1029 none
  statics := none }

def pool4 : Array CpInfo := pool [(1, u "java/lang/Cloneable"), (0, .class_ 1), (0, u "java/lang/Object"), (0, .class_ 3)] 3

/-- java/lang/Cloneable -/
def k4 : Class := { plain "java/lang/Cloneable" (some 0) with
  accessFlags := 1537
  interfaces := #[]
  cf := some (fileOf pool4 2 #[] #[] 1537 4 #[] #[])
  fields := #[]
  methods := #[]
  instanceTypes := #[]
  staticTypes := #[]
  resolved := Array.replicate 8 none
  statics := none }

def pool5 : Array CpInfo := pool [(1, u "java/io/Serializable"), (0, .class_ 1), (0, u "java/lang/Object"), (0, .class_ 3)] 3

/-- java/io/Serializable -/
def k5 : Class := { plain "java/io/Serializable" (some 0) with
  accessFlags := 1537
  interfaces := #[]
  cf := some (fileOf pool5 2 #[] #[] 1537 4 #[] #[])
  fields := #[]
  methods := #[]
  instanceTypes := #[]
  staticTypes := #[]
  resolved := Array.replicate 8 none
  statics := none }

/-- the primitive byte -/
def k6 : Class := { plain "byte" none with kind := .primitive 'B', accessFlags := 0x411 }
/-- [B -/
def k7 : Class := { plain "[B" (some 0) with kind := .array 6 .byte, interfaces := #[4, 5], accessFlags := 1041 }

/-- the primitive int -/
def k8 : Class := { plain "int" none with kind := .primitive 'I', accessFlags := 0x411 }
/-- [I -/
def k9 : Class := { plain "[I" (some 0) with kind := .array 8 .int, interfaces := #[4, 5], accessFlags := 1041 }

def heap : Heap := #[]
def classes : Array Class := #[k0, k1, k2, k3, k4, k5, k6, k7, k8, k9]
def interned : List (Array UInt16 × Addr) := []
def slotsUsed : Nat := 0
def theMethod : MethodId := ⟨1, 5⟩
def args0 : Array Value := #[.int 5, .int 7]
def aboutOver (below : List Frame) : State where
  vm := { classes := classes, interned := interned.toArray }
  heap := heap
  slotsUsed := slotsUsed
  threads := #[{ frames := .invoking theMethod args0 :: below }]
def below0 : List Frame := [.native { method := ⟨0, 0⟩, args := #[] }]
def about1 : State := aboutOver below0
def p0 : Program := .bare "" "" ""
def e0 : Env := launch0.env 0 0 0
theorem w_frames : about1.frames = Frame.invoking theMethod args0 :: below0 := rfl
set_option maxRecDepth 65536 in
theorem w_args : argsFit about1.vm theMethod args0 = true := by decide +kernel
set_option maxRecDepth 65536 in
theorem w_heap : heapFits about1 = true := by decide +kernel
set_option maxRecDepth 65536 in
theorem w_runnable : about1.curStatus? = some .runnable := by decide +kernel
set_option maxRecDepth 65536 in
theorem w_alone : about1.alone = true := by decide +kernel
set_option maxRecDepth 65536 in
theorem w_named : about1.methodNamed? x = some theMethod := by decide +kernel
set_option maxRecDepth 65536 in
theorem w_hears : about1.hears theMethod below0 = true := by decide +kernel
set_option maxRecDepth 65536 in
theorem w_ripe : about1.ripe theMethod args0 below0 = true := by decide +kernel
theorem w_running : about1.status = .running := rfl
set_option maxRecDepth 65536 in
theorem w_room : about1.hasRoom e0.platform room_1 = true :=
  launch0.hasRoom_least _ room_1 (by decide +kernel) (by decide +kernel) (by decide +kernel) (by decide +kernel) (by decide +kernel) (by decide +kernel)
theorem allAtoms_all (ts : List Jvm.Cond) (a : Array Jvm.Value) (st : Jvm.State) : (allAtoms ts).before a st = ts.all (fun c => c.before a st) := by
  induction ts with
  | nil => rfl
  | cons c t ih =>
    show (Jvm.Cond.and c (allAtoms t)).before a st = _
    rw [Jvm.Cond.before_and, ih, List.all_cons]
def words1 : List Jvm.Cond := Jvm.Cond.code x code maxLocals ret :: tables_1
/-- a 'code' word, met by the world's own term for the bytes: nothing is compared byte by byte -/
theorem code_word {y : MethodName} {bytes : ByteArray} {mx : Nat} {rt : Option FieldType} {a : Array Value} {s : State} {m : MethodId} {meth : Method} {c : Code} (h1 : s.methodNamed? y = some m) (h2 : s.vm.method? m = some meth) (h3 : meth.code = some c) (h4 : c.code = bytes)
    (h5 : (c.maxLocals == mx && c.exceptionTable.isEmpty && decide (c.maxStack ≤ mostOperands) && decide (meth.sig.returnType = rt) && !meth.locks && decide (parseMethodDescriptor y.desc = some meth.sig)) = true) : (Jvm.Cond.code y bytes mx rt).before a s = true := by
  simp only [Bool.and_eq_true, beq_iff_eq, Bool.not_eq_true', decide_eq_true_eq] at h5
  obtain ⟨⟨⟨⟨⟨g1, g2⟩, g3⟩, g4⟩, g5⟩, g6⟩ := h5
  simp [Cond.before, Cond.holds, Cond.value, h1, h2, h3, h4, g1, g2, g3, g4, g5, g6]
def isCode : Jvm.Cond → Bool
  | .code _ _ _ _ => true
  | _ => false
theorem all_split {L : List Jvm.Cond} {P : Jvm.Cond → Bool} (h1 : L.all (fun c => isCode c || P c) = true) (h2 : ∀ c ∈ L.filter isCode, P c = true) : L.all P = true := by
  refine List.all_eq_true.mpr fun c hc => ?_
  have h := List.all_eq_true.mp h1 c hc
  rcases Bool.eq_false_or_eq_true (isCode c) with hi | hi
  · exact h2 c (List.mem_filter.mpr ⟨hc, hi⟩)
  · simpa [hi] using h
set_option maxRecDepth 65536 in
theorem w_c0 : (Jvm.Cond.code x code maxLocals ret).before args0 about1 = true := code_word (m := ⟨1, 5⟩) (meth := k1m5) (c := k1c5) (by decide +kernel) rfl rfl rfl (by decide +kernel)
set_option maxRecDepth 65536 in
theorem w_c1 : (Jvm.Cond.code ({ cls := "com/example/waymarshal/waymarshal/replay/VacantVehiclesAddPinLaw", name := "swap", desc := "([III)V" } : Jvm.MethodName) method_2_code (4 : Nat) (Option.none : Option Jvm.ClassFile.FieldType)).before args0 about1 = true := code_word (m := ⟨1, 1⟩) (meth := k1m1) (c := k1c1) (by decide +kernel) rfl rfl rfl (by decide +kernel)
set_option maxRecDepth 65536 in
theorem w_c2 : (Jvm.Cond.code ({ cls := "com/example/waymarshal/waymarshal/replay/VacantVehicles", name := "<init>", desc := "(II)V" } : Jvm.MethodName) prog_68_method_1_code (3 : Nat) (Option.none : Option Jvm.ClassFile.FieldType)).before args0 about1 = true := code_word (m := ⟨2, 0⟩) (meth := k2m0) (c := k2c0) (by decide +kernel) rfl rfl rfl (by decide +kernel)
set_option maxRecDepth 65536 in
theorem w_c3 : (Jvm.Cond.code ({ cls := "java/lang/Object", name := "<init>", desc := "()V" } : Jvm.MethodName) object_method_1_code (1 : Nat) (Option.none : Option Jvm.ClassFile.FieldType)).before args0 about1 = true := code_word (m := ⟨0, 0⟩) (meth := k0m0) (c := k0c0) (by decide +kernel) rfl rfl rfl (by decide +kernel)
set_option maxRecDepth 65536 in
theorem w_c4 : (Jvm.Cond.code ({ cls := "java/util/Arrays", name := "fill", desc := "([II)V" } : Jvm.MethodName) jdk_65_method_103_code (4 : Nat) (Option.none : Option Jvm.ClassFile.FieldType)).before args0 about1 = true := code_word (m := ⟨3, 1⟩) (meth := k3m1) (c := k3c1) (by decide +kernel) rfl rfl rfl (by decide +kernel)
set_option maxRecDepth 65536 in
theorem w_c5 : (Jvm.Cond.code ({ cls := "com/example/waymarshal/waymarshal/replay/VacantVehiclesAddPinLaw", name := "addIf", desc := "(Lcom/example/waymarshal/waymarshal/replay/VacantVehicles;[II)V" } : Jvm.MethodName) method_4_code (3 : Nat) (Option.none : Option Jvm.ClassFile.FieldType)).before args0 about1 = true := code_word (m := ⟨1, 3⟩) (meth := k1m3) (c := k1c3) (by decide +kernel) rfl rfl rfl (by decide +kernel)
set_option maxRecDepth 65536 in
theorem w_c6 : (Jvm.Cond.code ({ cls := "com/example/waymarshal/waymarshal/replay/VacantVehicles", name := "add", desc := "(II)V" } : Jvm.MethodName) prog_68_method_2_code (5 : Nat) (Option.none : Option Jvm.ClassFile.FieldType)).before args0 about1 = true := code_word (m := ⟨2, 1⟩) (meth := k2m1) (c := k2c1) (by decide +kernel) rfl rfl rfl (by decide +kernel)
set_option maxRecDepth 65536 in
theorem w_c7 : (Jvm.Cond.code ({ cls := "com/example/waymarshal/waymarshal/replay/VacantVehicles", name := "first", desc := "(I)I" } : Jvm.MethodName) prog_68_method_4_code (2 : Nat) (Option.some Jvm.ClassFile.FieldType.int)).before args0 about1 = true := code_word (m := ⟨2, 2⟩) (meth := k2m2) (c := k2c2) (by decide +kernel) rfl rfl rfl (by decide +kernel)
set_option maxRecDepth 65536 in
theorem w_c8 : (Jvm.Cond.code ({ cls := "com/example/waymarshal/waymarshal/replay/VacantVehiclesAddPinLaw", name := "nextAt", desc := "([III)I" } : Jvm.MethodName) method_3_code (3 : Nat) (Option.some Jvm.ClassFile.FieldType.int)).before args0 about1 = true := code_word (m := ⟨1, 2⟩) (meth := k1m2) (c := k1c2) (by decide +kernel) rfl rfl rfl (by decide +kernel)
set_option maxRecDepth 65536 in
theorem w_c9 : (Jvm.Cond.code ({ cls := "com/example/waymarshal/waymarshal/replay/VacantVehiclesAddPinLaw", name := "nextOk", desc := "(Lcom/example/waymarshal/waymarshal/replay/VacantVehicles;[II)Z" } : Jvm.MethodName) method_5_code (3 : Nat) (Option.some Jvm.ClassFile.FieldType.boolean)).before args0 about1 = true := code_word (m := ⟨1, 4⟩) (meth := k1m4) (c := k1c4) (by decide +kernel) rfl rfl rfl (by decide +kernel)
set_option maxRecDepth 65536 in
theorem w_c10 : (Jvm.Cond.code ({ cls := "com/example/waymarshal/waymarshal/replay/VacantVehicles", name := "next", desc := "(I)I" } : Jvm.MethodName) prog_68_method_5_code (2 : Nat) (Option.some Jvm.ClassFile.FieldType.int)).before args0 about1 = true := code_word (m := ⟨2, 3⟩) (meth := k2m3) (c := k2c3) (by decide +kernel) rfl rfl rfl (by decide +kernel)
def codes1 : List Jvm.Cond := [Jvm.Cond.code x code maxLocals ret, Jvm.Cond.code ({ cls := "com/example/waymarshal/waymarshal/replay/VacantVehiclesAddPinLaw", name := "swap", desc := "([III)V" } : Jvm.MethodName) method_2_code (4 : Nat) (Option.none : Option Jvm.ClassFile.FieldType), Jvm.Cond.code ({ cls := "com/example/waymarshal/waymarshal/replay/VacantVehicles", name := "<init>", desc := "(II)V" } : Jvm.MethodName) prog_68_method_1_code (3 : Nat) (Option.none : Option Jvm.ClassFile.FieldType), Jvm.Cond.code ({ cls := "java/lang/Object", name := "<init>", desc := "()V" } : Jvm.MethodName) object_method_1_code (1 : Nat) (Option.none : Option Jvm.ClassFile.FieldType), Jvm.Cond.code ({ cls := "java/util/Arrays", name := "fill", desc := "([II)V" } : Jvm.MethodName) jdk_65_method_103_code (4 : Nat) (Option.none : Option Jvm.ClassFile.FieldType), Jvm.Cond.code ({ cls := "com/example/waymarshal/waymarshal/replay/VacantVehiclesAddPinLaw", name := "addIf", desc := "(Lcom/example/waymarshal/waymarshal/replay/VacantVehicles;[II)V" } : Jvm.MethodName) method_4_code (3 : Nat) (Option.none : Option Jvm.ClassFile.FieldType), Jvm.Cond.code ({ cls := "com/example/waymarshal/waymarshal/replay/VacantVehicles", name := "add", desc := "(II)V" } : Jvm.MethodName) prog_68_method_2_code (5 : Nat) (Option.none : Option Jvm.ClassFile.FieldType), Jvm.Cond.code ({ cls := "com/example/waymarshal/waymarshal/replay/VacantVehicles", name := "first", desc := "(I)I" } : Jvm.MethodName) prog_68_method_4_code (2 : Nat) (Option.some Jvm.ClassFile.FieldType.int), Jvm.Cond.code ({ cls := "com/example/waymarshal/waymarshal/replay/VacantVehiclesAddPinLaw", name := "nextAt", desc := "([III)I" } : Jvm.MethodName) method_3_code (3 : Nat) (Option.some Jvm.ClassFile.FieldType.int), Jvm.Cond.code ({ cls := "com/example/waymarshal/waymarshal/replay/VacantVehiclesAddPinLaw", name := "nextOk", desc := "(Lcom/example/waymarshal/waymarshal/replay/VacantVehicles;[II)Z" } : Jvm.MethodName) method_5_code (3 : Nat) (Option.some Jvm.ClassFile.FieldType.boolean), Jvm.Cond.code ({ cls := "com/example/waymarshal/waymarshal/replay/VacantVehicles", name := "next", desc := "(I)I" } : Jvm.MethodName) prog_68_method_5_code (2 : Nat) (Option.some Jvm.ClassFile.FieldType.int)]
set_option maxRecDepth 65536 in
theorem codes_eq : words1.filter isCode = codes1 := rfl
theorem w_codes : ∀ c ∈ words1.filter isCode, c.before args0 about1 = true := by
  rw [codes_eq]
  intro c hc
  simp only [codes1, List.mem_cons, List.not_mem_nil, or_false] at hc
  rcases hc with rfl | rfl | rfl | rfl | rfl | rfl | rfl | rfl | rfl | rfl | rfl
  · exact w_c0
  · exact w_c1
  · exact w_c2
  · exact w_c3
  · exact w_c4
  · exact w_c5
  · exact w_c6
  · exact w_c7
  · exact w_c8
  · exact w_c9
  · exact w_c10
set_option maxRecDepth 65536 in
theorem w_t1 : (words1.take 24).all (fun c => isCode c || c.before args0 about1) = true := by decide +kernel
set_option maxRecDepth 65536 in
theorem w_t2 : (words1.drop 24).all (fun c => isCode c || c.before args0 about1) = true := by decide +kernel
theorem w_tables : (allAtoms (Jvm.Cond.code x code maxLocals ret :: tables_1)).before args0 about1 = true := by
  rw [allAtoms_all]
  show words1.all (fun c => c.before args0 about1) = true
  refine all_split ?_ w_codes
  rw [← List.take_append_drop 24 words1, List.all_append, w_t1, w_t2]
  rfl
set_option maxRecDepth 65536 in
theorem w_case : (Jvm.Cond.and given_1 narrow_1).before args0 about1 = true := by decide +kernel
theorem w_applies : (headSpec (Jvm.Cond.code x code maxLocals ret :: tables_1) room_1).applies x e0.platform about1 = true :=
  (Spec.applies_iff w_frames).mpr ⟨w_running, w_runnable, w_alone, w_named, w_hears, w_ripe, w_room, w_tables⟩
theorem atStart : AtStart classFile x code maxLocals ret World_1 tables_1 room_1 Calls_1 rest_1 Pre_1 launch0 p0 e0 about1 theMethod args0 below0 :=
  ⟨lists_1, trivial, launch0.admits_env _ _ _, launch0.least_env, fairChoices_fair.cas, fairChoices_fair.clock, w_frames, w_args, w_heap, w_applies, trivial, trivial, w_case⟩
end start1
theorem witness_1 : WitnessClaimed_1 := ⟨start1.p0, start1.e0, start1.about1, start1.theMethod, start1.args0, start1.below0, start1.atStart⟩
end Jvm.Pilot.@@N@@
