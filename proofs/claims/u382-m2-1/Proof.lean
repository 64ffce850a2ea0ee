import JvmDerived
import JvmDerived.Pilot.@@N@@Statement
import JvmDerived.Pilot.@@N@@Code
set_option linter.unusedVariables false
set_option linter.unusedSimpArgs false
namespace Jvm.Pilot.@@N@@
open Jvm Jvm.ClassFile Sem Op Lib Jvm.Free Jvm.Stand Jvm.LawKit Jvm.RoadKit Bundle Jvm.Pilot.@@N@@.Jvm.D
/-! ## the common layer: a run that comes to an end of which Q speaks, step by step backwards -/
def Go (p : Program) (e : Env) (below : List Frame) (Q : Outcome → State → Prop) (S : State) : Prop :=
  ∃ s₂ o, Steps p.tables e below S s₂ ∧ s₂.status = .running ∧ Ended s₂ below o ∧ Q o s₂
theorem Go.back {p : Program} {e : Env} {below : List Frame} {Q : Outcome → State → Prop} {A B : State} (k : ∀ t, Steps p.tables e below B t → Steps p.tables e below A t) (h : Go p e below Q B) : Go p e below Q A := by
  obtain ⟨t, o, h1, h2⟩ := h
  exact ⟨t, o, k _ h1, h2⟩
theorem Go.cast {p : Program} {e : Env} {below : List Frame} {Q : Outcome → State → Prop} {A B : State} (k : A = B) (h : Go p e below Q B) : Go p e below Q A := k ▸ h
abbrev jv (x : Int64) : Slot := .val (.long x)
abbrev dv (x : UInt64) : Slot := .val (.double x)
abbrev un : Slot := .unset
abbrev sc : Slot := .second
/-- what a body knows of itself -/
def Cx (p : Program) (s : State) (m : MethodId) (meth : Method) (c : Code) (Z : State) (a0 : Array Value) (own : String) (bytes : ByteArray) (maxL : Nat) (ret : Option FieldType) (nm : String) : Prop :=
  p.tables.exec = Jvm.exec ∧ Z.Warmed39 s.vm ∧ (∀ d ∈ tables_1, d.before a0 Z = true) ∧ s.vm.findClass own = some m.cls ∧ c.code = bytes ∧ c.maxLocals = maxL ∧ meth.sig.returnType = ret ∧ meth.locks = false ∧ meth.name = nm
/-- where the run stands: heap h; every write so far lies at or above n0; k cells and n slots made at the most -/
def St (Z : State) (p : Program) (l : Launch) (e : Env) (R : Room) (s : State) (m : MethodId) (args : Array Value) (below : List Frame) (meth : Method) (c : Code) (n0 : Nat) (T : State) (h : Heap) (k n : Nat) : Prop :=
  ∃ locs, Stand p l e R s m args below meth c T locs k n ∧ Fr n0 locs ∧ Old Z n0 s.heap ∧ T.heap = h
def FinQ (s : State) (k n n0 : Nat) (Q : Option Value → Heap → Prop) (o : Outcome) (t : State) : Prop := ∃ v L, o = .returned v ∧ (Fr n0 L ∧ Q v t.heap) ∧ FrameEnd s o t L k n
/-- a body's contract -/
def Con (l : Launch) (Z : State) (y : MethodName) (bytes : ByteArray) (maxL : Nat) (ret : Option FieldType) (rm : Room) (as' : Array Value) (h : Heap) (n0 : Nat) (Q : Option Value → Heap → Prop) : Prop :=
  ∀ ws, MetFree l y (head1 (Jvm.Cond.code y bytes maxL ret :: ws) rm) (fun a U => a = as' ∧ Z.Warmed39 U.vm ∧ U.heap = h) (fun _ _ _ _ _ => True) (fun _ U o U' => ∃ v L, o = .returned v ∧ (Fr n0 L ∧ Q v U'.heap) ∧ FrameEnd U o U' L rm.cells rm.slots)
theorem con_of {l : Launch} {Z : State} {a0 : Array Value} {y : MethodName} {bytes : ByteArray} {maxL : Nat} {ret : Option FieldType} {rm : Room} {as' : Array Value} {h : Heap} {n0 : Nat} {Q : Option Value → Heap → Prop}
    (hw : ∀ d ∈ tables_1, d.before a0 Z = true) (hpl : plainFor y = true) (hn0 : Old Z n0 h)
    (body : ∀ p e s m below meth c T, Cx p s m meth c Z a0 y.cls bytes maxL ret y.name → St Z p l e rm s m as' below meth c n0 T h 0 0 → Go p e below (FinQ s rm.cells rm.slots n0 Q) (T.setTop (entryFrame m as' maxL))) :
    Con l Z y bytes maxL ret rm as' h n0 Q := by
  intro ws
  refine MetFree.of_bodySF hpl hisR ?_
  intro p e s m args below meth c s₁ Bd hml0 hP hK
  obtain ⟨rfl, hZ, hh⟩ := hP
  have e0 : s₁.heap = h := by rw [← hh, Bd.state]; rfl
  exact body p e s m below meth c s₁ ⟨Bd.exec, hZ, hw, findClass_of_methodNamed Bd.named, Bd.bytes, hml0, Bd.returns, Bd.notSynchronized, (name_of_methodNamed Bd.named Bd.method).1⟩ ⟨[], Stand.of_body Bd, Fr.nil n0, by rw [hh]; exact hn0, e0⟩
section Steps1
variable {p : Program} {l : Launch} {e : Env} {R : Room} {s : State} {m : MethodId} {args : Array Value} {below : List Frame} {meth : Method} {c : Code} {Z : State} {a0 : Array Value} {own : String} {bytes : ByteArray} {maxL : Nat} {ret : Option FieldType} {nm : String} {n0 : Nat} {T : State} {h : Heap} {k n : Nat} {Q : Outcome → State → Prop} {pc pc' pc2 : Nat} {Ls Ls' : Array Slot} {st : List Value}
theorem Cx.w (C : Cx p s m meth c Z a0 own bytes maxL ret nm) (i : Nat) {d : Jvm.Cond} (hd : tables_1[i]? = some d) : d.before a0 Z = true := C.2.2.1 _ (List.mem_of_getElem? hd)
theorem Cx.ws (C : Cx p s m meth c Z a0 own bytes maxL ret nm) : ∀ d ∈ tables_1, d.before a0 Z = true := C.2.2.1
theorem Cx.cd (C : Cx p s m meth c Z a0 own bytes maxL ret nm) {r : Except ClassFile.DecodeError (ClassFile.Instr × Nat)} (h2 : decode bytes pc = r) : decode c.code pc = r := hb C.2.2.2.2.1 h2
theorem Cx.ow (C : Cx p s m meth c Z a0 own bytes maxL ret nm) : s.vm.findClass own = some m.cls := C.2.2.2.1
theorem Cx.hZ (C : Cx p s m meth c Z a0 own bytes maxL ret nm) : Z.Warmed39 s.vm := C.2.1
theorem Cx.ml (C : Cx p s m meth c Z a0 own bytes maxL ret nm) : c.maxLocals = maxL := C.2.2.2.2.2.1
theorem Cx.rt (C : Cx p s m meth c Z a0 own bytes maxL ret nm) : meth.sig.returnType = ret := C.2.2.2.2.2.2.1
theorem Cx.lk (C : Cx p s m meth c Z a0 own bytes maxL ret nm) : meth.locks = false := C.2.2.2.2.2.2.2.1
theorem Cx.nmE (C : Cx p s m meth c Z a0 own bytes maxL ret nm) : meth.name = nm := C.2.2.2.2.2.2.2.2
theorem St.sz (X : St Z p l e R s m args below meth c n0 T h k n) : n0 ≤ h.size := by obtain ⟨_, Y, _, q, rfl⟩ := X; exact Nat.le_trans (Nat.le_trans (Nat.le_of_eq q.1.symm) q.2.1) Y.same.2.1
theorem St.old (X : St Z p l e R s m args below meth c n0 T h k n) : Old Z n0 h := by
  obtain ⟨locs, Y, N, o, rfl⟩ := X
  refine ⟨o.1, Nat.le_trans o.2.1 Y.same.2.1, fun a ce hc => ?_⟩
  obtain ⟨c', e1, e2, e3, e4⟩ := Y.same.2.2.2.2.2 a ce (o.2.2 a ce hc)
  have lt := (Array.getElem?_eq_some_iff.mp hc).1
  have hs : c'.slots = ce.slots := Array.ext_getElem? fun i => e4 i fun q => by have := N _ q; have := o.1; simp at *; omega
  rw [hs] at e2
  exact (show c' = ce from e2) ▸ e1
theorem St.more (X : St Z p l e R s m args below meth c n0 T h k n) {k' n' : Nat} (hk : k ≤ k') (hn : n ≤ n') : St Z p l e R s m args below meth c n0 T h k' n' := by
  obtain ⟨locs, Y, r⟩ := X
  exact ⟨locs, Y.more hk hn, r⟩

theorem go_iload (C : Cx p s m meth c Z a0 own bytes maxL ret nm) (X : St Z p l e R s m args below meth c n0 T h k n) {i : Nat} {v : Int32} (pc' : Nat) (hp : pc + 2 = pc') (hd : decode bytes pc = .ok (.iload i, 2)) (hl : Ls[i]? = some (.val (.int v))) (hr : Go p e below Q (T.setTop (mkF m pc' Ls (.int v :: st)))) : Go p e below Q (T.setTop (mkF m pc Ls st)) := by
  subst hp
  obtain ⟨locs, Y, -, -, -⟩ := X
  exact Go.back (fun t kt => Jvm.Free.XS.iload Y.here C.1 rfl (C.cd hd) hl kt) hr
theorem go_iloadN (C : Cx p s m meth c Z a0 own bytes maxL ret nm) (X : St Z p l e R s m args below meth c n0 T h k n) {i : Fin 4} {v : Int32} (pc' : Nat) (hp : pc + 1 = pc') (hd : decode bytes pc = .ok (.iload_n i, 1)) (hl : Ls[i.val]? = some (.val (.int v))) (hr : Go p e below Q (T.setTop (mkF m pc' Ls (.int v :: st)))) : Go p e below Q (T.setTop (mkF m pc Ls st)) := by
  subst hp
  obtain ⟨locs, Y, -, -, -⟩ := X
  exact Go.back (fun t kt => Jvm.Free.XS.iloadN Y.here C.1 rfl (C.cd hd) hl kt) hr
theorem go_istore (C : Cx p s m meth c Z a0 own bytes maxL ret nm) (X : St Z p l e R s m args below meth c n0 T h k n) {i : Nat} {v : Int32} (pc' : Nat) (hp : pc + 2 = pc') (hd : decode bytes pc = .ok (.istore i, 2)) (Ls' : Array Slot) (hl : storeLocals Ls i (.int v) = some Ls') (hr : Go p e below Q (T.setTop (mkF m pc' Ls' st))) : Go p e below Q (T.setTop (mkF m pc Ls (.int v :: st))) := by
  subst hp
  obtain ⟨locs, Y, -, -, -⟩ := X
  exact Go.back (fun t kt => Jvm.Free.XS.istore Y.here C.1 rfl (C.cd hd) rfl hl kt) hr
theorem go_istoreN (C : Cx p s m meth c Z a0 own bytes maxL ret nm) (X : St Z p l e R s m args below meth c n0 T h k n) {i : Fin 4} {v : Int32} (pc' : Nat) (hp : pc + 1 = pc') (hd : decode bytes pc = .ok (.istore_n i, 1)) (Ls' : Array Slot) (hl : storeLocals Ls i.val (.int v) = some Ls') (hr : Go p e below Q (T.setTop (mkF m pc' Ls' st))) : Go p e below Q (T.setTop (mkF m pc Ls (.int v :: st))) := by
  subst hp
  obtain ⟨locs, Y, -, -, -⟩ := X
  exact Go.back (fun t kt => Jvm.Free.XS.istoreN Y.here C.1 rfl (C.cd hd) rfl hl kt) hr
theorem go_lload (C : Cx p s m meth c Z a0 own bytes maxL ret nm) (X : St Z p l e R s m args below meth c n0 T h k n) {i : Nat} {v : Int64} (pc' : Nat) (hp : pc + 2 = pc') (hd : decode bytes pc = .ok (.lload i, 2)) (hl : Ls[i]? = some (.val (.long v))) (hr : Go p e below Q (T.setTop (mkF m pc' Ls (.long v :: st)))) : Go p e below Q (T.setTop (mkF m pc Ls st)) := by
  subst hp
  obtain ⟨locs, Y, -, -, -⟩ := X
  exact Go.back (fun t kt => Jvm.Free.XS.lload Y.here C.1 rfl (C.cd hd) hl kt) hr
theorem go_lloadN (C : Cx p s m meth c Z a0 own bytes maxL ret nm) (X : St Z p l e R s m args below meth c n0 T h k n) {i : Fin 4} {v : Int64} (pc' : Nat) (hp : pc + 1 = pc') (hd : decode bytes pc = .ok (.lload_n i, 1)) (hl : Ls[i.val]? = some (.val (.long v))) (hr : Go p e below Q (T.setTop (mkF m pc' Ls (.long v :: st)))) : Go p e below Q (T.setTop (mkF m pc Ls st)) := by
  subst hp
  obtain ⟨locs, Y, -, -, -⟩ := X
  exact Go.back (fun t kt => Jvm.Free.XS.lloadN Y.here C.1 rfl (C.cd hd) hl kt) hr
theorem go_lstore (C : Cx p s m meth c Z a0 own bytes maxL ret nm) (X : St Z p l e R s m args below meth c n0 T h k n) {i : Nat} {v : Int64} (pc' : Nat) (hp : pc + 2 = pc') (hd : decode bytes pc = .ok (.lstore i, 2)) (Ls' : Array Slot) (hl : storeLocals Ls i (.long v) = some Ls') (hr : Go p e below Q (T.setTop (mkF m pc' Ls' st))) : Go p e below Q (T.setTop (mkF m pc Ls (.long v :: st))) := by
  subst hp
  obtain ⟨locs, Y, -, -, -⟩ := X
  exact Go.back (fun t kt => Jvm.Free.XS.lstore Y.here C.1 rfl (C.cd hd) rfl hl kt) hr
theorem go_lstoreN (C : Cx p s m meth c Z a0 own bytes maxL ret nm) (X : St Z p l e R s m args below meth c n0 T h k n) {i : Fin 4} {v : Int64} (pc' : Nat) (hp : pc + 1 = pc') (hd : decode bytes pc = .ok (.lstore_n i, 1)) (Ls' : Array Slot) (hl : storeLocals Ls i.val (.long v) = some Ls') (hr : Go p e below Q (T.setTop (mkF m pc' Ls' st))) : Go p e below Q (T.setTop (mkF m pc Ls (.long v :: st))) := by
  subst hp
  obtain ⟨locs, Y, -, -, -⟩ := X
  exact Go.back (fun t kt => Jvm.Free.XS.lstoreN Y.here C.1 rfl (C.cd hd) rfl hl kt) hr
theorem go_aload (C : Cx p s m meth c Z a0 own bytes maxL ret nm) (X : St Z p l e R s m args below meth c n0 T h k n) {i : Nat} {v : Value} (pc' : Nat) (hp : pc + 2 = pc') (hd : decode bytes pc = .ok (.aload i, 2)) (hl : Ls[i]? = some (.val v)) (hv : v.isRef = true) (hr : Go p e below Q (T.setTop (mkF m pc' Ls (v :: st)))) : Go p e below Q (T.setTop (mkF m pc Ls st)) := by
  subst hp
  obtain ⟨locs, Y, -, -, -⟩ := X
  exact Go.back (fun t kt => Jvm.Free.XS.aload Y.here C.1 rfl (C.cd hd) hl hv kt) hr
theorem go_aloadN (C : Cx p s m meth c Z a0 own bytes maxL ret nm) (X : St Z p l e R s m args below meth c n0 T h k n) {i : Fin 4} {v : Value} (pc' : Nat) (hp : pc + 1 = pc') (hd : decode bytes pc = .ok (.aload_n i, 1)) (hl : Ls[i.val]? = some (.val v)) (hv : v.isRef = true) (hr : Go p e below Q (T.setTop (mkF m pc' Ls (v :: st)))) : Go p e below Q (T.setTop (mkF m pc Ls st)) := by
  subst hp
  obtain ⟨locs, Y, -, -, -⟩ := X
  exact Go.back (fun t kt => Jvm.Free.XS.aloadN Y.here C.1 rfl (C.cd hd) hl hv kt) hr
theorem go_astore (C : Cx p s m meth c Z a0 own bytes maxL ret nm) (X : St Z p l e R s m args below meth c n0 T h k n) {i : Nat} {v : Value} (pc' : Nat) (hp : pc + 2 = pc') (hd : decode bytes pc = .ok (.astore i, 2)) (hv : v.isRef = true) (Ls' : Array Slot) (hl : storeLocals Ls i v = some Ls') (hr : Go p e below Q (T.setTop (mkF m pc' Ls' st))) : Go p e below Q (T.setTop (mkF m pc Ls (v :: st))) := by
  subst hp
  obtain ⟨locs, Y, -, -, -⟩ := X
  exact Go.back (fun t kt => Jvm.Free.XS.astore Y.here C.1 rfl (C.cd hd) rfl hv hl kt) hr
theorem go_astoreN (C : Cx p s m meth c Z a0 own bytes maxL ret nm) (X : St Z p l e R s m args below meth c n0 T h k n) {i : Fin 4} {v : Value} (pc' : Nat) (hp : pc + 1 = pc') (hd : decode bytes pc = .ok (.astore_n i, 1)) (hv : v.isRef = true) (Ls' : Array Slot) (hl : storeLocals Ls i.val v = some Ls') (hr : Go p e below Q (T.setTop (mkF m pc' Ls' st))) : Go p e below Q (T.setTop (mkF m pc Ls (v :: st))) := by
  subst hp
  obtain ⟨locs, Y, -, -, -⟩ := X
  exact Go.back (fun t kt => Jvm.Free.XS.astoreN Y.here C.1 rfl (C.cd hd) rfl hv hl kt) hr
theorem go_iconst (C : Cx p s m meth c Z a0 own bytes maxL ret nm) (X : St Z p l e R s m args below meth c n0 T h k n) {i : Int} {z : Int32} (pc' : Nat) (hp : pc + 1 = pc') (hd : decode bytes pc = .ok (.iconst i, 1)) (hz : Int32.ofInt i = z) (hr : Go p e below Q (T.setTop (mkF m pc' Ls (.int z :: st)))) : Go p e below Q (T.setTop (mkF m pc Ls st)) := by
  subst hp
  obtain ⟨locs, Y, -, -, -⟩ := X
  exact Go.back (fun t kt => by subst hz; exact Jvm.Free.XS.iconst Y.here C.1 rfl (C.cd hd) kt) hr
theorem go_bipush (C : Cx p s m meth c Z a0 own bytes maxL ret nm) (X : St Z p l e R s m args below meth c n0 T h k n) {i : Int} {z : Int32} (pc' : Nat) (hp : pc + 2 = pc') (hd : decode bytes pc = .ok (.bipush i, 2)) (hz : (Int8.ofInt i).toInt32 = z) (hr : Go p e below Q (T.setTop (mkF m pc' Ls (.int z :: st)))) : Go p e below Q (T.setTop (mkF m pc Ls st)) := by
  subst hp
  obtain ⟨locs, Y, -, -, -⟩ := X
  exact Go.back (fun t kt => by subst hz; exact Jvm.Free.XS.bipush Y.here C.1 rfl (C.cd hd) kt) hr
theorem go_sipush (C : Cx p s m meth c Z a0 own bytes maxL ret nm) (X : St Z p l e R s m args below meth c n0 T h k n) {i : Int} {z : Int32} (pc' : Nat) (hp : pc + 3 = pc') (hd : decode bytes pc = .ok (.sipush i, 3)) (hz : (Int16.ofInt i).toInt32 = z) (hr : Go p e below Q (T.setTop (mkF m pc' Ls (.int z :: st)))) : Go p e below Q (T.setTop (mkF m pc Ls st)) := by
  subst hp
  obtain ⟨locs, Y, -, -, -⟩ := X
  exact Go.back (fun t kt => by subst hz; exact Jvm.Free.XS.sipush Y.here C.1 rfl (C.cd hd) kt) hr
theorem go_lconst (C : Cx p s m meth c Z a0 own bytes maxL ret nm) (X : St Z p l e R s m args below meth c n0 T h k n) {i : Fin 2} {z : Int64} (pc' : Nat) (hp : pc + 1 = pc') (hd : decode bytes pc = .ok (.lconst i, 1)) (hz : Int64.ofNat i = z) (hr : Go p e below Q (T.setTop (mkF m pc' Ls (.long z :: st)))) : Go p e below Q (T.setTop (mkF m pc Ls st)) := by
  subst hp
  obtain ⟨locs, Y, -, -, -⟩ := X
  exact Go.back (fun t kt => by subst hz; exact Jvm.Free.XS.lconst Y.here C.1 rfl (C.cd hd) kt) hr
theorem go_aconstNull (C : Cx p s m meth c Z a0 own bytes maxL ret nm) (X : St Z p l e R s m args below meth c n0 T h k n)  (pc' : Nat) (hp : pc + 1 = pc') (hd : decode bytes pc = .ok (.aconst_null, 1)) (hr : Go p e below Q (T.setTop (mkF m pc' Ls (.null :: st)))) : Go p e below Q (T.setTop (mkF m pc Ls st)) := by
  subst hp
  obtain ⟨locs, Y, -, -, -⟩ := X
  exact Go.back (fun t kt => Jvm.Free.XS.aconstNull Y.here C.1 rfl (C.cd hd) kt) hr
theorem go_iaddL (C : Cx p s m meth c Z a0 own bytes maxL ret nm) (X : St Z p l e R s m args below meth c n0 T h k n) {x y z : Int32} (pc' : Nat) (hp : pc + 1 = pc') (hd : decode bytes pc = .ok (.iadd, 1)) (hz : x + y = z) (hr : Go p e below Q (T.setTop (mkF m pc' Ls (.int z :: st)))) : Go p e below Q (T.setTop (mkF m pc Ls (.int y :: .int x :: st))) := by
  subst hp
  obtain ⟨locs, Y, -, -, -⟩ := X
  exact Go.back (fun t kt => by subst hz; exact Jvm.Free.XS.iadd Y.here C.1 rfl (C.cd hd) rfl kt) hr
theorem go_iadd (C : Cx p s m meth c Z a0 own bytes maxL ret nm) (X : St Z p l e R s m args below meth c n0 T h k n) {x y : Int32} (pc' : Nat) (hp : pc + 1 = pc') (hd : decode bytes pc = .ok (.iadd, 1)) (hr : Go p e below Q (T.setTop (mkF m pc' Ls (.int (x + y) :: st)))) : Go p e below Q (T.setTop (mkF m pc Ls (.int y :: .int x :: st))) := by
  subst hp
  obtain ⟨locs, Y, -, -, -⟩ := X
  exact Go.back (fun t kt => Jvm.Free.XS.iadd Y.here C.1 rfl (C.cd hd) rfl kt) hr
theorem go_isubL (C : Cx p s m meth c Z a0 own bytes maxL ret nm) (X : St Z p l e R s m args below meth c n0 T h k n) {x y z : Int32} (pc' : Nat) (hp : pc + 1 = pc') (hd : decode bytes pc = .ok (.isub, 1)) (hz : x - y = z) (hr : Go p e below Q (T.setTop (mkF m pc' Ls (.int z :: st)))) : Go p e below Q (T.setTop (mkF m pc Ls (.int y :: .int x :: st))) := by
  subst hp
  obtain ⟨locs, Y, -, -, -⟩ := X
  exact Go.back (fun t kt => by subst hz; exact Jvm.Free.XS.isub Y.here C.1 rfl (C.cd hd) rfl kt) hr
theorem go_isub (C : Cx p s m meth c Z a0 own bytes maxL ret nm) (X : St Z p l e R s m args below meth c n0 T h k n) {x y : Int32} (pc' : Nat) (hp : pc + 1 = pc') (hd : decode bytes pc = .ok (.isub, 1)) (hr : Go p e below Q (T.setTop (mkF m pc' Ls (.int (x - y) :: st)))) : Go p e below Q (T.setTop (mkF m pc Ls (.int y :: .int x :: st))) := by
  subst hp
  obtain ⟨locs, Y, -, -, -⟩ := X
  exact Go.back (fun t kt => Jvm.Free.XS.isub Y.here C.1 rfl (C.cd hd) rfl kt) hr
theorem go_imulL (C : Cx p s m meth c Z a0 own bytes maxL ret nm) (X : St Z p l e R s m args below meth c n0 T h k n) {x y z : Int32} (pc' : Nat) (hp : pc + 1 = pc') (hd : decode bytes pc = .ok (.imul, 1)) (hz : x * y = z) (hr : Go p e below Q (T.setTop (mkF m pc' Ls (.int z :: st)))) : Go p e below Q (T.setTop (mkF m pc Ls (.int y :: .int x :: st))) := by
  subst hp
  obtain ⟨locs, Y, -, -, -⟩ := X
  exact Go.back (fun t kt => by subst hz; exact Jvm.Free.XS.imul Y.here C.1 rfl (C.cd hd) rfl kt) hr
theorem go_imul (C : Cx p s m meth c Z a0 own bytes maxL ret nm) (X : St Z p l e R s m args below meth c n0 T h k n) {x y : Int32} (pc' : Nat) (hp : pc + 1 = pc') (hd : decode bytes pc = .ok (.imul, 1)) (hr : Go p e below Q (T.setTop (mkF m pc' Ls (.int (x * y) :: st)))) : Go p e below Q (T.setTop (mkF m pc Ls (.int y :: .int x :: st))) := by
  subst hp
  obtain ⟨locs, Y, -, -, -⟩ := X
  exact Go.back (fun t kt => Jvm.Free.XS.imul Y.here C.1 rfl (C.cd hd) rfl kt) hr
theorem go_iandL (C : Cx p s m meth c Z a0 own bytes maxL ret nm) (X : St Z p l e R s m args below meth c n0 T h k n) {x y z : Int32} (pc' : Nat) (hp : pc + 1 = pc') (hd : decode bytes pc = .ok (.iand, 1)) (hz : x &&& y = z) (hr : Go p e below Q (T.setTop (mkF m pc' Ls (.int z :: st)))) : Go p e below Q (T.setTop (mkF m pc Ls (.int y :: .int x :: st))) := by
  subst hp
  obtain ⟨locs, Y, -, -, -⟩ := X
  exact Go.back (fun t kt => by subst hz; exact Jvm.Free.XS.iand Y.here C.1 rfl (C.cd hd) rfl kt) hr
theorem go_iand (C : Cx p s m meth c Z a0 own bytes maxL ret nm) (X : St Z p l e R s m args below meth c n0 T h k n) {x y : Int32} (pc' : Nat) (hp : pc + 1 = pc') (hd : decode bytes pc = .ok (.iand, 1)) (hr : Go p e below Q (T.setTop (mkF m pc' Ls (.int (x &&& y) :: st)))) : Go p e below Q (T.setTop (mkF m pc Ls (.int y :: .int x :: st))) := by
  subst hp
  obtain ⟨locs, Y, -, -, -⟩ := X
  exact Go.back (fun t kt => Jvm.Free.XS.iand Y.here C.1 rfl (C.cd hd) rfl kt) hr
theorem go_iorL (C : Cx p s m meth c Z a0 own bytes maxL ret nm) (X : St Z p l e R s m args below meth c n0 T h k n) {x y z : Int32} (pc' : Nat) (hp : pc + 1 = pc') (hd : decode bytes pc = .ok (.ior, 1)) (hz : x ||| y = z) (hr : Go p e below Q (T.setTop (mkF m pc' Ls (.int z :: st)))) : Go p e below Q (T.setTop (mkF m pc Ls (.int y :: .int x :: st))) := by
  subst hp
  obtain ⟨locs, Y, -, -, -⟩ := X
  exact Go.back (fun t kt => by subst hz; exact Jvm.Free.XS.ior Y.here C.1 rfl (C.cd hd) rfl kt) hr
theorem go_ior (C : Cx p s m meth c Z a0 own bytes maxL ret nm) (X : St Z p l e R s m args below meth c n0 T h k n) {x y : Int32} (pc' : Nat) (hp : pc + 1 = pc') (hd : decode bytes pc = .ok (.ior, 1)) (hr : Go p e below Q (T.setTop (mkF m pc' Ls (.int (x ||| y) :: st)))) : Go p e below Q (T.setTop (mkF m pc Ls (.int y :: .int x :: st))) := by
  subst hp
  obtain ⟨locs, Y, -, -, -⟩ := X
  exact Go.back (fun t kt => Jvm.Free.XS.ior Y.here C.1 rfl (C.cd hd) rfl kt) hr
theorem go_ixorL (C : Cx p s m meth c Z a0 own bytes maxL ret nm) (X : St Z p l e R s m args below meth c n0 T h k n) {x y z : Int32} (pc' : Nat) (hp : pc + 1 = pc') (hd : decode bytes pc = .ok (.ixor, 1)) (hz : x ^^^ y = z) (hr : Go p e below Q (T.setTop (mkF m pc' Ls (.int z :: st)))) : Go p e below Q (T.setTop (mkF m pc Ls (.int y :: .int x :: st))) := by
  subst hp
  obtain ⟨locs, Y, -, -, -⟩ := X
  exact Go.back (fun t kt => by subst hz; exact Jvm.Free.XS.ixor Y.here C.1 rfl (C.cd hd) rfl kt) hr
theorem go_ixor (C : Cx p s m meth c Z a0 own bytes maxL ret nm) (X : St Z p l e R s m args below meth c n0 T h k n) {x y : Int32} (pc' : Nat) (hp : pc + 1 = pc') (hd : decode bytes pc = .ok (.ixor, 1)) (hr : Go p e below Q (T.setTop (mkF m pc' Ls (.int (x ^^^ y) :: st)))) : Go p e below Q (T.setTop (mkF m pc Ls (.int y :: .int x :: st))) := by
  subst hp
  obtain ⟨locs, Y, -, -, -⟩ := X
  exact Go.back (fun t kt => Jvm.Free.XS.ixor Y.here C.1 rfl (C.cd hd) rfl kt) hr
theorem go_idiv (C : Cx p s m meth c Z a0 own bytes maxL ret nm) (X : St Z p l e R s m args below meth c n0 T h k n) {x y : Int32} (pc' : Nat) (hp : pc + 1 = pc') (hd : decode bytes pc = .ok (.idiv, 1)) (hy : y ≠ 0) (hr : Go p e below Q (T.setTop (mkF m pc' Ls (.int (x / y) :: st)))) : Go p e below Q (T.setTop (mkF m pc Ls (.int y :: .int x :: st))) := by
  subst hp
  obtain ⟨locs, Y, -, -, -⟩ := X
  exact Go.back (fun t kt => Jvm.Free.XS.idiv Y.here C.1 rfl (C.cd hd) rfl hy kt) hr
theorem go_ineg (C : Cx p s m meth c Z a0 own bytes maxL ret nm) (X : St Z p l e R s m args below meth c n0 T h k n) {x : Int32} (pc' : Nat) (hp : pc + 1 = pc') (hd : decode bytes pc = .ok (.ineg, 1)) (hr : Go p e below Q (T.setTop (mkF m pc' Ls (.int (-x) :: st)))) : Go p e below Q (T.setTop (mkF m pc Ls (.int x :: st))) := by
  subst hp
  obtain ⟨locs, Y, -, -, -⟩ := X
  exact Go.back (fun t kt => Jvm.Free.XS.ineg Y.here C.1 rfl (C.cd hd) rfl kt) hr
theorem go_laddL (C : Cx p s m meth c Z a0 own bytes maxL ret nm) (X : St Z p l e R s m args below meth c n0 T h k n) {x y z : Int64} (pc' : Nat) (hp : pc + 1 = pc') (hd : decode bytes pc = .ok (.ladd, 1)) (hz : x + y = z) (hr : Go p e below Q (T.setTop (mkF m pc' Ls (.long z :: st)))) : Go p e below Q (T.setTop (mkF m pc Ls (.long y :: .long x :: st))) := by
  subst hp
  obtain ⟨locs, Y, -, -, -⟩ := X
  exact Go.back (fun t kt => by subst hz; exact Jvm.Free.XS.ladd Y.here C.1 rfl (C.cd hd) rfl kt) hr
theorem go_ladd (C : Cx p s m meth c Z a0 own bytes maxL ret nm) (X : St Z p l e R s m args below meth c n0 T h k n) {x y : Int64} (pc' : Nat) (hp : pc + 1 = pc') (hd : decode bytes pc = .ok (.ladd, 1)) (hr : Go p e below Q (T.setTop (mkF m pc' Ls (.long (x + y) :: st)))) : Go p e below Q (T.setTop (mkF m pc Ls (.long y :: .long x :: st))) := by
  subst hp
  obtain ⟨locs, Y, -, -, -⟩ := X
  exact Go.back (fun t kt => Jvm.Free.XS.ladd Y.here C.1 rfl (C.cd hd) rfl kt) hr
theorem go_lsubL (C : Cx p s m meth c Z a0 own bytes maxL ret nm) (X : St Z p l e R s m args below meth c n0 T h k n) {x y z : Int64} (pc' : Nat) (hp : pc + 1 = pc') (hd : decode bytes pc = .ok (.lsub, 1)) (hz : x - y = z) (hr : Go p e below Q (T.setTop (mkF m pc' Ls (.long z :: st)))) : Go p e below Q (T.setTop (mkF m pc Ls (.long y :: .long x :: st))) := by
  subst hp
  obtain ⟨locs, Y, -, -, -⟩ := X
  exact Go.back (fun t kt => by subst hz; exact Jvm.Free.XS.lsub Y.here C.1 rfl (C.cd hd) rfl kt) hr
theorem go_lsub (C : Cx p s m meth c Z a0 own bytes maxL ret nm) (X : St Z p l e R s m args below meth c n0 T h k n) {x y : Int64} (pc' : Nat) (hp : pc + 1 = pc') (hd : decode bytes pc = .ok (.lsub, 1)) (hr : Go p e below Q (T.setTop (mkF m pc' Ls (.long (x - y) :: st)))) : Go p e below Q (T.setTop (mkF m pc Ls (.long y :: .long x :: st))) := by
  subst hp
  obtain ⟨locs, Y, -, -, -⟩ := X
  exact Go.back (fun t kt => Jvm.Free.XS.lsub Y.here C.1 rfl (C.cd hd) rfl kt) hr
theorem go_lmulL (C : Cx p s m meth c Z a0 own bytes maxL ret nm) (X : St Z p l e R s m args below meth c n0 T h k n) {x y z : Int64} (pc' : Nat) (hp : pc + 1 = pc') (hd : decode bytes pc = .ok (.lmul, 1)) (hz : x * y = z) (hr : Go p e below Q (T.setTop (mkF m pc' Ls (.long z :: st)))) : Go p e below Q (T.setTop (mkF m pc Ls (.long y :: .long x :: st))) := by
  subst hp
  obtain ⟨locs, Y, -, -, -⟩ := X
  exact Go.back (fun t kt => by subst hz; exact Jvm.Free.XS.lmul Y.here C.1 rfl (C.cd hd) rfl kt) hr
theorem go_lmul (C : Cx p s m meth c Z a0 own bytes maxL ret nm) (X : St Z p l e R s m args below meth c n0 T h k n) {x y : Int64} (pc' : Nat) (hp : pc + 1 = pc') (hd : decode bytes pc = .ok (.lmul, 1)) (hr : Go p e below Q (T.setTop (mkF m pc' Ls (.long (x * y) :: st)))) : Go p e below Q (T.setTop (mkF m pc Ls (.long y :: .long x :: st))) := by
  subst hp
  obtain ⟨locs, Y, -, -, -⟩ := X
  exact Go.back (fun t kt => Jvm.Free.XS.lmul Y.here C.1 rfl (C.cd hd) rfl kt) hr
theorem go_landL (C : Cx p s m meth c Z a0 own bytes maxL ret nm) (X : St Z p l e R s m args below meth c n0 T h k n) {x y z : Int64} (pc' : Nat) (hp : pc + 1 = pc') (hd : decode bytes pc = .ok (.land, 1)) (hz : x &&& y = z) (hr : Go p e below Q (T.setTop (mkF m pc' Ls (.long z :: st)))) : Go p e below Q (T.setTop (mkF m pc Ls (.long y :: .long x :: st))) := by
  subst hp
  obtain ⟨locs, Y, -, -, -⟩ := X
  exact Go.back (fun t kt => by subst hz; exact Jvm.Free.XS.land Y.here C.1 rfl (C.cd hd) rfl kt) hr
theorem go_land (C : Cx p s m meth c Z a0 own bytes maxL ret nm) (X : St Z p l e R s m args below meth c n0 T h k n) {x y : Int64} (pc' : Nat) (hp : pc + 1 = pc') (hd : decode bytes pc = .ok (.land, 1)) (hr : Go p e below Q (T.setTop (mkF m pc' Ls (.long (x &&& y) :: st)))) : Go p e below Q (T.setTop (mkF m pc Ls (.long y :: .long x :: st))) := by
  subst hp
  obtain ⟨locs, Y, -, -, -⟩ := X
  exact Go.back (fun t kt => Jvm.Free.XS.land Y.here C.1 rfl (C.cd hd) rfl kt) hr
theorem go_lorL (C : Cx p s m meth c Z a0 own bytes maxL ret nm) (X : St Z p l e R s m args below meth c n0 T h k n) {x y z : Int64} (pc' : Nat) (hp : pc + 1 = pc') (hd : decode bytes pc = .ok (.lor, 1)) (hz : x ||| y = z) (hr : Go p e below Q (T.setTop (mkF m pc' Ls (.long z :: st)))) : Go p e below Q (T.setTop (mkF m pc Ls (.long y :: .long x :: st))) := by
  subst hp
  obtain ⟨locs, Y, -, -, -⟩ := X
  exact Go.back (fun t kt => by subst hz; exact Jvm.Free.XS.lor Y.here C.1 rfl (C.cd hd) rfl kt) hr
theorem go_lor (C : Cx p s m meth c Z a0 own bytes maxL ret nm) (X : St Z p l e R s m args below meth c n0 T h k n) {x y : Int64} (pc' : Nat) (hp : pc + 1 = pc') (hd : decode bytes pc = .ok (.lor, 1)) (hr : Go p e below Q (T.setTop (mkF m pc' Ls (.long (x ||| y) :: st)))) : Go p e below Q (T.setTop (mkF m pc Ls (.long y :: .long x :: st))) := by
  subst hp
  obtain ⟨locs, Y, -, -, -⟩ := X
  exact Go.back (fun t kt => Jvm.Free.XS.lor Y.here C.1 rfl (C.cd hd) rfl kt) hr
theorem go_lxorL (C : Cx p s m meth c Z a0 own bytes maxL ret nm) (X : St Z p l e R s m args below meth c n0 T h k n) {x y z : Int64} (pc' : Nat) (hp : pc + 1 = pc') (hd : decode bytes pc = .ok (.lxor, 1)) (hz : x ^^^ y = z) (hr : Go p e below Q (T.setTop (mkF m pc' Ls (.long z :: st)))) : Go p e below Q (T.setTop (mkF m pc Ls (.long y :: .long x :: st))) := by
  subst hp
  obtain ⟨locs, Y, -, -, -⟩ := X
  exact Go.back (fun t kt => by subst hz; exact Jvm.Free.XS.lxor Y.here C.1 rfl (C.cd hd) rfl kt) hr
theorem go_lxor (C : Cx p s m meth c Z a0 own bytes maxL ret nm) (X : St Z p l e R s m args below meth c n0 T h k n) {x y : Int64} (pc' : Nat) (hp : pc + 1 = pc') (hd : decode bytes pc = .ok (.lxor, 1)) (hr : Go p e below Q (T.setTop (mkF m pc' Ls (.long (x ^^^ y) :: st)))) : Go p e below Q (T.setTop (mkF m pc Ls (.long y :: .long x :: st))) := by
  subst hp
  obtain ⟨locs, Y, -, -, -⟩ := X
  exact Go.back (fun t kt => Jvm.Free.XS.lxor Y.here C.1 rfl (C.cd hd) rfl kt) hr
theorem go_ldiv (C : Cx p s m meth c Z a0 own bytes maxL ret nm) (X : St Z p l e R s m args below meth c n0 T h k n) {x y : Int64} (pc' : Nat) (hp : pc + 1 = pc') (hd : decode bytes pc = .ok (.ldiv, 1)) (hy : y ≠ 0) (hr : Go p e below Q (T.setTop (mkF m pc' Ls (.long (x / y) :: st)))) : Go p e below Q (T.setTop (mkF m pc Ls (.long y :: .long x :: st))) := by
  subst hp
  obtain ⟨locs, Y, -, -, -⟩ := X
  exact Go.back (fun t kt => Jvm.Free.XS.ldiv Y.here C.1 rfl (C.cd hd) rfl hy kt) hr
theorem go_lneg (C : Cx p s m meth c Z a0 own bytes maxL ret nm) (X : St Z p l e R s m args below meth c n0 T h k n) {x : Int64} (pc' : Nat) (hp : pc + 1 = pc') (hd : decode bytes pc = .ok (.lneg, 1)) (hr : Go p e below Q (T.setTop (mkF m pc' Ls (.long (-x) :: st)))) : Go p e below Q (T.setTop (mkF m pc Ls (.long x :: st))) := by
  subst hp
  obtain ⟨locs, Y, -, -, -⟩ := X
  exact Go.back (fun t kt => Jvm.Free.XS.lneg Y.here C.1 rfl (C.cd hd) rfl kt) hr
theorem go_irem (C : Cx p s m meth c Z a0 own bytes maxL ret nm) (X : St Z p l e R s m args below meth c n0 T h k n) {x y : Int32} (pc' : Nat) (hp : pc + 1 = pc') (hd : decode bytes pc = .ok (.irem, 1)) (hy : y ≠ 0) (hr : Go p e below Q (T.setTop (mkF m pc' Ls (.int (x % y) :: st)))) : Go p e below Q (T.setTop (mkF m pc Ls (.int y :: .int x :: st))) := by
  subst hp
  obtain ⟨locs, Y, -, -, -⟩ := X
  exact Go.back (fun t kt => iremM Y C.1 rfl (C.cd hd) rfl hy kt) hr
theorem go_lrem (C : Cx p s m meth c Z a0 own bytes maxL ret nm) (X : St Z p l e R s m args below meth c n0 T h k n) {x y : Int64} (pc' : Nat) (hp : pc + 1 = pc') (hd : decode bytes pc = .ok (.lrem, 1)) (hy : y ≠ 0) (hr : Go p e below Q (T.setTop (mkF m pc' Ls (.long (x % y) :: st)))) : Go p e below Q (T.setTop (mkF m pc Ls (.long y :: .long x :: st))) := by
  subst hp
  obtain ⟨locs, Y, -, -, -⟩ := X
  exact Go.back (fun t kt => by rw [← lrem_mod] at kt; exact Jvm.Free.XS.lrem Y.here C.1 rfl (C.cd hd) rfl hy kt) hr
theorem go_i2l (C : Cx p s m meth c Z a0 own bytes maxL ret nm) (X : St Z p l e R s m args below meth c n0 T h k n) {x : Int32} (pc' : Nat) (hp : pc + 1 = pc') (hd : decode bytes pc = .ok (.i2l, 1)) (hr : Go p e below Q (T.setTop (mkF m pc' Ls (.long (x.toInt64) :: st)))) : Go p e below Q (T.setTop (mkF m pc Ls (.int x :: st))) := by
  subst hp
  obtain ⟨locs, Y, -, -, -⟩ := X
  exact Go.back (fun t kt => Jvm.Free.XS.i2l Y.here C.1 rfl (C.cd hd) rfl kt) hr
theorem go_l2i (C : Cx p s m meth c Z a0 own bytes maxL ret nm) (X : St Z p l e R s m args below meth c n0 T h k n) {x : Int64} (pc' : Nat) (hp : pc + 1 = pc') (hd : decode bytes pc = .ok (.l2i, 1)) (hr : Go p e below Q (T.setTop (mkF m pc' Ls (.int (x.toInt32) :: st)))) : Go p e below Q (T.setTop (mkF m pc Ls (.long x :: st))) := by
  subst hp
  obtain ⟨locs, Y, -, -, -⟩ := X
  exact Go.back (fun t kt => Jvm.Free.XS.l2i Y.here C.1 rfl (C.cd hd) rfl kt) hr
theorem go_i2b (C : Cx p s m meth c Z a0 own bytes maxL ret nm) (X : St Z p l e R s m args below meth c n0 T h k n) {x : Int32} (pc' : Nat) (hp : pc + 1 = pc') (hd : decode bytes pc = .ok (.i2b, 1)) (hr : Go p e below Q (T.setTop (mkF m pc' Ls (.int (x.toInt8.toInt32) :: st)))) : Go p e below Q (T.setTop (mkF m pc Ls (.int x :: st))) := by
  subst hp
  obtain ⟨locs, Y, -, -, -⟩ := X
  exact Go.back (fun t kt => Jvm.Free.XS.i2b Y.here C.1 rfl (C.cd hd) rfl kt) hr
theorem go_i2s (C : Cx p s m meth c Z a0 own bytes maxL ret nm) (X : St Z p l e R s m args below meth c n0 T h k n) {x : Int32} (pc' : Nat) (hp : pc + 1 = pc') (hd : decode bytes pc = .ok (.i2s, 1)) (hr : Go p e below Q (T.setTop (mkF m pc' Ls (.int (x.toInt16.toInt32) :: st)))) : Go p e below Q (T.setTop (mkF m pc Ls (.int x :: st))) := by
  subst hp
  obtain ⟨locs, Y, -, -, -⟩ := X
  exact Go.back (fun t kt => Jvm.Free.XS.i2s Y.here C.1 rfl (C.cd hd) rfl kt) hr
theorem go_i2c (C : Cx p s m meth c Z a0 own bytes maxL ret nm) (X : St Z p l e R s m args below meth c n0 T h k n) {x : Int32} (pc' : Nat) (hp : pc + 1 = pc') (hd : decode bytes pc = .ok (.i2c, 1)) (hr : Go p e below Q (T.setTop (mkF m pc' Ls (.int (x.toUInt32.toUInt16.toUInt32.toInt32) :: st)))) : Go p e below Q (T.setTop (mkF m pc Ls (.int x :: st))) := by
  subst hp
  obtain ⟨locs, Y, -, -, -⟩ := X
  exact Go.back (fun t kt => Jvm.Free.XS.i2c Y.here C.1 rfl (C.cd hd) rfl kt) hr
theorem go_ishl (C : Cx p s m meth c Z a0 own bytes maxL ret nm) (X : St Z p l e R s m args below meth c n0 T h k n) {x : Int32} {y : Int32} (pc' : Nat) (hp : pc + 1 = pc') (hd : decode bytes pc = .ok (.ishl, 1)) (hr : Go p e below Q (T.setTop (mkF m pc' Ls (.int (x <<< (y &&& 31)) :: st)))) : Go p e below Q (T.setTop (mkF m pc Ls (.int y :: .int x :: st))) := by
  subst hp
  obtain ⟨locs, Y, -, -, -⟩ := X
  exact Go.back (fun t kt => Jvm.Free.XS.ishl Y.here C.1 rfl (C.cd hd) rfl kt) hr
theorem go_ishr (C : Cx p s m meth c Z a0 own bytes maxL ret nm) (X : St Z p l e R s m args below meth c n0 T h k n) {x : Int32} {y : Int32} (pc' : Nat) (hp : pc + 1 = pc') (hd : decode bytes pc = .ok (.ishr, 1)) (hr : Go p e below Q (T.setTop (mkF m pc' Ls (.int (x >>> (y &&& 31)) :: st)))) : Go p e below Q (T.setTop (mkF m pc Ls (.int y :: .int x :: st))) := by
  subst hp
  obtain ⟨locs, Y, -, -, -⟩ := X
  exact Go.back (fun t kt => Jvm.Free.XS.ishr Y.here C.1 rfl (C.cd hd) rfl kt) hr
theorem go_iushr (C : Cx p s m meth c Z a0 own bytes maxL ret nm) (X : St Z p l e R s m args below meth c n0 T h k n) {x : Int32} {y : Int32} (pc' : Nat) (hp : pc + 1 = pc') (hd : decode bytes pc = .ok (.iushr, 1)) (hr : Go p e below Q (T.setTop (mkF m pc' Ls (.int ((x.toUInt32 >>> (y &&& 31).toUInt32).toInt32) :: st)))) : Go p e below Q (T.setTop (mkF m pc Ls (.int y :: .int x :: st))) := by
  subst hp
  obtain ⟨locs, Y, -, -, -⟩ := X
  exact Go.back (fun t kt => Jvm.Free.XS.iushr Y.here C.1 rfl (C.cd hd) rfl kt) hr
theorem go_lshl (C : Cx p s m meth c Z a0 own bytes maxL ret nm) (X : St Z p l e R s m args below meth c n0 T h k n) {x : Int64} {y : Int32} (pc' : Nat) (hp : pc + 1 = pc') (hd : decode bytes pc = .ok (.lshl, 1)) (hr : Go p e below Q (T.setTop (mkF m pc' Ls (.long (x <<< (y &&& 0x3f).toInt64) :: st)))) : Go p e below Q (T.setTop (mkF m pc Ls (.int y :: .long x :: st))) := by
  subst hp
  obtain ⟨locs, Y, -, -, -⟩ := X
  exact Go.back (fun t kt => Jvm.Free.XS.lshl Y.here C.1 rfl (C.cd hd) rfl kt) hr
theorem go_lshr (C : Cx p s m meth c Z a0 own bytes maxL ret nm) (X : St Z p l e R s m args below meth c n0 T h k n) {x : Int64} {y : Int32} (pc' : Nat) (hp : pc + 1 = pc') (hd : decode bytes pc = .ok (.lshr, 1)) (hr : Go p e below Q (T.setTop (mkF m pc' Ls (.long (x >>> (y &&& 0x3f).toInt64) :: st)))) : Go p e below Q (T.setTop (mkF m pc Ls (.int y :: .long x :: st))) := by
  subst hp
  obtain ⟨locs, Y, -, -, -⟩ := X
  exact Go.back (fun t kt => Jvm.Free.XS.lshr Y.here C.1 rfl (C.cd hd) rfl kt) hr
theorem go_lushr (C : Cx p s m meth c Z a0 own bytes maxL ret nm) (X : St Z p l e R s m args below meth c n0 T h k n) {x : Int64} {y : Int32} (pc' : Nat) (hp : pc + 1 = pc') (hd : decode bytes pc = .ok (.lushr, 1)) (hr : Go p e below Q (T.setTop (mkF m pc' Ls (.long ((x.toUInt64 >>> (y &&& 0x3f).toInt64.toUInt64).toInt64) :: st)))) : Go p e below Q (T.setTop (mkF m pc Ls (.int y :: .long x :: st))) := by
  subst hp
  obtain ⟨locs, Y, -, -, -⟩ := X
  exact Go.back (fun t kt => Jvm.Free.XS.lushr Y.here C.1 rfl (C.cd hd) rfl kt) hr
theorem go_lcmp (C : Cx p s m meth c Z a0 own bytes maxL ret nm) (X : St Z p l e R s m args below meth c n0 T h k n) {x y : Int64} (pc' : Nat) (hp : pc + 1 = pc') (hd : decode bytes pc = .ok (.lcmp, 1)) (hr : Go p e below Q (T.setTop (mkF m pc' Ls (.int (lcmpW x y) :: st)))) : Go p e below Q (T.setTop (mkF m pc Ls (.long y :: .long x :: st))) := by
  subst hp
  obtain ⟨locs, Y, -, -, -⟩ := X
  exact Go.back (fun t kt => Jvm.Free.XS.lcmp Y.here C.1 rfl (C.cd hd) rfl kt) hr
theorem go_iinc (C : Cx p s m meth c Z a0 own bytes maxL ret nm) (X : St Z p l e R s m args below meth c n0 T h k n) {i : Nat} {cst : Int} {x z : Int32} (pc' : Nat) (hp : pc + 3 = pc') (hd : decode bytes pc = .ok (.iinc i cst, 3)) (hl : Ls[i]? = some (.val (.int x))) (hz : Int32.ofInt cst = z) (Ls' : Array Slot) (hl' : storeLocals Ls i (.int (x + z)) = some Ls') (hr : Go p e below Q (T.setTop (mkF m pc' Ls' st))) : Go p e below Q (T.setTop (mkF m pc Ls st)) := by
  subst hp
  obtain ⟨locs, Y, -, -, -⟩ := X
  exact Go.back (fun t kt => by subst hz; exact Jvm.Free.XS.iinc Y.here C.1 rfl (C.cd hd) hl hl' kt) hr
theorem go_dup (C : Cx p s m meth c Z a0 own bytes maxL ret nm) (X : St Z p l e R s m args below meth c n0 T h k n) {v : Value} (pc' : Nat) (hp : pc + 1 = pc') (hd : decode bytes pc = .ok (.dup, 1)) (hc : v.category = 1) (hr : Go p e below Q (T.setTop (mkF m pc' Ls (v :: v :: st)))) : Go p e below Q (T.setTop (mkF m pc Ls (v :: st))) := by
  subst hp
  obtain ⟨locs, Y, -, -, -⟩ := X
  exact Go.back (fun t kt => Jvm.Free.XS.dup Y.here C.1 rfl (C.cd hd) rfl hc kt) hr
theorem go_pop (C : Cx p s m meth c Z a0 own bytes maxL ret nm) (X : St Z p l e R s m args below meth c n0 T h k n) {v : Value} (pc' : Nat) (hp : pc + 1 = pc') (hd : decode bytes pc = .ok (.pop, 1)) (hc : v.category = 1) (hr : Go p e below Q (T.setTop (mkF m pc' Ls st))) : Go p e below Q (T.setTop (mkF m pc Ls (v :: st))) := by
  subst hp
  obtain ⟨locs, Y, -, -, -⟩ := X
  exact Go.back (fun t kt => Jvm.Free.XS.pop Y.here C.1 rfl (C.cd hd) rfl hc kt) hr
theorem go_dupX1 (C : Cx p s m meth c Z a0 own bytes maxL ret nm) (X : St Z p l e R s m args below meth c n0 T h k n) {v w : Value} (pc' : Nat) (hp : pc + 1 = pc') (hd : decode bytes pc = .ok (.dup_x1, 1)) (hc : v.category = 1) (hc2 : w.category = 1) (hr : Go p e below Q (T.setTop (mkF m pc' Ls (v :: w :: v :: st)))) : Go p e below Q (T.setTop (mkF m pc Ls (v :: w :: st))) := by
  subst hp
  obtain ⟨locs, Y, -, -, -⟩ := X
  exact Go.back (fun t kt => Jvm.Free.XS.dupX1 Y.here C.1 rfl (C.cd hd) rfl hc hc2 kt) hr
theorem go_dup2 (C : Cx p s m meth c Z a0 own bytes maxL ret nm) (X : St Z p l e R s m args below meth c n0 T h k n) {v w : Value} (pc' : Nat) (hp : pc + 1 = pc') (hd : decode bytes pc = .ok (.dup2, 1)) (hc : v.category = 1) (hc2 : w.category = 1) (hr : Go p e below Q (T.setTop (mkF m pc' Ls (v :: w :: v :: w :: st)))) : Go p e below Q (T.setTop (mkF m pc Ls (v :: w :: st))) := by
  subst hp
  obtain ⟨locs, Y, -, -, -⟩ := X
  refine Go.back (fun t kt => ?_) hr
  show Steps p.tables e below (T.setTop { method := m, pc := pc, locals := Ls, stack := v :: w :: st, locked := none }) _
  jvm_step Y.here [Y.here.top, C.1, C.cd hd, hc, hc2]
  exact kt
theorem go_goto (C : Cx p s m meth c Z a0 own bytes maxL ret nm) (X : St Z p l e R s m args below meth c n0 T h k n) {o : Int} (hd : decode bytes pc = .ok (.goto o, 3)) (ho : 0 ≤ (pc : Int) + o) (hp : ((pc : Int) + o).toNat = pc') (hr : Go p e below Q (T.setTop (mkF m pc' Ls st))) : Go p e below Q (T.setTop (mkF m pc Ls st)) := by
  obtain ⟨locs, Y, -, -, -⟩ := X
  exact Go.back (fun t kt => Jvm.Free.XS.goto Y.here C.1 rfl (pc0 := pc) rfl (C.cd hd) ho hp kt) hr
theorem go_icmp (C : Cx p s m meth c Z a0 own bytes maxL ret nm) (X : St Z p l e R s m args below meth c n0 T h k n) {cd : ClassFile.Cond} {o : Int} {x y : Int32} (hd : decode bytes pc = .ok (.if_icmp cd o, 3)) (hp : pc + 3 = pc') (ho : 0 ≤ (pc : Int) + o) (hp2 : ((pc : Int) + o).toNat = pc2) (h1 : if_icmp.holds cd x y = true → Go p e below Q (T.setTop (mkF m pc2 Ls st))) (h2 : if_icmp.holds cd x y = false → Go p e below Q (T.setTop (mkF m pc' Ls st))) : Go p e below Q (T.setTop (mkF m pc Ls (.int y :: .int x :: st))) := by
  subst hp
  obtain ⟨locs, Y, -, -, -⟩ := X
  cases hc : if_icmp.holds cd x y with
  | true => exact Go.back (fun t kt => Jvm.Free.XS.icmpYes Y.here C.1 rfl (pc0 := pc) rfl (C.cd hd) rfl hc ho hp2 kt) (h1 hc)
  | false => exact Go.back (fun t kt => Jvm.Free.XS.icmpNo Y.here C.1 rfl (C.cd hd) rfl hc kt) (h2 hc)
theorem go_if (C : Cx p s m meth c Z a0 own bytes maxL ret nm) (X : St Z p l e R s m args below meth c n0 T h k n) {cd : ClassFile.Cond} {o : Int} {x : Int32} (hd : decode bytes pc = .ok (.ifCond cd o, 3)) (hp : pc + 3 = pc') (ho : 0 ≤ (pc : Int) + o) (hp2 : ((pc : Int) + o).toNat = pc2) (h1 : if_icmp.holds cd x 0 = true → Go p e below Q (T.setTop (mkF m pc2 Ls st))) (h2 : if_icmp.holds cd x 0 = false → Go p e below Q (T.setTop (mkF m pc' Ls st))) : Go p e below Q (T.setTop (mkF m pc Ls (.int x :: st))) := by
  subst hp
  obtain ⟨locs, Y, -, -, -⟩ := X
  cases hc : if_icmp.holds cd x 0 with
  | true => exact Go.back (fun t kt => Jvm.Free.XS.ifYes Y.here C.1 rfl (pc0 := pc) rfl (C.cd hd) rfl ((if0 _ _).trans hc) ho hp2 kt) (h1 hc)
  | false => exact Go.back (fun t kt => Jvm.Free.XS.ifNo Y.here C.1 rfl (C.cd hd) rfl ((if0 _ _).trans hc) kt) (h2 hc)
theorem i32lt {x y : Int32} : x < y ↔ x.toInt < y.toInt := Int32.lt_iff_toInt_lt
theorem ic_lt {x y : Int32} : (if_icmp.holds .lt x y = true ↔ x.toInt < y.toInt) ∧ (if_icmp.holds .lt x y = false ↔ y.toInt ≤ x.toInt) := by
  by_cases q : x < y
  · have := i32lt.mp q; simp [(tlt q).1]; omega
  · have := mt i32lt.mpr q; simp [(flt q).1]; omega
theorem ic_ge {x y : Int32} : (if_icmp.holds .ge x y = true ↔ y.toInt ≤ x.toInt) ∧ (if_icmp.holds .ge x y = false ↔ x.toInt < y.toInt) := by
  by_cases q : x < y
  · have := i32lt.mp q; simp [(tlt q).2.1]; omega
  · have := mt i32lt.mpr q; simp [(flt q).2.1]; omega
theorem ic_gt {x y : Int32} : (if_icmp.holds .gt x y = true ↔ y.toInt < x.toInt) ∧ (if_icmp.holds .gt x y = false ↔ x.toInt ≤ y.toInt) := by
  by_cases q : y < x
  · have := i32lt.mp q; simp [(tlt q).2.2.1]; omega
  · have := mt i32lt.mpr q; simp [(flt q).2.2.1]; omega
theorem ic_le {x y : Int32} : (if_icmp.holds .le x y = true ↔ x.toInt ≤ y.toInt) ∧ (if_icmp.holds .le x y = false ↔ y.toInt < x.toInt) := by
  by_cases q : y < x
  · have := i32lt.mp q; simp [(tlt q).2.2.2]; omega
  · have := mt i32lt.mpr q; simp [(flt q).2.2.2]; omega
theorem ic_eq {x y : Int32} : (if_icmp.holds .eq x y = true ↔ x = y) ∧ (if_icmp.holds .eq x y = false ↔ ¬ x = y) := by
  by_cases q : x = y
  · subst q; exact ⟨⟨fun _ => rfl, fun _ => (teq rfl).1⟩, ⟨fun h => (by rw [(teq rfl).1] at h; cases h), fun h => absurd rfl h⟩⟩
  · exact ⟨⟨fun h => (by rw [(feq q).1] at h; cases h), fun h => absurd h q⟩, ⟨fun _ => q, fun _ => (feq q).1⟩⟩
theorem ic_ne {x y : Int32} : (if_icmp.holds .ne x y = true ↔ ¬ x = y) ∧ (if_icmp.holds .ne x y = false ↔ x = y) := by
  by_cases q : x = y
  · subst q; exact ⟨⟨fun h => (by rw [(teq rfl).2] at h; cases h), fun h => absurd rfl h⟩, ⟨fun _ => rfl, fun _ => (teq rfl).2⟩⟩
  · exact ⟨⟨fun _ => q, fun _ => (feq q).2⟩, ⟨fun h => (by rw [(feq q).2] at h; cases h), fun h => absurd h q⟩⟩
theorem lc_i (x y : Int64) : ((lcmpW x y).toInt < 0 ↔ x.toInt < y.toInt) ∧ (0 < (lcmpW x y).toInt ↔ y.toInt < x.toInt) ∧ (lcmpW x y = 0 ↔ x = y) := by
  obtain ⟨a, b, c⟩ := c_lcmp x y
  refine ⟨?_, ?_, lw_eq x y⟩ <;> rcases Int.lt_trichotomy x.toInt y.toInt with q | q | q <;> (first | have := a q | have := b q | have := c q) <;> omega
theorem go_icmp_lt (C : Cx p s m meth c Z a0 own bytes maxL ret nm) (X : St Z p l e R s m args below meth c n0 T h k n) {o : Int} {x y : Int32} (hd : decode bytes pc = .ok (.if_icmp .lt o, 3)) (hp : pc + 3 = pc') (ho : 0 ≤ (pc : Int) + o) (hp2 : ((pc : Int) + o).toNat = pc2) (h1 : x.toInt < y.toInt → Go p e below Q (T.setTop (mkF m pc2 Ls st))) (h2 : y.toInt ≤ x.toInt → Go p e below Q (T.setTop (mkF m pc' Ls st))) : Go p e below Q (T.setTop (mkF m pc Ls (.int y :: .int x :: st))) := go_icmp C X hd hp ho hp2 (fun q => h1 (ic_lt.1.mp q)) (fun q => h2 (ic_lt.2.mp q))
theorem go_if_lt (C : Cx p s m meth c Z a0 own bytes maxL ret nm) (X : St Z p l e R s m args below meth c n0 T h k n) {o : Int} {x : Int32} (hd : decode bytes pc = .ok (.ifCond .lt o, 3)) (hp : pc + 3 = pc') (ho : 0 ≤ (pc : Int) + o) (hp2 : ((pc : Int) + o).toNat = pc2) (h1 : x.toInt < 0 → Go p e below Q (T.setTop (mkF m pc2 Ls st))) (h2 : 0 ≤ x.toInt → Go p e below Q (T.setTop (mkF m pc' Ls st))) : Go p e below Q (T.setTop (mkF m pc Ls (.int x :: st))) := go_if C X hd hp ho hp2 (fun q => h1 (ic_lt.1.mp q)) (fun q => h2 (ic_lt.2.mp q))
theorem go_lif_lt (C : Cx p s m meth c Z a0 own bytes maxL ret nm) (X : St Z p l e R s m args below meth c n0 T h k n) {o : Int} {x y : Int64} {pc1 : Nat} (hp1 : pc + 1 = pc1) (hd1 : decode bytes pc = .ok (.lcmp, 1)) (hd : decode bytes pc1 = .ok (.ifCond .lt o, 3)) (hp : pc1 + 3 = pc') (ho : 0 ≤ (pc1 : Int) + o) (hp2 : ((pc1 : Int) + o).toNat = pc2) (h1 : x.toInt < y.toInt → Go p e below Q (T.setTop (mkF m pc2 Ls st))) (h2 : y.toInt ≤ x.toInt → Go p e below Q (T.setTop (mkF m pc' Ls st))) : Go p e below Q (T.setTop (mkF m pc Ls (.long y :: .long x :: st))) := go_lcmp C X _ hp1 hd1 (go_if_lt C X hd hp ho hp2 (fun q => h1 ((lc_i x y).1.mp q)) (fun q => h2 (by have := mt (lc_i x y).1.mpr (by omega); omega)))
theorem go_icmp_ge (C : Cx p s m meth c Z a0 own bytes maxL ret nm) (X : St Z p l e R s m args below meth c n0 T h k n) {o : Int} {x y : Int32} (hd : decode bytes pc = .ok (.if_icmp .ge o, 3)) (hp : pc + 3 = pc') (ho : 0 ≤ (pc : Int) + o) (hp2 : ((pc : Int) + o).toNat = pc2) (h1 : y.toInt ≤ x.toInt → Go p e below Q (T.setTop (mkF m pc2 Ls st))) (h2 : x.toInt < y.toInt → Go p e below Q (T.setTop (mkF m pc' Ls st))) : Go p e below Q (T.setTop (mkF m pc Ls (.int y :: .int x :: st))) := go_icmp C X hd hp ho hp2 (fun q => h1 (ic_ge.1.mp q)) (fun q => h2 (ic_ge.2.mp q))
theorem go_if_ge (C : Cx p s m meth c Z a0 own bytes maxL ret nm) (X : St Z p l e R s m args below meth c n0 T h k n) {o : Int} {x : Int32} (hd : decode bytes pc = .ok (.ifCond .ge o, 3)) (hp : pc + 3 = pc') (ho : 0 ≤ (pc : Int) + o) (hp2 : ((pc : Int) + o).toNat = pc2) (h1 : 0 ≤ x.toInt → Go p e below Q (T.setTop (mkF m pc2 Ls st))) (h2 : x.toInt < 0 → Go p e below Q (T.setTop (mkF m pc' Ls st))) : Go p e below Q (T.setTop (mkF m pc Ls (.int x :: st))) := go_if C X hd hp ho hp2 (fun q => h1 (ic_ge.1.mp q)) (fun q => h2 (ic_ge.2.mp q))
theorem go_lif_ge (C : Cx p s m meth c Z a0 own bytes maxL ret nm) (X : St Z p l e R s m args below meth c n0 T h k n) {o : Int} {x y : Int64} {pc1 : Nat} (hp1 : pc + 1 = pc1) (hd1 : decode bytes pc = .ok (.lcmp, 1)) (hd : decode bytes pc1 = .ok (.ifCond .ge o, 3)) (hp : pc1 + 3 = pc') (ho : 0 ≤ (pc1 : Int) + o) (hp2 : ((pc1 : Int) + o).toNat = pc2) (h1 : y.toInt ≤ x.toInt → Go p e below Q (T.setTop (mkF m pc2 Ls st))) (h2 : x.toInt < y.toInt → Go p e below Q (T.setTop (mkF m pc' Ls st))) : Go p e below Q (T.setTop (mkF m pc Ls (.long y :: .long x :: st))) := go_lcmp C X _ hp1 hd1 (go_if_ge C X hd hp ho hp2 (fun q => h1 (by have := mt (lc_i x y).1.mpr (by omega); omega)) (fun q => h2 ((lc_i x y).1.mp q)))
theorem go_icmp_gt (C : Cx p s m meth c Z a0 own bytes maxL ret nm) (X : St Z p l e R s m args below meth c n0 T h k n) {o : Int} {x y : Int32} (hd : decode bytes pc = .ok (.if_icmp .gt o, 3)) (hp : pc + 3 = pc') (ho : 0 ≤ (pc : Int) + o) (hp2 : ((pc : Int) + o).toNat = pc2) (h1 : y.toInt < x.toInt → Go p e below Q (T.setTop (mkF m pc2 Ls st))) (h2 : x.toInt ≤ y.toInt → Go p e below Q (T.setTop (mkF m pc' Ls st))) : Go p e below Q (T.setTop (mkF m pc Ls (.int y :: .int x :: st))) := go_icmp C X hd hp ho hp2 (fun q => h1 (ic_gt.1.mp q)) (fun q => h2 (ic_gt.2.mp q))
theorem go_if_gt (C : Cx p s m meth c Z a0 own bytes maxL ret nm) (X : St Z p l e R s m args below meth c n0 T h k n) {o : Int} {x : Int32} (hd : decode bytes pc = .ok (.ifCond .gt o, 3)) (hp : pc + 3 = pc') (ho : 0 ≤ (pc : Int) + o) (hp2 : ((pc : Int) + o).toNat = pc2) (h1 : 0 < x.toInt → Go p e below Q (T.setTop (mkF m pc2 Ls st))) (h2 : x.toInt ≤ 0 → Go p e below Q (T.setTop (mkF m pc' Ls st))) : Go p e below Q (T.setTop (mkF m pc Ls (.int x :: st))) := go_if C X hd hp ho hp2 (fun q => h1 (ic_gt.1.mp q)) (fun q => h2 (ic_gt.2.mp q))
theorem go_lif_gt (C : Cx p s m meth c Z a0 own bytes maxL ret nm) (X : St Z p l e R s m args below meth c n0 T h k n) {o : Int} {x y : Int64} {pc1 : Nat} (hp1 : pc + 1 = pc1) (hd1 : decode bytes pc = .ok (.lcmp, 1)) (hd : decode bytes pc1 = .ok (.ifCond .gt o, 3)) (hp : pc1 + 3 = pc') (ho : 0 ≤ (pc1 : Int) + o) (hp2 : ((pc1 : Int) + o).toNat = pc2) (h1 : y.toInt < x.toInt → Go p e below Q (T.setTop (mkF m pc2 Ls st))) (h2 : x.toInt ≤ y.toInt → Go p e below Q (T.setTop (mkF m pc' Ls st))) : Go p e below Q (T.setTop (mkF m pc Ls (.long y :: .long x :: st))) := go_lcmp C X _ hp1 hd1 (go_if_gt C X hd hp ho hp2 (fun q => h1 ((lc_i x y).2.1.mp q)) (fun q => h2 (by have := mt (lc_i x y).2.1.mpr (by omega); omega)))
theorem go_icmp_le (C : Cx p s m meth c Z a0 own bytes maxL ret nm) (X : St Z p l e R s m args below meth c n0 T h k n) {o : Int} {x y : Int32} (hd : decode bytes pc = .ok (.if_icmp .le o, 3)) (hp : pc + 3 = pc') (ho : 0 ≤ (pc : Int) + o) (hp2 : ((pc : Int) + o).toNat = pc2) (h1 : x.toInt ≤ y.toInt → Go p e below Q (T.setTop (mkF m pc2 Ls st))) (h2 : y.toInt < x.toInt → Go p e below Q (T.setTop (mkF m pc' Ls st))) : Go p e below Q (T.setTop (mkF m pc Ls (.int y :: .int x :: st))) := go_icmp C X hd hp ho hp2 (fun q => h1 (ic_le.1.mp q)) (fun q => h2 (ic_le.2.mp q))
theorem go_if_le (C : Cx p s m meth c Z a0 own bytes maxL ret nm) (X : St Z p l e R s m args below meth c n0 T h k n) {o : Int} {x : Int32} (hd : decode bytes pc = .ok (.ifCond .le o, 3)) (hp : pc + 3 = pc') (ho : 0 ≤ (pc : Int) + o) (hp2 : ((pc : Int) + o).toNat = pc2) (h1 : x.toInt ≤ 0 → Go p e below Q (T.setTop (mkF m pc2 Ls st))) (h2 : 0 < x.toInt → Go p e below Q (T.setTop (mkF m pc' Ls st))) : Go p e below Q (T.setTop (mkF m pc Ls (.int x :: st))) := go_if C X hd hp ho hp2 (fun q => h1 (ic_le.1.mp q)) (fun q => h2 (ic_le.2.mp q))
theorem go_lif_le (C : Cx p s m meth c Z a0 own bytes maxL ret nm) (X : St Z p l e R s m args below meth c n0 T h k n) {o : Int} {x y : Int64} {pc1 : Nat} (hp1 : pc + 1 = pc1) (hd1 : decode bytes pc = .ok (.lcmp, 1)) (hd : decode bytes pc1 = .ok (.ifCond .le o, 3)) (hp : pc1 + 3 = pc') (ho : 0 ≤ (pc1 : Int) + o) (hp2 : ((pc1 : Int) + o).toNat = pc2) (h1 : x.toInt ≤ y.toInt → Go p e below Q (T.setTop (mkF m pc2 Ls st))) (h2 : y.toInt < x.toInt → Go p e below Q (T.setTop (mkF m pc' Ls st))) : Go p e below Q (T.setTop (mkF m pc Ls (.long y :: .long x :: st))) := go_lcmp C X _ hp1 hd1 (go_if_le C X hd hp ho hp2 (fun q => h1 (by have := mt (lc_i x y).2.1.mpr (by omega); omega)) (fun q => h2 ((lc_i x y).2.1.mp q)))
theorem go_icmp_eq (C : Cx p s m meth c Z a0 own bytes maxL ret nm) (X : St Z p l e R s m args below meth c n0 T h k n) {o : Int} {x y : Int32} (hd : decode bytes pc = .ok (.if_icmp .eq o, 3)) (hp : pc + 3 = pc') (ho : 0 ≤ (pc : Int) + o) (hp2 : ((pc : Int) + o).toNat = pc2) (h1 : x = y → Go p e below Q (T.setTop (mkF m pc2 Ls st))) (h2 : ¬ x = y → Go p e below Q (T.setTop (mkF m pc' Ls st))) : Go p e below Q (T.setTop (mkF m pc Ls (.int y :: .int x :: st))) := go_icmp C X hd hp ho hp2 (fun q => h1 (ic_eq.1.mp q)) (fun q => h2 (ic_eq.2.mp q))
theorem go_if_eq (C : Cx p s m meth c Z a0 own bytes maxL ret nm) (X : St Z p l e R s m args below meth c n0 T h k n) {o : Int} {x : Int32} (hd : decode bytes pc = .ok (.ifCond .eq o, 3)) (hp : pc + 3 = pc') (ho : 0 ≤ (pc : Int) + o) (hp2 : ((pc : Int) + o).toNat = pc2) (h1 : x = 0 → Go p e below Q (T.setTop (mkF m pc2 Ls st))) (h2 : ¬ x = 0 → Go p e below Q (T.setTop (mkF m pc' Ls st))) : Go p e below Q (T.setTop (mkF m pc Ls (.int x :: st))) := go_if C X hd hp ho hp2 (fun q => h1 (ic_eq.1.mp q)) (fun q => h2 (ic_eq.2.mp q))
theorem go_lif_eq (C : Cx p s m meth c Z a0 own bytes maxL ret nm) (X : St Z p l e R s m args below meth c n0 T h k n) {o : Int} {x y : Int64} {pc1 : Nat} (hp1 : pc + 1 = pc1) (hd1 : decode bytes pc = .ok (.lcmp, 1)) (hd : decode bytes pc1 = .ok (.ifCond .eq o, 3)) (hp : pc1 + 3 = pc') (ho : 0 ≤ (pc1 : Int) + o) (hp2 : ((pc1 : Int) + o).toNat = pc2) (h1 : x = y → Go p e below Q (T.setTop (mkF m pc2 Ls st))) (h2 : ¬ x = y → Go p e below Q (T.setTop (mkF m pc' Ls st))) : Go p e below Q (T.setTop (mkF m pc Ls (.long y :: .long x :: st))) := go_lcmp C X _ hp1 hd1 (go_if_eq C X hd hp ho hp2 (fun q => h1 ((lc_i x y).2.2.mp q)) (fun q => h2 (mt (lc_i x y).2.2.mpr q)))
theorem go_icmp_ne (C : Cx p s m meth c Z a0 own bytes maxL ret nm) (X : St Z p l e R s m args below meth c n0 T h k n) {o : Int} {x y : Int32} (hd : decode bytes pc = .ok (.if_icmp .ne o, 3)) (hp : pc + 3 = pc') (ho : 0 ≤ (pc : Int) + o) (hp2 : ((pc : Int) + o).toNat = pc2) (h1 : ¬ x = y → Go p e below Q (T.setTop (mkF m pc2 Ls st))) (h2 : x = y → Go p e below Q (T.setTop (mkF m pc' Ls st))) : Go p e below Q (T.setTop (mkF m pc Ls (.int y :: .int x :: st))) := go_icmp C X hd hp ho hp2 (fun q => h1 (ic_ne.1.mp q)) (fun q => h2 (ic_ne.2.mp q))
theorem go_if_ne (C : Cx p s m meth c Z a0 own bytes maxL ret nm) (X : St Z p l e R s m args below meth c n0 T h k n) {o : Int} {x : Int32} (hd : decode bytes pc = .ok (.ifCond .ne o, 3)) (hp : pc + 3 = pc') (ho : 0 ≤ (pc : Int) + o) (hp2 : ((pc : Int) + o).toNat = pc2) (h1 : ¬ x = 0 → Go p e below Q (T.setTop (mkF m pc2 Ls st))) (h2 : x = 0 → Go p e below Q (T.setTop (mkF m pc' Ls st))) : Go p e below Q (T.setTop (mkF m pc Ls (.int x :: st))) := go_if C X hd hp ho hp2 (fun q => h1 (ic_ne.1.mp q)) (fun q => h2 (ic_ne.2.mp q))
theorem go_lif_ne (C : Cx p s m meth c Z a0 own bytes maxL ret nm) (X : St Z p l e R s m args below meth c n0 T h k n) {o : Int} {x y : Int64} {pc1 : Nat} (hp1 : pc + 1 = pc1) (hd1 : decode bytes pc = .ok (.lcmp, 1)) (hd : decode bytes pc1 = .ok (.ifCond .ne o, 3)) (hp : pc1 + 3 = pc') (ho : 0 ≤ (pc1 : Int) + o) (hp2 : ((pc1 : Int) + o).toNat = pc2) (h1 : ¬ x = y → Go p e below Q (T.setTop (mkF m pc2 Ls st))) (h2 : x = y → Go p e below Q (T.setTop (mkF m pc' Ls st))) : Go p e below Q (T.setTop (mkF m pc Ls (.long y :: .long x :: st))) := go_lcmp C X _ hp1 hd1 (go_if_ne C X hd hp ho hp2 (fun q => h1 (mt (lc_i x y).2.2.mpr q)) (fun q => h2 ((lc_i x y).2.2.mp q)))
theorem go_dload (C : Cx p s m meth c Z a0 own bytes maxL ret nm) (X : St Z p l e R s m args below meth c n0 T h k n) {i : Nat} {v : UInt64} (pc' : Nat) (hp : pc + 2 = pc') (hd : decode bytes pc = .ok (.dload i, 2)) (hl : Ls[i]? = some (.val (.double v))) (hr : Go p e below Q (T.setTop (mkF m pc' Ls (.double v :: st)))) : Go p e below Q (T.setTop (mkF m pc Ls st)) := by
  subst hp
  obtain ⟨locs, Y, -, -, -⟩ := X
  exact Go.back (fun t kt => Jvm.Free.XS.dload Y.here C.1 rfl (C.cd hd) hl kt) hr
theorem go_dloadN (C : Cx p s m meth c Z a0 own bytes maxL ret nm) (X : St Z p l e R s m args below meth c n0 T h k n) {i : Fin 4} {v : UInt64} (pc' : Nat) (hp : pc + 1 = pc') (hd : decode bytes pc = .ok (.dload_n i, 1)) (hl : Ls[i.val]? = some (.val (.double v))) (hr : Go p e below Q (T.setTop (mkF m pc' Ls (.double v :: st)))) : Go p e below Q (T.setTop (mkF m pc Ls st)) := by
  subst hp
  obtain ⟨locs, Y, -, -, -⟩ := X
  exact Go.back (fun t kt => Jvm.Free.XS.dloadN Y.here C.1 rfl (C.cd hd) hl kt) hr
theorem go_dstore (C : Cx p s m meth c Z a0 own bytes maxL ret nm) (X : St Z p l e R s m args below meth c n0 T h k n) {i : Nat} {v : UInt64} (pc' : Nat) (hp : pc + 2 = pc') (hd : decode bytes pc = .ok (.dstore i, 2)) (Ls' : Array Slot) (hl : storeLocals Ls i (.double v) = some Ls') (hr : Go p e below Q (T.setTop (mkF m pc' Ls' st))) : Go p e below Q (T.setTop (mkF m pc Ls (.double v :: st))) := by
  subst hp
  obtain ⟨locs, Y, -, -, -⟩ := X
  exact Go.back (fun t kt => Jvm.Free.XS.dstore Y.here C.1 rfl (C.cd hd) rfl hl kt) hr
theorem go_dstoreN (C : Cx p s m meth c Z a0 own bytes maxL ret nm) (X : St Z p l e R s m args below meth c n0 T h k n) {i : Fin 4} {v : UInt64} (pc' : Nat) (hp : pc + 1 = pc') (hd : decode bytes pc = .ok (.dstore_n i, 1)) (Ls' : Array Slot) (hl : storeLocals Ls i.val (.double v) = some Ls') (hr : Go p e below Q (T.setTop (mkF m pc' Ls' st))) : Go p e below Q (T.setTop (mkF m pc Ls (.double v :: st))) := by
  subst hp
  obtain ⟨locs, Y, -, -, -⟩ := X
  exact Go.back (fun t kt => Jvm.Free.XS.dstoreN Y.here C.1 rfl (C.cd hd) rfl hl kt) hr
theorem go_dconst0 (C : Cx p s m meth c Z a0 own bytes maxL ret nm) (X : St Z p l e R s m args below meth c n0 T h k n)  (pc' : Nat) (hp : pc + 1 = pc') (hd : decode bytes pc = .ok (.dconst 0, 1)) (hr : Go p e below Q (T.setTop (mkF m pc' Ls (.double (FP.l2d 0) :: st)))) : Go p e below Q (T.setTop (mkF m pc Ls st)) := by
  subst hp
  obtain ⟨locs, Y, -, -, -⟩ := X
  exact Go.back (fun t kt => Jvm.Free.XS.dconst0 Y.here C.1 rfl (C.cd hd) (by decide +kernel) kt) hr
theorem go_i2d (C : Cx p s m meth c Z a0 own bytes maxL ret nm) (X : St Z p l e R s m args below meth c n0 T h k n) {x : Int32} (pc' : Nat) (hp : pc + 1 = pc') (hd : decode bytes pc = .ok (.i2d, 1)) (hr : Go p e below Q (T.setTop (mkF m pc' Ls (.double (FP.l2d x.toInt64) :: st)))) : Go p e below Q (T.setTop (mkF m pc Ls (.int x :: st))) := by
  subst hp
  obtain ⟨locs, Y, -, -, -⟩ := X
  exact Go.back (fun t kt => Jvm.Free.XS.i2dS Y.here C.1 rfl (C.cd hd) rfl (i2d_w x) kt) hr
theorem go_l2d (C : Cx p s m meth c Z a0 own bytes maxL ret nm) (X : St Z p l e R s m args below meth c n0 T h k n) {x : Int64} (pc' : Nat) (hp : pc + 1 = pc') (hd : decode bytes pc = .ok (.l2d, 1)) (hr : Go p e below Q (T.setTop (mkF m pc' Ls (.double (FP.l2d x) :: st)))) : Go p e below Q (T.setTop (mkF m pc Ls (.long x :: st))) := by
  subst hp
  obtain ⟨locs, Y, -, -, -⟩ := X
  exact Go.back (fun t kt => Jvm.Free.XS.l2dS Y.here C.1 rfl (C.cd hd) rfl rfl kt) hr
theorem go_dadd (C : Cx p s m meth c Z a0 own bytes maxL ret nm) (X : St Z p l e R s m args below meth c n0 T h k n) {x y : Int64} (pc' : Nat) (hp : pc + 1 = pc') (hd : decode bytes pc = .ok (.dadd, 1)) (ha : B53 x) (hb : B53 y) (hr : Go p e below Q (T.setTop (mkF m pc' Ls (.double (FP.l2d (x + y)) :: st)))) : Go p e below Q (T.setTop (mkF m pc Ls (.double (FP.l2d y) :: .double (FP.l2d x) :: st))) := by
  subst hp
  obtain ⟨locs, Y, -, -, -⟩ := X
  exact Go.back (fun t kt => Jvm.Free.XS.daddS Y.here C.1 rfl (C.cd hd) rfl (nn_w (dadd_w ha hb)) (dadd_w ha hb) kt) hr
theorem go_dcmp (C : Cx p s m meth c Z a0 own bytes maxL ret nm) (X : St Z p l e R s m args below meth c n0 T h k n) {o : CmpOp} {x y : Int64} (pc' : Nat) (hp : pc + 1 = pc') (hd : decode bytes pc = .ok (.dcmp o, 1)) (ha : B53 x) (hb : B53 y) (hr : Go p e below Q (T.setTop (mkF m pc' Ls (.int (lcmpW x y) :: st)))) : Go p e below Q (T.setTop (mkF m pc Ls (.double (FP.l2d y) :: .double (FP.l2d x) :: st))) := by
  subst hp
  obtain ⟨locs, Y, -, -, -⟩ := X
  exact Go.back (fun t kt => Jvm.Free.XS.dcmpS Y.here C.1 rfl (C.cd hd) rfl (dcmpV_w ha hb o) kt) hr
theorem go_ldcInt (C : Cx p s m meth c Z a0 own bytes maxL ret nm) (X : St Z p l e R s m args below meth c n0 T h k n) {idx : Nat} {v : Int32} (w : (Jvm.Cond.constant own idx v).before a0 Z = true) (hp : pc + 2 = pc') (hd : decode bytes pc = .ok (.ldc idx, 2)) (hr : Go p e below Q (T.setTop (mkF m pc' Ls (.int v :: st)))) : Go p e below Q (T.setTop (mkF m pc Ls st)) := by
  subst hp
  obtain ⟨locs, Y, -, -, -⟩ := X
  exact Go.back (fun t kt => Y.ldcInt C.1 C.ow (mvT C.hZ w) (g := mkF m pc Ls st) rfl (C.cd hd) t kt) hr
theorem go_ldcwInt (C : Cx p s m meth c Z a0 own bytes maxL ret nm) (X : St Z p l e R s m args below meth c n0 T h k n) {idx : Nat} {v : Int32} (w : (Jvm.Cond.constant own idx v).before a0 Z = true) (hp : pc + 3 = pc') (hd : decode bytes pc = .ok (.ldc_w idx, 3)) (hr : Go p e below Q (T.setTop (mkF m pc' Ls (.int v :: st)))) : Go p e below Q (T.setTop (mkF m pc Ls st)) := by
  subst hp
  obtain ⟨locs, Y, -, -, -⟩ := X
  exact Go.back (fun t kt => Y.ldcwInt C.1 C.ow (mvT C.hZ w) (g := mkF m pc Ls st) rfl (C.cd hd) t kt) hr
theorem go_ldc2Long (C : Cx p s m meth c Z a0 own bytes maxL ret nm) (X : St Z p l e R s m args below meth c n0 T h k n) {idx : Nat} {v : Int64} (w : (Jvm.Cond.constantLong own idx v).before a0 Z = true) (hp : pc + 3 = pc') (hd : decode bytes pc = .ok (.ldc2_w idx, 3)) (hr : Go p e below Q (T.setTop (mkF m pc' Ls (.long v :: st)))) : Go p e below Q (T.setTop (mkF m pc Ls st)) := by
  subst hp
  obtain ⟨locs, Y, -, -, -⟩ := X
  exact Go.back (fun t kt => Y.ldc2Long C.1 C.ow (mvT C.hZ w) (g := mkF m pc Ls st) rfl (C.cd hd) t kt) hr
variable {kc kn : Nat} {Qy : Option Value → Heap → Prop}
theorem go_leave (C : Cx p s m meth c Z a0 own bytes maxL ret nm) (X : St Z p l e R s m args below meth c n0 T h k n) {v : Option Value} {f : JFrame} (hv : meth.sig.returnType = none → v = none) (hQ : Qy v h) (hk : k ≤ kc) (hn : n ≤ kn)
    (go : ∀ {locs : List Loc} (Y : Stand p l e R s m args below meth c T locs k n) {fs : List Frame}, (∀ (f : JFrame) (acts : List Action), f.method = m → f.locked = none → f.entered = [] → (doReturn e (T.setTop f) acts v).1 = T.setFrames fs) → Steps p.tables e below (T.setTop f) (T.setFrames fs)) :
    Go p e below (FinQ s kc kn n0 Qy) (T.setTop f) := by
  obtain ⟨locs, Y, N, -, rfl⟩ := X
  obtain ⟨fs, hr, hrun, hended, hW, hsame⟩ := Y.leave hv C.lk
  exact ⟨_, _, go Y hr, hrun, hended, _, _, rfl, ⟨N, hQ⟩, ⟨_, rfl⟩, hW, hsame.mono hk hn⟩
theorem go_ret0 (C : Cx p s m meth c Z a0 own bytes maxL none nm) (X : St Z p l e R s m args below meth c n0 T h k n) (hd : decode bytes pc = .ok (.return_, 1)) (hQ : Qy none h) (hk : k ≤ kc) (hn : n ≤ kn) : Go p e below (FinQ s kc kn n0 Qy) (T.setTop (mkF m pc Ls [])) :=
  go_leave C X (fun _ => rfl) hQ hk hn fun Y _ hr => Y.returnOut C.1 C.rt (C.cd hd) hr
theorem go_retI (C : Cx p s m meth c Z a0 own bytes maxL (some .int) nm) (X : St Z p l e R s m args below meth c n0 T h k n) {z : Int32} (hd : decode bytes pc = .ok (.ireturn, 1)) (hQ : Qy (some (.int z)) h) (hk : k ≤ kc) (hn : n ≤ kn) : Go p e below (FinQ s kc kn n0 Qy) (T.setTop (mkF m pc Ls (.int z :: st))) :=
  go_leave C X (fun q => by rw [C.rt] at q; cases q) hQ hk hn fun Y _ hr => retOut Y C.1 C.rt rfl (Or.inl ⟨rfl, Or.inl rfl, _, rfl⟩) (C.cd hd) hr
theorem go_retJ (C : Cx p s m meth c Z a0 own bytes maxL (some .long) nm) (X : St Z p l e R s m args below meth c n0 T h k n) {z : Int64} (hd : decode bytes pc = .ok (.lreturn, 1)) (hQ : Qy (some (.long z)) h) (hk : k ≤ kc) (hn : n ≤ kn) : Go p e below (FinQ s kc kn n0 Qy) (T.setTop (mkF m pc Ls (.long z :: st))) :=
  go_leave C X (fun q => by rw [C.rt] at q; cases q) hQ hk hn fun Y _ hr => retOut Y C.1 C.rt rfl (Or.inr (Or.inl ⟨rfl, rfl, _, rfl⟩)) (C.cd hd) hr
theorem go_retD (C : Cx p s m meth c Z a0 own bytes maxL (some .double) nm) (X : St Z p l e R s m args below meth c n0 T h k n) {z : UInt64} (hd : decode bytes pc = .ok (.dreturn, 1)) (hQ : Qy (some (.double z)) h) (hk : k ≤ kc) (hn : n ≤ kn) : Go p e below (FinQ s kc kn n0 Qy) (T.setTop (mkF m pc Ls (.double z :: st))) :=
  go_leave C X (fun q => by rw [C.rt] at q; cases q) hQ hk hn fun Y _ hr => retOut Y C.1 C.rt rfl (Or.inr (Or.inr (Or.inl ⟨rfl, rfl, _, rfl⟩))) (C.cd hd) hr
theorem go_retA {ty : FieldType} (C : Cx p s m meth c Z a0 own bytes maxL (some ty) nm) (X : St Z p l e R s m args below meth c n0 T h k n) {v : Value} (hd : decode bytes pc = .ok (.areturn, 1)) (ht : ty.isReference = true) (hv : v.isRef = true) (hQ : Qy (some v) h) (hk : k ≤ kc) (hn : n ≤ kn) : Go p e below (FinQ s kc kn n0 Qy) (T.setTop (mkF m pc Ls (v :: st))) :=
  go_leave C X (fun q => by rw [C.rt] at q; cases q) hQ hk hn fun Y _ hr => retOut Y C.1 C.rt (by cases ty <;> first | (cases ht; done) | rfl) (Or.inr (Or.inr (Or.inr (Or.inr ⟨rfl, ht, hv⟩)))) (C.cd hd) hr
theorem go_retN {ty : FieldType} (C : Cx p s m meth c Z a0 own bytes maxL (some ty) nm) (X : St Z p l e R s m args below meth c n0 T h k n) {z z' : Int32} (ht : ty = .boolean ∨ ty = .byte ∨ ty = .char ∨ ty = .short) (hz : nar ty z = z') (hd : decode bytes pc = .ok (.ireturn, 1)) (hQ : Qy (some (.int z')) h) (hk : k ≤ kc) (hn : n ≤ kn) : Go p e below (FinQ s kc kn n0 Qy) (T.setTop (mkF m pc Ls (.int z :: st))) := by
  subst hz
  exact go_leave C X (fun q => by rw [C.rt] at q; cases q) hQ hk hn fun Y _ hr => retN Y C.1 C.rt ht (C.cd hd) hr
/-! calls by the callee's contract -/
variable {idx : Nat} {y : MethodName} {yb : ByteArray} {yl : Nat} {yr : Option FieldType} {rm : Room} {as' : Array Value} {QY : Option Value → Heap → Prop} {argsL rest : List Value}
theorem con_back (C : Cx p s m meth c Z a0 own bytes maxL ret nm) (hM : Con l Z y yb yl yr rm as' h n0 QY) {W : Nat} (wc : (Jvm.Cond.code y yb yl yr).before a0 Z = true) (wz : (Jvm.Cond.initialized y.cls).before a0 Z = true) (hf : rm.frames + 1 ≤ R.frames) (hl : W + (yl + 11) + rm.locals ≤ R.locals) :
    Back l R p e below s args y 3 W (fun A a => a = as' ∧ A.U.heap = h ∧ A.cells + rm.cells ≤ R.cells ∧ A.slots + rm.slots ≤ R.slots) (fun A _ v B => ∃ L, (Fr n0 L ∧ QY v B.U.heap) ∧ B.locs = A.locs ++ L ∧ B.cells = A.cells + rm.cells ∧ B.slots = A.slots + rm.slots) :=
  backOf (Q := fun v h' L => Fr n0 L ∧ QY v h') (hM []) C.hZ wc wz hf hl
theorem go_callS (C : Cx p s m meth c Z a0 own bytes maxL ret nm) (X : St Z p l e R s m args below meth c n0 T h k n) (wl : (Jvm.Cond.methodLink own idx y).before a0 Z = true) (ws : (Jvm.Cond.static y).before a0 Z = true) (wi : (Jvm.Cond.initialized y.cls).before a0 Z = true) (wc : (Jvm.Cond.code y yb yl yr).before a0 Z = true)
    (hM : Con l Z y yb yl yr rm as' h n0 QY) (hlen : ∀ sig, parseMethodDescriptor y.desc = some sig → argsL.length = sig.parameters.length) (ha : argsL.toArray = as') (hy : y.cls ≠ "java/lang/invoke/MethodHandle" ∧ y.cls ≠ "java/lang/invoke/VarHandle")
    (hf : rm.frames + 1 ≤ R.frames) (hl : (rest.map fun v => v.category).sum + (yl + 11) + rm.locals ≤ R.locals) (hc : k + rm.cells ≤ R.cells) (hn : n + rm.slots ≤ R.slots) (hst : st = argsL.reverse ++ rest) (hsz : Ls.size = maxL) (hp : pc + 3 = pc') (hd : decode bytes pc = .ok (.invokestatic idx, 3))
    (hr : ∀ T' h' v, QY v h' → St Z p l e R s m args below meth c n0 T' h' (k + rm.cells) (n + rm.slots) → Go p e below Q (T'.setTop (mkF m pc' Ls (v.toList ++ rest)))) : Go p e below Q (T.setTop (mkF m pc Ls st)) := by
  subst hp; subst ha; subst hst
  obtain ⟨locs, Y, N, zs, eT⟩ := X
  obtain ⟨v, _, ⟨T', L', k', n'⟩, -, X', ⟨Lc, ⟨N', hQ⟩, l1, y1, z1⟩, stp⟩ := Jvm.LawKit.callS Y C.1 C.ow (mvT C.hZ wl) (mvT C.hZ ws) (mvT C.hZ wi) (mvT C.hZ wc) hy (con_back C hM (W := (rest.map fun v => v.category).sum) wc wi hf hl) (g := mkF m pc Ls (argsL.reverse ++ rest)) rfl (hsz.trans C.ml.symm) (argsL := argsL) (rest := rest) hlen rfl (by show 2 * 0 + _ ≤ _; omega) (C.cd hd) (fun _ _ => ⟨rfl, eT, hc, hn⟩)
  dsimp only [Pt.U, Pt.locs, Pt.cells, Pt.slots] at X' l1 y1 z1 stp hQ
  subst l1 y1 z1
  exact Go.back stp (hr T' T'.heap v hQ ⟨_, X', N.app N', zs, rfl⟩)
theorem go_special (C : Cx p s m meth c Z a0 own bytes maxL ret nm) (X : St Z p l e R s m args below meth c n0 T h k n) {a : Addr} (wl : (Jvm.Cond.methodLink own idx y).before a0 Z = true) (ws : (Jvm.Cond.instanceMethod y).before a0 Z = true) (wi : (Jvm.Cond.initialized y.cls).before a0 Z = true) (wc : (Jvm.Cond.code y yb yl none).before a0 Z = true) (hy1 : y.name = "<init>")
    (hM : Con l Z y yb yl none rm as' h n0 QY) (hlen : ∀ sig, parseMethodDescriptor y.desc = some sig → argsL.length = sig.parameters.length) (ha : (.ref a :: argsL).toArray = as') (hy : y.cls ≠ "java/lang/invoke/MethodHandle" ∧ y.cls ≠ "java/lang/invoke/VarHandle")
    (hf : rm.frames + 1 ≤ R.frames) (hl : (rest.map fun v => v.category).sum + (yl + 11) + rm.locals ≤ R.locals) (hc : k + rm.cells ≤ R.cells) (hn : n + rm.slots ≤ R.slots) (hst : st = argsL.reverse ++ .ref a :: rest) (hsz : Ls.size = maxL) (hp : pc + 3 = pc') (hd : decode bytes pc = .ok (.invokespecial idx, 3))
    (hr : ∀ T' h' v, QY v h' → St Z p l e R s m args below meth c n0 T' h' (k + rm.cells) (n + rm.slots) → Go p e below Q (T'.setTop (mkF m pc' Ls (v.toList ++ rest)))) : Go p e below Q (T.setTop (mkF m pc Ls st)) := by
  subst hp; subst ha; subst hst
  obtain ⟨locs, Y, N, zs, eT⟩ := X
  obtain ⟨v, _, ⟨T', L', k', n'⟩, -, X', ⟨Lc, ⟨N', hQ⟩, l1, y1, z1⟩, stp⟩ := Y.specialBack C.1 hy1 C.ow (mvT C.hZ wl) (mvT C.hZ ws) (mvT C.hZ wc) hy (con_back C hM (W := (rest.map fun v => v.category).sum) wc wi hf hl) (g := mkF m pc Ls (argsL.reverse ++ .ref a :: rest)) rfl (hsz.trans C.ml.symm) (Steps.refl _) (a := a) (argsL := argsL) (rest := rest) hlen rfl (by show 2 * 0 + _ ≤ _; omega) (C.cd hd) (fun _ _ => ⟨rfl, eT, hc, hn⟩)
  dsimp only [Pt.U, Pt.locs, Pt.cells, Pt.slots] at X' l1 y1 z1 stp hQ
  subst l1 y1 z1
  exact Go.back (fun t kt => stp.trans kt) (hr T' T'.heap v hQ ⟨_, X', N.app N', zs, rfl⟩)
theorem go_virtual (C : Cx p s m meth c Z a0 own bytes maxL ret nm) (X : St Z p l e R s m args below meth c n0 T h k n) {a : Addr} {cn : String} {y0 : MethodName} (E : Exa Z h a cn) (wl : (Jvm.Cond.methodLink own idx y0).before a0 Z = true) (wd : (Jvm.Cond.declares y0).before a0 Z = true) (hnf : NotFace s y0) (wsel : (Jvm.Cond.selects cn y0 y).before a0 Z = true) (ws : (Jvm.Cond.instanceMethod y).before a0 Z = true) (wi : (Jvm.Cond.initialized y.cls).before a0 Z = true) (wc : (Jvm.Cond.code y yb yl yr).before a0 Z = true)
    (hM : Con l Z y yb yl yr rm as' h n0 QY) (hlen : ∀ sig, parseMethodDescriptor y0.desc = some sig → argsL.length = sig.parameters.length) (ha : (.ref a :: argsL).toArray = as') (hy : y0.cls ≠ "java/lang/invoke/MethodHandle" ∧ y0.cls ≠ "java/lang/invoke/VarHandle")
    (hf : rm.frames + 1 ≤ R.frames) (hl : (rest.map fun v => v.category).sum + (yl + 11) + rm.locals ≤ R.locals) (hc : k + rm.cells ≤ R.cells) (hn : n + rm.slots ≤ R.slots) (hst : st = argsL.reverse ++ .ref a :: rest) (hsz : Ls.size = maxL) (hp : pc + 3 = pc') (hd : decode bytes pc = .ok (.invokevirtual idx, 3))
    (hr : ∀ T' h' v, QY v h' → St Z p l e R s m args below meth c n0 T' h' (k + rm.cells) (n + rm.slots) → Go p e below Q (T'.setTop (mkF m pc' Ls (v.toList ++ rest)))) : Go p e below Q (T.setTop (mkF m pc Ls st)) := by
  subst hp; subst ha; subst hst
  obtain ⟨locs, Y, N, zs, eT⟩ := X
  obtain ⟨cq, kq, qa, qb, qc⟩ := isOf C.hZ eT E
  obtain ⟨v, _, ⟨T', L', k', n'⟩, -, X', ⟨Lc, ⟨N', hQ⟩, l1, y1, z1⟩, stp⟩ := Y.virtualBack C.1 C.ow (mvT C.hZ wl) (mvT C.hZ wd) hnf (mvT C.hZ wsel) (mvT C.hZ ws) hy (con_back C hM (W := (rest.map fun v => v.category).sum) wc wi hf hl) qa qc (g := mkF m pc Ls (argsL.reverse ++ .ref a :: rest)) rfl (hsz.trans C.ml.symm) (Steps.refl _) (argsL := argsL) (rest := rest) hlen rfl (by show 2 * 0 + _ ≤ _; omega) (C.cd hd) (fun _ _ => ⟨rfl, eT, hc, hn⟩)
  dsimp only [Pt.U, Pt.locs, Pt.cells, Pt.slots] at X' l1 y1 z1 stp hQ
  subst l1 y1 z1
  exact Go.back (fun t kt => stp.trans kt) (hr T' T'.heap v hQ ⟨_, X', N.app N', zs, rfl⟩)
theorem go_private (C : Cx p s m meth c Z a0 own bytes maxL ret nm) (X : St Z p l e R s m args below meth c n0 T h k n) {a : Addr} {cn : String} (E : Exa Z h a cn) (wl : (Jvm.Cond.methodLink own idx y).before a0 Z = true) (ws : (Jvm.Cond.instanceMethod y).before a0 Z = true) (wsel : (Jvm.Cond.selects y.cls y y).before a0 Z = true) (wp : (Jvm.Cond.privateMethod y).before a0 Z = true) (wi : (Jvm.Cond.initialized y.cls).before a0 Z = true) (wc : (Jvm.Cond.code y yb yl yr).before a0 Z = true)
    (hM : Con l Z y yb yl yr rm as' h n0 QY) (hlen : ∀ sig, parseMethodDescriptor y.desc = some sig → argsL.length = sig.parameters.length) (ha : (.ref a :: argsL).toArray = as') (hy : y.cls ≠ "java/lang/invoke/MethodHandle" ∧ y.cls ≠ "java/lang/invoke/VarHandle")
    (hf : rm.frames + 1 ≤ R.frames) (hl : (rest.map fun v => v.category).sum + (yl + 11) + rm.locals ≤ R.locals) (hc : k + rm.cells ≤ R.cells) (hn : n + rm.slots ≤ R.slots) (hst : st = argsL.reverse ++ .ref a :: rest) (hsz : Ls.size = maxL) (hp : pc + 3 = pc') (hd : decode bytes pc = .ok (.invokevirtual idx, 3))
    (hr : ∀ T' h' v, QY v h' → St Z p l e R s m args below meth c n0 T' h' (k + rm.cells) (n + rm.slots) → Go p e below Q (T'.setTop (mkF m pc' Ls (v.toList ++ rest)))) : Go p e below Q (T.setTop (mkF m pc Ls st)) := by
  subst hp; subst ha; subst hst
  obtain ⟨locs, Y, N, zs, eT⟩ := X
  obtain ⟨cq, q1, q2⟩ := E.cell
  obtain ⟨v, _, ⟨T', L', k', n'⟩, -, X', ⟨Lc, ⟨N', hQ⟩, l1, y1, z1⟩, stp⟩ := Y.privateBack C.1 C.ow (mvT C.hZ wl) (mvT C.hZ ws) (mvT C.hZ wsel) (Cond.privateMethod_at (mvP C.hZ wp (args := #[]))) (mvT C.hZ wc) hy (con_back C hM (W := (rest.map fun v => v.category).sum) wc wi hf hl) (g := mkF m pc Ls (argsL.reverse ++ .ref a :: rest)) rfl (hsz.trans C.ml.symm) (Steps.refl _) (a := a) (by rw [eT]; exact q1) q2 (argsL := argsL) (rest := rest) hlen rfl (by show 2 * 0 + _ ≤ _; omega) (C.cd hd) (fun _ _ => ⟨rfl, eT, hc, hn⟩)
  dsimp only [Pt.U, Pt.locs, Pt.cells, Pt.slots] at X' l1 y1 z1 stp hQ
  subst l1 y1 z1
  exact Go.back (fun t kt => stp.trans kt) (hr T' T'.heap v hQ ⟨_, X', N.app N', zs, rfl⟩)
theorem go_initO (C : Cx p s m meth c Z a0 own bytes maxL ret nm) (X : St Z p l e R s m args below meth c n0 T h k n) {a : Addr} (w1 : (Jvm.Cond.methodLink own idx Lib.objectInit).before a0 Z = true) (w2 : (Jvm.Cond.instanceMethod Lib.objectInit).before a0 Z = true) (w3 : (Jvm.Cond.code Lib.objectInit ⟨#[0xb1]⟩ 1 none).before a0 Z = true)
    (hf : 1 ≤ R.frames) (hl : (st.map fun v => v.category).sum + 12 ≤ R.locals) (hsz : Ls.size = maxL) (hp : pc + 3 = pc') (hd : decode bytes pc = .ok (.invokespecial idx, 3))
    (hr : ∀ T', St Z p l e R s m args below meth c n0 T' h k n → Go p e below Q (T'.setTop (mkF m pc' Ls st))) : Go p e below Q (T.setTop (mkF m pc Ls (.ref a :: st))) := by
  subst hp
  obtain ⟨locs, Y, N, zs, eT⟩ := X
  obtain ⟨T', X', e', stp⟩ := initO Y C.1 C.hZ C.ow w1 w2 w3 eT (g := mkF m pc Ls (.ref a :: st)) rfl (hsz.trans C.ml.symm) rfl (C.cd hd) hf (W := (st.map fun v => v.category).sum) (by show 2 * 0 + _ ≤ _; omega) hl
  exact Go.back stp (hr T' ⟨_, X', N, zs, e'⟩)
/-! fields, new objects, arrays -/
theorem go_getF (C : Cx p s m meth c Z a0 own bytes maxL ret nm) (X : St Z p l e R s m args below meth c n0 T h k n) {R0 O fn d : String} {a : Addr} {v : Value} (w : (Jvm.Cond.fieldLink own idx R0 fn d).before a0 Z = true) (via : Via Z R0 O fn d) (F : Fld Z h a O fn d v) (hp : pc + 3 = pc') (hd : decode bytes pc = .ok (.getfield idx, 3))
    (hr : ∀ T', St Z p l e R s m args below meth c n0 T' h k n → Go p e below Q (T'.setTop (mkF m pc' Ls (v :: st)))) : Go p e below Q (T.setTop (mkF m pc Ls (.ref a :: st))) := by
  subst hp
  obtain ⟨locs, Y, N, zs, eT⟩ := X
  obtain ⟨T', X', e', stp⟩ := getF Y C.1 C.hZ C.ow (host := "") (Or.inl w) via eT F (g := mkF m pc Ls (.ref a :: st)) rfl rfl (C.cd hd)
  exact Go.back stp (hr T' ⟨_, X', N, zs, e'⟩)
theorem go_getFN (C : Cx p s m meth c Z a0 own bytes maxL ret nm) (X : St Z p l e R s m args below meth c n0 T h k n) {R0 O fn d host : String} {a : Addr} {v : Value} (w : (Jvm.Cond.fieldLinkNest own idx R0 fn d host).before a0 Z = true) (via : Via Z R0 O fn d) (F : Fld Z h a O fn d v) (hp : pc + 3 = pc') (hd : decode bytes pc = .ok (.getfield idx, 3))
    (hr : ∀ T', St Z p l e R s m args below meth c n0 T' h k n → Go p e below Q (T'.setTop (mkF m pc' Ls (v :: st)))) : Go p e below Q (T.setTop (mkF m pc Ls (.ref a :: st))) := by
  subst hp
  obtain ⟨locs, Y, N, zs, eT⟩ := X
  obtain ⟨T', X', e', stp⟩ := getF Y C.1 C.hZ C.ow (host := host) (Or.inr w) via eT F (g := mkF m pc Ls (.ref a :: st)) rfl rfl (C.cd hd)
  exact Go.back stp (hr T' ⟨_, X', N, zs, e'⟩)
theorem go_getS (C : Cx p s m meth c Z a0 own bytes maxL ret nm) (X : St Z p l e R s m args below meth c n0 T h k n) {O fn d : String} {v : Value} (w : (Jvm.Cond.fieldLink own idx O fn d).before a0 Z = true) (F : Sta Z h O fn d v) (hp : pc + 3 = pc') (hd : decode bytes pc = .ok (.getstatic idx, 3))
    (hr : ∀ T', St Z p l e R s m args below meth c n0 T' h k n → Go p e below Q (T'.setTop (mkF m pc' Ls (v :: st)))) : Go p e below Q (T.setTop (mkF m pc Ls st)) := by
  subst hp
  obtain ⟨locs, Y, N, zs, eT⟩ := X
  obtain ⟨T', X', e', stp⟩ := getS2 Y C.1 C.hZ C.ow (host := "") (Or.inl w) Via.refl eT F (g := mkF m pc Ls st) rfl (C.cd hd)
  exact Go.back stp (hr T' ⟨_, X', N, zs, e'⟩)
theorem go_putF (C : Cx p s m meth c Z a0 own bytes maxL ret nm) (X : St Z p l e R s m args below meth c n0 T h k n) {R0 O fn d cn : String} {kk : Nat} {ty : FieldType} {a : Addr} {v old : Value} (w : (Jvm.Cond.fieldLink own idx R0 fn d).before a0 Z = true) (via : Via Z R0 O fn d) (F : Fld Z h a O fn d old) (E : Exa Z h a cn) (L : (Jvm.Cond.lays cn O fn d).before a0 Z = true ∨ ((Jvm.Cond.laysFinal cn O fn d).before a0 Z = true ∧ own = O ∧ meth.name = "<init>")) (wi : (Jvm.Cond.instantiable cn kk).before a0 Z = true) (ga : n0 ≤ a)
    (hty : parseFieldDescriptor d = some ty) (hn : narrow ty v = v) (hf : fits ty v = true) (hp : pc + 3 = pc') (hd : decode bytes pc = .ok (.putfield idx, 3))
    (hr : ∀ T' h', Wr h h' a (Jvm.RoadKit.slotOf Z O fn d) v → St Z p l e R s m args below meth c n0 T' h' k n → Go p e below Q (T'.setTop (mkF m pc' Ls st))) : Go p e below Q (T.setTop (mkF m pc Ls (v :: .ref a :: st))) := by
  subst hp
  obtain ⟨locs, Y, N, zs, eT⟩ := X
  obtain ⟨T', h', X', e', W, stp⟩ := putF Y C.1 C.hZ C.ow (host := "") (Or.inl w) via eT F E L wi hty hn hf (g := mkF m pc Ls (v :: .ref a :: st)) rfl rfl (C.cd hd)
  exact Go.back stp (hr T' h' W ⟨_, X', Fr.snoc X' N ga, zs, e'⟩)
theorem go_putFN (C : Cx p s m meth c Z a0 own bytes maxL ret nm) (X : St Z p l e R s m args below meth c n0 T h k n) {R0 O fn d cn : String} {kk : Nat} {ty : FieldType} {a : Addr} {v v' old : Value} (w : (Jvm.Cond.fieldLink own idx R0 fn d).before a0 Z = true) (via : Via Z R0 O fn d) (F : Fld Z h a O fn d old) (E : Exa Z h a cn) (L : (Jvm.Cond.lays cn O fn d).before a0 Z = true ∨ ((Jvm.Cond.laysFinal cn O fn d).before a0 Z = true ∧ own = O ∧ meth.name = "<init>")) (wi : (Jvm.Cond.instantiable cn kk).before a0 Z = true) (ga : n0 ≤ a)
    (hty : parseFieldDescriptor d = some ty) (hn : narrow ty v = v') (hf : fits ty v' = true) (hp : pc + 3 = pc') (hd : decode bytes pc = .ok (.putfield idx, 3))
    (hr : ∀ T' h', Wr h h' a (Jvm.RoadKit.slotOf Z O fn d) v' → St Z p l e R s m args below meth c n0 T' h' k n → Go p e below Q (T'.setTop (mkF m pc' Ls st))) : Go p e below Q (T.setTop (mkF m pc Ls (v :: .ref a :: st))) := by
  subst hp
  obtain ⟨locs, Y, N, zs, eT⟩ := X
  obtain ⟨T', h', X', e', W, stp⟩ := putFN Y C.1 C.hZ C.ow w via eT F E L wi hty hn hf (g := mkF m pc Ls (v :: .ref a :: st)) rfl rfl (C.cd hd)
  exact Go.back stp (hr T' h' W ⟨_, X', Fr.snoc X' N ga, zs, e'⟩)
theorem go_new (C : Cx p s m meth c Z a0 own bytes maxL ret nm) (X : St Z p l e R s m args below meth c n0 T h k n) {cn : String} {kk : Nat} (w : (Jvm.Cond.classLink own idx cn).before a0 Z = true) (wi : (Jvm.Cond.instantiable cn kk).before a0 Z = true) (wz : (Jvm.Cond.initialized cn).before a0 Z = true) (hc : k + 1 ≤ R.cells) (hl : n + kk ≤ R.slots) (hp : pc + 3 = pc') (hd : decode bytes pc = .ok (.new idx, 3))
    (hr : ∀ T' h' a, a = h.size → n0 ≤ a → Ext h h' → Exa Z h' a cn → (∀ {O fn d : String} {ty : FieldType}, Laid Z a0 cn O fn d → parseFieldDescriptor d = some ty → Fld Z h' a O fn d (defaultValue ty)) → St Z p l e R s m args below meth c n0 T' h' (k + 1) (n + kk) → Go p e below Q (T'.setTop (mkF m pc' Ls (.ref a :: st)))) : Go p e below Q (T.setTop (mkF m pc Ls st)) := by
  subst hp
  have hsz := X.sz
  obtain ⟨locs, Y, N, zs, eT⟩ := X
  obtain ⟨T', h', X', e', E, A, D, -, stp⟩ := newO Y C.1 C.hZ C.ow w wi wz eT (g := mkF m pc Ls st) rfl (C.cd hd) hc hl
  exact Go.back stp (hr T' h' _ rfl hsz E A D ⟨_, X', N, zs, e'⟩)
/-- an array whose components are vs -/
def La (Z : State) (h : Heap) (a : Addr) (ty : FieldType) (vs : List Value) : Prop := ∃ c : Cell, Arr Z h a c ty ∧ c.slots = vs.toArray ∧ vs.length < 2 ^ 31 ∧ ∀ v ∈ vs, fits ty v = true
theorem La.lt {a : Addr} {ty : FieldType} {vs : List Value} (F : La Z h a ty vs) : a < h.size := by obtain ⟨c, A, -⟩ := F; exact A.lt
theorem La.len {a : Addr} {ty : FieldType} {vs : List Value} (F : La Z h a ty vs) : vs.length < 2 ^ 31 := by obtain ⟨c, A, -, q, -⟩ := F; exact q
theorem La.ext {h' : Heap} {a : Addr} {ty : FieldType} {vs : List Value} (F : La Z h a ty vs) (E : Ext h h') : La Z h' a ty vs := by obtain ⟨c, A, r⟩ := F; exact ⟨c, A.ext E, r⟩
theorem La.other {h' : Heap} {a b : Addr} {sl : Nat} {v : Value} {ty : FieldType} {vs : List Value} (F : La Z h b ty vs) (W : Wr h h' a sl v) (q : b ≠ a) : La Z h' b ty vs := by obtain ⟨c, A, r⟩ := F; exact ⟨c, A.other W q, r⟩
theorem La.keep {h' : Heap} {a : Addr} {ws : List Addr} {ty : FieldType} {vs : List Value} (F : La Z h a ty vs) (K : Keep h h' ws) (q : a ∉ ws) : La Z h' a ty vs := by obtain ⟨c, A, r⟩ := F; exact ⟨c, ⟨K.2.1 a c A.1 q, A.2⟩, r⟩
theorem La.set {h' : Heap} {a : Addr} {j : Nat} {v : Value} {ty : FieldType} {vs : List Value} (F : La Z h a ty vs) (W : Wr h h' a j v) (hv : fits ty v = true) : La Z h' a ty (vs.set j v) := by
  obtain ⟨c, A, e1, e2, e3⟩ := F
  refine ⟨_, A.same W, ?_, by simpa using e2, fun w hw => ?_⟩
  · simp [Cell.setSlot, e1]
  · rcases List.mem_or_eq_of_mem_set hw with q | q
    · exact e3 w q
    · subst q; exact hv
theorem clamp_eq {j : Int32} (q : 0 ≤ j.toInt) : (j.toNatClampNeg : Int) = j.toInt := by show ((j.toInt.toNat : Nat) : Int) = _; omega
theorem neg_not {j : Int32} (q : 0 ≤ j.toInt) : ¬ j < 0 := by rw [Int32.lt_iff_toInt_lt]; have : (0 : Int32).toInt = 0 := rfl; omega
theorem La.inb {c : Cell} {vs : List Value} {j : Int32} {v : Value} (e : c.slots = vs.toArray) (q : 0 ≤ j.toInt) (hv : vs[j.toNatClampNeg]? = some v) : ¬ (j < 0 ∨ c.slots.size ≤ j.toNatClampNeg) ∧ c.slots[j.toNatClampNeg]? = some v := by
  obtain ⟨hl, -⟩ := List.getElem?_eq_some_iff.mp hv
  refine ⟨fun r => r.elim (neg_not q) fun r => ?_, by rw [e]; simpa using hv⟩
  rw [e] at r; simp at r; omega
theorem go_alen (C : Cx p s m meth c Z a0 own bytes maxL ret nm) (X : St Z p l e R s m args below meth c n0 T h k n) {a : Addr} {ty : FieldType} {vs : List Value} {z : Int32} (A : La Z h a ty vs) (hz : vs.length.toInt32 = z) (hp : pc + 1 = pc') (hd : decode bytes pc = .ok (.arraylength, 1)) (hr : Go p e below Q (T.setTop (mkF m pc' Ls (.int z :: st)))) : Go p e below Q (T.setTop (mkF m pc Ls (.ref a :: st))) := by
  subst hp
  obtain ⟨locs, Y, N, zs, eT⟩ := X
  obtain ⟨cl, B, e1, e2, e3⟩ := A
  have ez : cl.slots.size.toInt32 = z := by rw [e1]; simpa using hz
  subst ez
  exact Go.back (fun t kt => Y.arraylength C.1 (by rw [eT]; exact B.1) (State.isArrayOf_alike C.hZ.alike B.2.1) (g := mkF m pc Ls (.ref a :: st)) rfl rfl (C.cd hd) t kt) hr

theorem go_iaload (C : Cx p s m meth c Z a0 own bytes maxL ret nm) (X : St Z p l e R s m args below meth c n0 T h k n) {a : Addr} {vs : List Value} {j : Int32} {v : Value} (A : La Z h a .int vs) (q : 0 ≤ j.toInt) (hv : vs[j.toNatClampNeg]? = some v) (hp : pc + 1 = pc') (hd : decode bytes pc = .ok (.iaload, 1)) (hr : Go p e below Q (T.setTop (mkF m pc' Ls (v :: st)))) : Go p e below Q (T.setTop (mkF m pc Ls (.int j :: .ref a :: st))) := by
  subst hp
  obtain ⟨locs, Y, N, zs, eT⟩ := X
  obtain ⟨cl, B, e1, e2, e3⟩ := A
  obtain ⟨i1, i2⟩ := La.inb e1 q hv
  exact Go.back (fun t kt => Y.iaload C.1 (by rw [eT]; exact B.1) (State.isArrayOf_alike C.hZ.alike B.2.1) B.2.2 i1 i2 (g := mkF m pc Ls (.int j :: .ref a :: st)) rfl rfl (C.cd hd) t kt) hr
theorem go_laload (C : Cx p s m meth c Z a0 own bytes maxL ret nm) (X : St Z p l e R s m args below meth c n0 T h k n) {a : Addr} {vs : List Value} {j : Int32} {v : Value} (A : La Z h a .long vs) (q : 0 ≤ j.toInt) (hv : vs[j.toNatClampNeg]? = some v) (hp : pc + 1 = pc') (hd : decode bytes pc = .ok (.laload, 1)) (hr : Go p e below Q (T.setTop (mkF m pc' Ls (v :: st)))) : Go p e below Q (T.setTop (mkF m pc Ls (.int j :: .ref a :: st))) := by
  subst hp
  obtain ⟨locs, Y, N, zs, eT⟩ := X
  obtain ⟨cl, B, e1, e2, e3⟩ := A
  obtain ⟨i1, i2⟩ := La.inb e1 q hv
  exact Go.back (fun t kt => Y.laload C.1 (by rw [eT]; exact B.1) (State.isArrayOf_alike C.hZ.alike B.2.1) B.2.2 i1 i2 (g := mkF m pc Ls (.int j :: .ref a :: st)) rfl rfl (C.cd hd) t kt) hr
theorem go_caload (C : Cx p s m meth c Z a0 own bytes maxL ret nm) (X : St Z p l e R s m args below meth c n0 T h k n) {a : Addr} {vs : List Value} {j : Int32} {v : Value} (A : La Z h a .char vs) (q : 0 ≤ j.toInt) (hv : vs[j.toNatClampNeg]? = some v) (hp : pc + 1 = pc') (hd : decode bytes pc = .ok (.caload, 1)) (hr : Go p e below Q (T.setTop (mkF m pc' Ls (v :: st)))) : Go p e below Q (T.setTop (mkF m pc Ls (.int j :: .ref a :: st))) := by
  subst hp
  obtain ⟨locs, Y, N, zs, eT⟩ := X
  obtain ⟨cl, B, e1, e2, e3⟩ := A
  obtain ⟨i1, i2⟩ := La.inb e1 q hv
  exact Go.back (fun t kt => Y.caload C.1 (by rw [eT]; exact B.1) (State.isArrayOf_alike C.hZ.alike B.2.1) B.2.2 i1 i2 (g := mkF m pc Ls (.int j :: .ref a :: st)) rfl rfl (C.cd hd) t kt) hr
theorem go_saload (C : Cx p s m meth c Z a0 own bytes maxL ret nm) (X : St Z p l e R s m args below meth c n0 T h k n) {a : Addr} {vs : List Value} {j : Int32} {v : Value} (A : La Z h a .short vs) (q : 0 ≤ j.toInt) (hv : vs[j.toNatClampNeg]? = some v) (hp : pc + 1 = pc') (hd : decode bytes pc = .ok (.saload, 1)) (hr : Go p e below Q (T.setTop (mkF m pc' Ls (v :: st)))) : Go p e below Q (T.setTop (mkF m pc Ls (.int j :: .ref a :: st))) := by
  subst hp
  obtain ⟨locs, Y, N, zs, eT⟩ := X
  obtain ⟨cl, B, e1, e2, e3⟩ := A
  obtain ⟨i1, i2⟩ := La.inb e1 q hv
  exact Go.back (fun t kt => Y.saload C.1 (by rw [eT]; exact B.1) (State.isArrayOf_alike C.hZ.alike B.2.1) B.2.2 i1 i2 (g := mkF m pc Ls (.int j :: .ref a :: st)) rfl rfl (C.cd hd) t kt) hr
theorem go_daload (C : Cx p s m meth c Z a0 own bytes maxL ret nm) (X : St Z p l e R s m args below meth c n0 T h k n) {a : Addr} {vs : List Value} {j : Int32} {v : Value} (A : La Z h a .double vs) (q : 0 ≤ j.toInt) (hv : vs[j.toNatClampNeg]? = some v) (hp : pc + 1 = pc') (hd : decode bytes pc = .ok (.daload, 1)) (hr : Go p e below Q (T.setTop (mkF m pc' Ls (v :: st)))) : Go p e below Q (T.setTop (mkF m pc Ls (.int j :: .ref a :: st))) := by
  subst hp
  obtain ⟨locs, Y, N, zs, eT⟩ := X
  obtain ⟨cl, B, e1, e2, e3⟩ := A
  obtain ⟨i1, i2⟩ := La.inb e1 q hv
  exact Go.back (fun t kt => Y.daload C.1 (by rw [eT]; exact B.1) (State.isArrayOf_alike C.hZ.alike B.2.1) B.2.2 i1 i2 (g := mkF m pc Ls (.int j :: .ref a :: st)) rfl rfl (C.cd hd) t kt) hr
theorem go_baloadBytes (C : Cx p s m meth c Z a0 own bytes maxL ret nm) (X : St Z p l e R s m args below meth c n0 T h k n) {a : Addr} {vs : List Value} {j : Int32} {v : Value} (A : La Z h a .byte vs) (q : 0 ≤ j.toInt) (hv : vs[j.toNatClampNeg]? = some v) (hp : pc + 1 = pc') (hd : decode bytes pc = .ok (.baload, 1)) (hr : Go p e below Q (T.setTop (mkF m pc' Ls (v :: st)))) : Go p e below Q (T.setTop (mkF m pc Ls (.int j :: .ref a :: st))) := by
  subst hp
  obtain ⟨locs, Y, N, zs, eT⟩ := X
  obtain ⟨cl, B, e1, e2, e3⟩ := A
  obtain ⟨i1, i2⟩ := La.inb e1 q hv
  exact Go.back (fun t kt => Y.baloadBytes C.1 (by rw [eT]; exact B.1) (State.isArrayOf_alike C.hZ.alike B.2.1) B.2.2 i1 i2 (g := mkF m pc Ls (.int j :: .ref a :: st)) rfl rfl (C.cd hd) t kt) hr
theorem go_baloadBooleans (C : Cx p s m meth c Z a0 own bytes maxL ret nm) (X : St Z p l e R s m args below meth c n0 T h k n) {a : Addr} {vs : List Value} {j : Int32} {v : Value} (A : La Z h a .boolean vs) (q : 0 ≤ j.toInt) (hv : vs[j.toNatClampNeg]? = some v) (hp : pc + 1 = pc') (hd : decode bytes pc = .ok (.baload, 1)) (hr : Go p e below Q (T.setTop (mkF m pc' Ls (v :: st)))) : Go p e below Q (T.setTop (mkF m pc Ls (.int j :: .ref a :: st))) := by
  subst hp
  obtain ⟨locs, Y, N, zs, eT⟩ := X
  obtain ⟨cl, B, e1, e2, e3⟩ := A
  obtain ⟨i1, i2⟩ := La.inb e1 q hv
  exact Go.back (fun t kt => Y.baloadBooleans C.1 (by rw [eT]; exact B.1) (State.isArrayOf_alike C.hZ.alike B.2.1) B.2.2 i1 i2 (g := mkF m pc Ls (.int j :: .ref a :: st)) rfl rfl (C.cd hd) t kt) hr
theorem go_aaload (C : Cx p s m meth c Z a0 own bytes maxL ret nm) (X : St Z p l e R s m args below meth c n0 T h k n) {a : Addr} {vs : List Value} {ty : FieldType} {j : Int32} {v : Value} (A : La Z h a ty vs) (ht : ty.isReference = true) (q : 0 ≤ j.toInt) (hv : vs[j.toNatClampNeg]? = some v) (hp : pc + 1 = pc') (hd : decode bytes pc = .ok (.aaload, 1)) (hr : Go p e below Q (T.setTop (mkF m pc' Ls (v :: st)))) : Go p e below Q (T.setTop (mkF m pc Ls (.int j :: .ref a :: st))) := by
  subst hp
  obtain ⟨locs, Y, N, zs, eT⟩ := X
  obtain ⟨cl, B, e1, e2, e3⟩ := A
  obtain ⟨i1, i2⟩ := La.inb e1 q hv
  exact Go.back (fun t kt => Y.aaload C.1 (by rw [eT]; exact B.1) (State.isArrayOf_alike C.hZ.alike B.2.1) ht B.2.2 i1 i2 (g := mkF m pc Ls (.int j :: .ref a :: st)) rfl rfl (C.cd hd) t kt) hr
theorem go_iastore (C : Cx p s m meth c Z a0 own bytes maxL ret nm) (X : St Z p l e R s m args below meth c n0 T h k n) {a : Addr} {vs : List Value} {j : Int32} {x : Int32} (A : La Z h a .int vs) (q : 0 ≤ j.toInt) (hj : j.toInt < vs.length) (ga : n0 ≤ a) (hp : pc + 1 = pc') (hd : decode bytes pc = .ok (.iastore, 1))
    (hr : ∀ T' h', Wr h h' a j.toNatClampNeg (.int x) → La Z h' a .int (vs.set j.toNatClampNeg (.int x)) → St Z p l e R s m args below meth c n0 T' h' k n → Go p e below Q (T'.setTop (mkF m pc' Ls st))) : Go p e below Q (T.setTop (mkF m pc Ls (.int x :: .int j :: .ref a :: st))) := by
  subst hp
  obtain ⟨locs, Y, N, zs, eT⟩ := X
  have A' := A
  obtain ⟨cl, B, e1, e2, e3⟩ := A
  have i1 : ¬ (j < 0 ∨ cl.slots.size ≤ j.toNatClampNeg) := fun r => r.elim (neg_not q) fun r => by
    rw [e1] at r; simp at r; have := clamp_eq q; omega
  obtain ⟨T', h', X', e', W, stp⟩ := stI Y C.1 C.hZ eT B i1 (g := mkF m pc Ls (.int x :: .int j :: .ref a :: st)) rfl rfl (C.cd hd)
  exact Go.back stp (hr T' h' W (A'.set W rfl) ⟨_, X', Fr.snoc X' N ga, zs, e'⟩)
theorem go_lastore (C : Cx p s m meth c Z a0 own bytes maxL ret nm) (X : St Z p l e R s m args below meth c n0 T h k n) {a : Addr} {vs : List Value} {j : Int32} {x : Int64} (A : La Z h a .long vs) (q : 0 ≤ j.toInt) (hj : j.toInt < vs.length) (ga : n0 ≤ a) (hp : pc + 1 = pc') (hd : decode bytes pc = .ok (.lastore, 1))
    (hr : ∀ T' h', Wr h h' a j.toNatClampNeg (.long x) → La Z h' a .long (vs.set j.toNatClampNeg (.long x)) → St Z p l e R s m args below meth c n0 T' h' k n → Go p e below Q (T'.setTop (mkF m pc' Ls st))) : Go p e below Q (T.setTop (mkF m pc Ls (.long x :: .int j :: .ref a :: st))) := by
  subst hp
  obtain ⟨locs, Y, N, zs, eT⟩ := X
  have A' := A
  obtain ⟨cl, B, e1, e2, e3⟩ := A
  have i1 : ¬ (j < 0 ∨ cl.slots.size ≤ j.toNatClampNeg) := fun r => r.elim (neg_not q) fun r => by
    rw [e1] at r; simp at r; have := clamp_eq q; omega
  obtain ⟨T', h', X', e', W, stp⟩ := stJ Y C.1 C.hZ eT B i1 (g := mkF m pc Ls (.long x :: .int j :: .ref a :: st)) rfl rfl (C.cd hd)
  exact Go.back stp (hr T' h' W (A'.set W rfl) ⟨_, X', Fr.snoc X' N ga, zs, e'⟩)
theorem go_dastore (C : Cx p s m meth c Z a0 own bytes maxL ret nm) (X : St Z p l e R s m args below meth c n0 T h k n) {a : Addr} {vs : List Value} {j : Int32} {x : UInt64} (A : La Z h a .double vs) (q : 0 ≤ j.toInt) (hj : j.toInt < vs.length) (ga : n0 ≤ a) (hp : pc + 1 = pc') (hd : decode bytes pc = .ok (.dastore, 1))
    (hr : ∀ T' h', Wr h h' a j.toNatClampNeg (.double x) → La Z h' a .double (vs.set j.toNatClampNeg (.double x)) → St Z p l e R s m args below meth c n0 T' h' k n → Go p e below Q (T'.setTop (mkF m pc' Ls st))) : Go p e below Q (T.setTop (mkF m pc Ls (.double x :: .int j :: .ref a :: st))) := by
  subst hp
  obtain ⟨locs, Y, N, zs, eT⟩ := X
  have A' := A
  obtain ⟨cl, B, e1, e2, e3⟩ := A
  have i1 : ¬ (j < 0 ∨ cl.slots.size ≤ j.toNatClampNeg) := fun r => r.elim (neg_not q) fun r => by
    rw [e1] at r; simp at r; have := clamp_eq q; omega
  obtain ⟨T', h', X', e', W, stp⟩ := stD Y C.1 C.hZ eT B i1 (g := mkF m pc Ls (.double x :: .int j :: .ref a :: st)) rfl rfl (C.cd hd)
  exact Go.back stp (hr T' h' W (A'.set W rfl) ⟨_, X', Fr.snoc X' N ga, zs, e'⟩)
theorem go_newarr (C : Cx p s m meth c Z a0 own bytes maxL ret nm) (X : St Z p l e R s m args below meth c n0 T h k n) {aty : ArrayType} (w : (Jvm.Cond.arrayClass (newarray.typeOf aty)).before a0 Z = true) {z : Int32} {cap : Nat} (hz : 0 ≤ z.toInt) (hcap : z.toInt ≤ cap) (hb8 : cap * 8 ≤ 536870912) (hc : k + 1 ≤ R.cells) (hl : n + cap ≤ R.slots) (hp : pc + 2 = pc') (hd : decode bytes pc = .ok (.newarray aty, 2))
    (hr : ∀ T' h' a, a = h.size → n0 ≤ a → Ext h h' → La Z h' a (newarray.typeOf aty) (List.replicate z.toNatClampNeg (defaultValue (newarray.typeOf aty))) → St Z p l e R s m args below meth c n0 T' h' (k + 1) (n + cap) → Go p e below Q (T'.setTop (mkF m pc' Ls (.ref a :: st)))) : Go p e below Q (T.setTop (mkF m pc Ls (.int z :: st))) := by
  subst hp
  have hsz := X.sz
  obtain ⟨locs, Y, N, zs, eT⟩ := X
  have hzc := clamp_eq hz
  obtain ⟨T', h', cA, X', e', E, A, stp⟩ := newP Y C.1 C.hZ w eT (g := mkF m pc Ls (.int z :: st)) rfl (C.cd hd) rfl (neg_not hz) (cap := cap) (by omega) hb8 hc hl
  refine Go.back stp (hr T' h' _ rfl hsz E ⟨_, A, by simp [newA], ?_, fun v hv => ?_⟩ ⟨_, X', N, zs, e'⟩)
  · have := z.toInt_lt; simp; omega
  · obtain ⟨-, rfl⟩ := List.mem_replicate.mp hv; cases aty <;> rfl
theorem go_newarrE (C : Cx p s m meth c Z a0 own bytes maxL ret nm) (X : St Z p l e R s m args below meth c n0 T h k n) {aty : ArrayType} (w : (Jvm.Cond.arrayClass (newarray.typeOf aty)).before a0 Z = true) {z : Int32} {cap : Nat} {ad : String} (had : "[" ++ (newarray.typeOf aty).toString = ad) (hz : 0 ≤ z.toInt) (hcap : z.toInt ≤ cap) (hb8 : cap * 8 ≤ 536870912) (hc : k + 1 ≤ R.cells) (hl : n + cap ≤ R.slots) (hp : pc + 2 = pc') (hd : decode bytes pc = .ok (.newarray aty, 2))
    (hr : ∀ T' h' a, a = h.size → n0 ≤ a → Ext h h' → La Z h' a (newarray.typeOf aty) (List.replicate z.toNatClampNeg (defaultValue (newarray.typeOf aty))) → Exa Z h' a ad → St Z p l e R s m args below meth c n0 T' h' (k + 1) (n + cap) → Go p e below Q (T'.setTop (mkF m pc' Ls (.ref a :: st)))) : Go p e below Q (T.setTop (mkF m pc Ls (.int z :: st))) := by
  subst hp
  have hsz := X.sz
  obtain ⟨locs, Y, N, zs, eT⟩ := X
  have hzc := clamp_eq hz
  obtain ⟨T', h', cA, X', e', E, A, EX, stp⟩ := newPE Y C.1 C.hZ w eT (g := mkF m pc Ls (.int z :: st)) rfl (C.cd hd) rfl (neg_not hz) (cap := cap) (by omega) hb8 hc hl had
  refine Go.back stp (hr T' h' _ rfl hsz E ⟨_, A, by simp [newA], ?_, fun v hv => ?_⟩ EX ⟨_, X', N, zs, e'⟩)
  · have := z.toInt_lt; simp; omega
  · obtain ⟨-, rfl⟩ := List.mem_replicate.mp hv; cases aty <;> rfl
theorem go_ifnull_n (C : Cx p s m meth c Z a0 own bytes maxL ret nm) (X : St Z p l e R s m args below meth c n0 T h k n) {o : Int} (hd : decode bytes pc = .ok (.ifnull o, 3)) (ho : 0 ≤ (pc : Int) + o) (hp2 : ((pc : Int) + o).toNat = pc2) (hr : Go p e below Q (T.setTop (mkF m pc2 Ls st))) : Go p e below Q (T.setTop (mkF m pc Ls (.null :: st))) := by
  obtain ⟨locs, Y, -, -, -⟩ := X
  exact Go.back (fun t kt => Jvm.Free.XS.ifnullYes Y.here C.1 rfl (pc0 := pc) rfl (C.cd hd) rfl ho hp2 kt) hr
theorem go_ifnull_r (C : Cx p s m meth c Z a0 own bytes maxL ret nm) (X : St Z p l e R s m args below meth c n0 T h k n) {o : Int} {b : Addr} (hp : pc + 3 = pc') (hd : decode bytes pc = .ok (.ifnull o, 3)) (hr : Go p e below Q (T.setTop (mkF m pc' Ls st))) : Go p e below Q (T.setTop (mkF m pc Ls (.ref b :: st))) := by
  subst hp
  obtain ⟨locs, Y, -, -, -⟩ := X
  exact Go.back (fun t kt => Jvm.Free.XS.ifnullNo Y.here C.1 rfl (C.cd hd) rfl kt) hr
theorem go_ifnonnull_r (C : Cx p s m meth c Z a0 own bytes maxL ret nm) (X : St Z p l e R s m args below meth c n0 T h k n) {o : Int} {b : Addr} (hd : decode bytes pc = .ok (.ifnonnull o, 3)) (ho : 0 ≤ (pc : Int) + o) (hp2 : ((pc : Int) + o).toNat = pc2) (hr : Go p e below Q (T.setTop (mkF m pc2 Ls st))) : Go p e below Q (T.setTop (mkF m pc Ls (.ref b :: st))) := by
  obtain ⟨locs, Y, -, -, -⟩ := X
  exact Go.back (fun t kt => Jvm.Free.XS.ifnonnullYes Y.here C.1 rfl (pc0 := pc) rfl (C.cd hd) rfl ho hp2 kt) hr
theorem go_ifnonnull_n (C : Cx p s m meth c Z a0 own bytes maxL ret nm) (X : St Z p l e R s m args below meth c n0 T h k n) {o : Int} (hp : pc + 3 = pc') (hd : decode bytes pc = .ok (.ifnonnull o, 3)) (hr : Go p e below Q (T.setTop (mkF m pc' Ls st))) : Go p e below Q (T.setTop (mkF m pc Ls (.null :: st))) := by
  subst hp
  obtain ⟨locs, Y, -, -, -⟩ := X
  exact Go.back (fun t kt => Jvm.Free.XS.ifnonnullNo Y.here C.1 rfl (C.cd hd) rfl kt) hr
theorem go_acmp_eq (C : Cx p s m meth c Z a0 own bytes maxL ret nm) (X : St Z p l e R s m args below meth c n0 T h k n) {o : Int} {x y : Value} (hx : x.isRef = true) (hy : y.isRef = true) (hd : decode bytes pc = .ok (.if_acmp .eq o, 3)) (hp : pc + 3 = pc') (ho : 0 ≤ (pc : Int) + o) (hp2 : ((pc : Int) + o).toNat = pc2) (h1 : x = y → Go p e below Q (T.setTop (mkF m pc2 Ls st))) (h2 : ¬ x = y → Go p e below Q (T.setTop (mkF m pc' Ls st))) : Go p e below Q (T.setTop (mkF m pc Ls (y :: x :: st))) := by
  obtain ⟨locs, Y, -, -, -⟩ := X
  by_cases q : x = y
  · exact Go.back (fun t kt => acmp (g := mkF m pc Ls (y :: x :: st)) Y C.1 rfl hx hy (pc0 := pc) (pc' := pc2) (same := true) rfl (C.cd hd) rfl (decide_eq_true q) ho (by simp [acV, hp2]) kt) (h1 q)
  · exact Go.back (fun t kt => acmp (g := mkF m pc Ls (y :: x :: st)) Y C.1 rfl hx hy (pc0 := pc) (pc' := pc') (same := false) rfl (C.cd hd) rfl (decide_eq_false q) ho (by simp [acV, hp]) kt) (h2 q)
theorem go_acmp_ne (C : Cx p s m meth c Z a0 own bytes maxL ret nm) (X : St Z p l e R s m args below meth c n0 T h k n) {o : Int} {x y : Value} (hx : x.isRef = true) (hy : y.isRef = true) (hd : decode bytes pc = .ok (.if_acmp .ne o, 3)) (hp : pc + 3 = pc') (ho : 0 ≤ (pc : Int) + o) (hp2 : ((pc : Int) + o).toNat = pc2) (h1 : ¬ x = y → Go p e below Q (T.setTop (mkF m pc2 Ls st))) (h2 : x = y → Go p e below Q (T.setTop (mkF m pc' Ls st))) : Go p e below Q (T.setTop (mkF m pc Ls (y :: x :: st))) := by
  obtain ⟨locs, Y, -, -, -⟩ := X
  by_cases q : x = y
  · exact Go.back (fun t kt => acmp (g := mkF m pc Ls (y :: x :: st)) Y C.1 rfl hx hy (pc0 := pc) (pc' := pc') (same := true) rfl (C.cd hd) rfl (decide_eq_true q) ho (by simp [acV, hp]) kt) (h2 q)
  · exact Go.back (fun t kt => acmp (g := mkF m pc Ls (y :: x :: st)) Y C.1 rfl hx hy (pc0 := pc) (pc' := pc2) (same := false) rfl (C.cd hd) rfl (decide_eq_false q) ho (by simp [acV, hp2]) kt) (h1 q)
theorem go_cast (C : Cx p s m meth c Z a0 own bytes maxL ret nm) (X : St Z p l e R s m args below meth c n0 T h k n) {cn : String} {a : Addr} (w : (Jvm.Cond.classLink own idx cn).before a0 Z = true) (F : Ins Z h a cn true) (hp : pc + 3 = pc') (hd : decode bytes pc = .ok (.checkcast idx, 3)) (hr : ∀ T', St Z p l e R s m args below meth c n0 T' h k n → Go p e below Q (T'.setTop (mkF m pc' Ls (.ref a :: st)))) : Go p e below Q (T.setTop (mkF m pc Ls (.ref a :: st))) := by
  subst hp
  obtain ⟨locs, Y, N, zs, eT⟩ := X
  obtain ⟨T', X', e', stp⟩ := castY Y C.1 C.hZ C.ow w eT F (g := mkF m pc Ls (.ref a :: st)) rfl rfl (C.cd hd)
  exact Go.back stp (hr T' ⟨_, X', N, zs, e'⟩)
theorem go_clone (C : Cx p s m meth c Z a0 own bytes maxL ret nm) (X : St Z p l e R s m args below meth c n0 T h k n) {ad : String} {a : Addr} {ty : FieldType} {vs : List Value} {cap : Nat} (w1 : (Jvm.Cond.methodLink own idx ⟨ad, "clone", "()Ljava/lang/Object;"⟩).before a0 Z = true) (w2 : (Jvm.Cond.sameMethod ad "java/lang/Object" "clone" "()Ljava/lang/Object;").before a0 Z = true) (w3 : (Jvm.Cond.native ⟨"java/lang/Object", "clone", "()Ljava/lang/Object;"⟩).before a0 Z = true)
    (w4 : (Jvm.Cond.instanceMethod ⟨"java/lang/Object", "clone", "()Ljava/lang/Object;"⟩).before a0 Z = true) (w5 : (Jvm.Cond.selects ad ⟨ad, "clone", "()Ljava/lang/Object;"⟩ ⟨"java/lang/Object", "clone", "()Ljava/lang/Object;"⟩).before a0 Z = true) (w6 : (Jvm.Cond.castable ad "java/lang/Cloneable").before a0 Z = true)
    (A : La Z h a ty vs) (E : Exa Z h a ad) (hf : 1 ≤ R.frames) (hl : (st.map fun v => v.category).sum + 14 ≤ R.locals) (hcap : vs.length ≤ cap) (hc : k + 1 ≤ R.cells) (hsl : n + cap ≤ R.slots) (hsz : Ls.size = maxL) (hp : pc + 3 = pc') (hd : decode bytes pc = .ok (.invokevirtual idx, 3))
    (hr : ∀ T' h' b, b = h.size → n0 ≤ b → Ext h h' → La Z h' b ty vs → Exa Z h' b ad → St Z p l e R s m args below meth c n0 T' h' (k + 1) (n + cap) → Go p e below Q (T'.setTop (mkF m pc' Ls (.ref b :: st)))) : Go p e below Q (T.setTop (mkF m pc Ls (.ref a :: st))) := by
  subst hp
  have hs0 := X.sz
  obtain ⟨locs, Y, N, zs, eT⟩ := X
  obtain ⟨cl, B, e1, e2, e3⟩ := A
  have FC : FitC Z cl := fitC_of B fun i hi v hv => e3 v (by rw [e1] at hv; simp at hv; exact List.mem_of_getElem? hv)
  obtain ⟨T', h', X', e', ex, A', E', stp⟩ := cloneA Y C.1 C.hZ C.ow w1 w2 w3 w4 w5 w6 eT B E FC (g := mkF m pc Ls (.ref a :: st)) rfl (hsz.trans C.ml.symm) rfl (C.cd hd) hf (W := (st.map fun v => v.category).sum) (cap := cap) (by show 2 * 0 + _ ≤ _; omega) hl (by rw [e1]; simpa using hcap) hc hsl
  exact Go.back stp (hr T' h' _ rfl hs0 ex ⟨_, A', e1, e2, e3⟩ E' ⟨_, X', N, zs, e'⟩)

theorem Laid.of {cn O fn d : String} (w : (Jvm.Cond.lays cn O fn d).before a0 Z = true) : Laid Z a0 cn O fn d := Or.inl w
theorem Laid.ofF {cn O fn d : String} (w : (Jvm.Cond.laysFinal cn O fn d).before a0 Z = true) : Laid Z a0 cn O fn d := Or.inr w
end Steps1
/-! numbers -/
theorem i_add {a b : Int32} {x y : Int} (ha : a.toInt = x) (hb : b.toInt = y) (h1 : -2147483648 ≤ x + y) (h2 : x + y < 2147483648) : (a + b).toInt = x + y := by have := c_iadd a b; have := rng32 (a + b); omega
theorem i_sub {a b : Int32} {x y : Int} (ha : a.toInt = x) (hb : b.toInt = y) (h1 : -2147483648 ≤ x - y) (h2 : x - y < 2147483648) : (a - b).toInt = x - y := by have := c_isub a b; have := rng32 (a - b); omega
theorem i_mul {a b : Int32} {x y : Int} (ha : a.toInt = x) (hb : b.toInt = y) (h1 : -2147483648 ≤ x * y) (h2 : x * y < 2147483648) : (a * b).toInt = x * y := by have := c_imul a b; have := rng32 (a * b); rw [ha, hb] at *; generalize x * y = z at *; omega
theorem l_add {a b : Int64} {x y : Int} (ha : a.toInt = x) (hb : b.toInt = y) (h1 : -9223372036854775808 ≤ x + y) (h2 : x + y < 9223372036854775808) : (a + b).toInt = x + y := by have := c_ladd a b; have := rng64 (a + b); omega
theorem l_sub {a b : Int64} {x y : Int} (ha : a.toInt = x) (hb : b.toInt = y) (h1 : -9223372036854775808 ≤ x - y) (h2 : x - y < 9223372036854775808) : (a - b).toInt = x - y := by have := c_lsub a b; have := rng64 (a - b); omega
theorem l_mul {a b : Int64} {x y : Int} (ha : a.toInt = x) (hb : b.toInt = y) (h1 : -9223372036854775808 ≤ x * y) (h2 : x * y < 9223372036854775808) : (a * b).toInt = x * y := by have := c_lmul a b; have := rng64 (a * b); rw [ha, hb] at *; generalize x * y = z at *; omega
theorem i_div {a b : Int32} {x y : Int} (ha : a.toInt = x) (hb : b.toInt = y) (h1 : 0 ≤ x) (h2 : 0 < y) : (a / b).toInt = x / y := by
  have := (c_idiv a b y hb (fun q => by subst q; have : (-1 : Int32).toInt = -1 := rfl; omega)).1 (by omega); rw [this, ha]
theorem l_div {a b : Int64} {x y : Int} (ha : a.toInt = x) (hb : b.toInt = y) (h1 : 0 ≤ x) (h2 : 0 < y) : (a / b).toInt = x / y := by
  have := (c_ldiv a b y hb (fun q => by subst q; have : (-1 : Int64).toInt = -1 := rfl; omega)).1 (by omega); rw [this, ha]
theorem i_rem {a b : Int32} {x y : Int} (ha : a.toInt = x) (hb : b.toInt = y) (h1 : 0 ≤ x) : (a % b).toInt = x % y := by
  have := (c_irem a b y hb).1 (by omega); rw [this, ha]
theorem l_rem {a b : Int64} {x y : Int} (ha : a.toInt = x) (hb : b.toInt = y) (h1 : 0 ≤ x) : (a % b).toInt = x % y := by
  rw [← lrem_mod]; have := (c_lrem a b y hb).1 (by omega); rw [this, ha]
/-- arrays of ints and longs as lists -/
def ia (xs : List Int32) : List Value := xs.map Value.int
def ja (xs : List Int64) : List Value := xs.map Value.long
def at32 (xs : List Int32) (i : Int32) : Int32 := xs.getD i.toNatClampNeg 0
def at64 (xs : List Int64) (i : Int32) : Int64 := xs.getD i.toNatClampNeg 0
def put32 (xs : List Int32) (i y : Int32) : List Int32 := xs.set i.toNatClampNeg y
def put64 (xs : List Int64) (i : Int32) (y : Int64) : List Int64 := xs.set i.toNatClampNeg y
theorem clamp_lt {i : Int32} {n : Nat} (h0 : 0 ≤ i.toInt) (h1 : i.toInt < n) : i.toNatClampNeg < n := by
  have := clamp_eq h0
  omega
theorem ia_at {xs : List Int32} {i : Int32} (h0 : 0 ≤ i.toInt) (h1 : i.toInt < xs.length) : (ia xs)[i.toNatClampNeg]? = some (.int (at32 xs i)) := by
  have := clamp_lt h0 h1; simp [ia, at32, this]
theorem ja_at {xs : List Int64} {i : Int32} (h0 : 0 ≤ i.toInt) (h1 : i.toInt < xs.length) : (ja xs)[i.toNatClampNeg]? = some (.long (at64 xs i)) := by
  have := clamp_lt h0 h1; simp [ja, at64, this]
theorem ia_put (xs : List Int32) (i y : Int32) : (ia xs).set i.toNatClampNeg (.int y) = ia (put32 xs i y) := by simp [ia, put32, List.map_set]
theorem ja_put (xs : List Int64) (i : Int32) (y : Int64) : (ja xs).set i.toNatClampNeg (.long y) = ja (put64 xs i y) := by simp [ja, put64, List.map_set]
theorem ia_len (xs : List Int32) : (ia xs).length = xs.length := by simp [ia]
theorem ja_len (xs : List Int64) : (ja xs).length = xs.length := by simp [ja]
theorem put32_len (xs : List Int32) (i y : Int32) : (put32 xs i y).length = xs.length := by simp [put32]
theorem put64_len (xs : List Int64) (i : Int32) (y : Int64) : (put64 xs i y).length = xs.length := by simp [put64]
theorem La.of {Z : State} {h : Heap} {a : Addr} {ty : FieldType} {c : Cell} (A : Arr Z h a c ty) (vs : List Value) (hl : c.slots.size = vs.length) (h31 : vs.length < 2 ^ 31) (H : ∀ i, i < vs.length → c.slots[i]? = vs[i]?) (G : ∀ v ∈ vs, fits ty v = true) : La Z h a ty vs := by
  refine ⟨c, A, Array.ext_getElem? fun i => ?_, h31, G⟩
  by_cases q : i < vs.length
  · rw [H i q]; simp
  · rw [Array.getElem?_eq_none (by omega)]; simp; omega
theorem eqv_r {Z : State} {args : Array Value} {X F : Term} {idx : List Nat} {y : Addr} (hF : F.eval args Z none idx Z = some (.ref y)) (h : (Jvm.Cond.eq X F).value args Z none Z idx = some true) : X.eval args Z none idx Z = some (.ref y) := by
  simp only [Jvm.Cond.value, hF] at h
  cases hx : X.eval args Z none idx Z with
  | none => simp [hx] at h
  | some v => cases v <;> simp [hx] at h ⊢; exact h
theorem i_eq {a b : Int32} (h : a.toInt = b.toInt) : a = b := Int32.toInt_inj.mp h
theorem l_eq {a b : Int64} (h : a.toInt = b.toInt) : a = b := Int64.toInt_inj.mp h
theorem i_ne {a b : Int32} (h : ¬ a = b) : ¬ a.toInt = b.toInt := fun q => h (i_eq q)
theorem l_ne {a b : Int64} (h : ¬ a = b) : ¬ a.toInt = b.toInt := fun q => h (l_eq q)

def own_seek (nx : List Int32) (r : Int32) : Nat → Int32 → Int32 → Option (Int32 × Int32)
  | 0, _, _ => none
  | f + 1, pv, a => if a.toInt < 0 then some (pv, a) else if r.toInt ≤ a.toInt then some (pv, a) else own_seek nx r f a (at32 nx a)
def own_addF (fi nx : List Int32) (nd r : Int32) : Option (List Int32 × List Int32) :=
  match own_seek nx r 5 (-1) (at32 fi nd) with
  | none => none
  | some (pv, a) => if pv.toInt < 0 then some (put32 fi nd r, put32 nx r a) else if pv.toInt < nx.length then some (fi, put32 (put32 nx r a) pv r) else none
theorem d4_0 : decode jdk_65_method_103_code 0 = .ok (.iconst 0, 1) := by decide +kernel
theorem d4_1 : decode jdk_65_method_103_code 1 = .ok (.istore_n 2, 1) := by decide +kernel
theorem d4_2 : decode jdk_65_method_103_code 2 = .ok (.aload_n 0, 1) := by decide +kernel
theorem d4_3 : decode jdk_65_method_103_code 3 = .ok (.arraylength, 1) := by decide +kernel
theorem d4_4 : decode jdk_65_method_103_code 4 = .ok (.istore_n 3, 1) := by decide +kernel
theorem d4_5 : decode jdk_65_method_103_code 5 = .ok (.iload_n 2, 1) := by decide +kernel
theorem d4_6 : decode jdk_65_method_103_code 6 = .ok (.iload_n 3, 1) := by decide +kernel
theorem d4_7 : decode jdk_65_method_103_code 7 = .ok (.if_icmp .ge 13, 3) := by decide +kernel
theorem d4_10 : decode jdk_65_method_103_code 10 = .ok (.aload_n 0, 1) := by decide +kernel
theorem d4_11 : decode jdk_65_method_103_code 11 = .ok (.iload_n 2, 1) := by decide +kernel
theorem d4_12 : decode jdk_65_method_103_code 12 = .ok (.iload_n 1, 1) := by decide +kernel
theorem d4_13 : decode jdk_65_method_103_code 13 = .ok (.iastore, 1) := by decide +kernel
theorem d4_14 : decode jdk_65_method_103_code 14 = .ok (.iinc 2 1, 3) := by decide +kernel
theorem d4_17 : decode jdk_65_method_103_code 17 = .ok (.goto (-12), 3) := by decide +kernel
theorem d4_20 : decode jdk_65_method_103_code 20 = .ok (.return_, 1) := by decide +kernel
theorem pn_java_util_Arrays : plainName "java/util/Arrays" = true := by first | (simp [plainName, overriddenIn]; done) | decide +kernel
theorem ef_own_fill (m : MethodId) (b : Addr) (z : Int32) : entryFrame m #[(.ref b), (.int z)] 4 = mkF m 0 #[rv b, iv z, un, un] [] := by first | (simp [entryFrame, mkF, argsToLocals, Value.category]; done) | rfl
set_option maxRecDepth 65536 in
set_option maxHeartbeats 40000000 in
theorem own_fill (l : Launch) (Z : State) (a0 : Array Value) (hw : ∀ d ∈ tables_1, d.before a0 Z = true) (b : Addr) (z : Int32) (x0 x1 : Int32) (h : Heap) (n0 : Nat) (hn0 : Old Z n0 h) (A1 : La Z h b .int [.int x0, .int x1]) (gb : n0 ≤ b) :
    Con l Z (⟨"java/util/Arrays", "fill", "([II)V"⟩ : MethodName) jdk_65_method_103_code 4 none ({ frames := 0, cells := 0, slots := 0, locals := 0 } : Room) #[(.ref b), (.int z)] h n0 (fun v h' => v = none ∧ Keep h h' [b] ∧ La Z h' b .int [.int z, .int z]) := by
  refine con_of hw (plainFor_of_name pn_java_util_Arrays) hn0 ?_
  intro p e s m below meth c T0 C X0
  refine Go.cast (congrArg T0.setTop (ef_own_fill m b z)) ?_
  refine go_iconst C X0 1 rfl d4_0 (z := 0) rfl ?_
  refine go_istoreN C X0 2 rfl d4_1 #[rv b, iv z, iv (0 : Int32), un] rfl ?_
  refine go_aloadN C X0 3 rfl d4_2 rfl rfl ?_
  refine go_alen C X0 A1 (z := (2 : Int32)) rfl (pc' := 4) rfl d4_3 ?_
  refine go_istoreN C X0 5 rfl d4_4 #[rv b, iv z, iv (0 : Int32), iv (2 : Int32)] rfl ?_
  refine go_iloadN C X0 6 rfl d4_5 rfl ?_
  refine go_iloadN C X0 7 rfl d4_6 rfl ?_
  refine go_icmp_ge C X0 d4_7 (pc' := 10) (pc2 := 20) rfl (by decide) (by decide) (fun (c7 : 2 ≤ 0) => False.elim (by first | omega | exact absurd c7 (by decide))) (fun (c7 : 0 < 2) => ?_)
  refine go_aloadN C X0 11 rfl d4_10 rfl rfl ?_
  refine go_iloadN C X0 12 rfl d4_11 rfl ?_
  refine go_iloadN C X0 13 rfl d4_12 rfl ?_
  refine go_iastore C X0 A1 (by decide) (by show _ < (2 : Int); decide) gb (pc' := 14) rfl d4_13 (fun T1 h3 W4 A5 X2 => ?_)
  have K6 := (Keep.refl h [b]).wr W4 (Or.inl (List.mem_of_getElem? (i := 0) rfl))
  replace A5 : La Z h3 b .int ([(.int z), (.int x1)]) := A5
  refine go_iinc C X2 17 rfl d4_14 rfl (z := 1) rfl #[rv b, iv z, iv (1 : Int32), iv (2 : Int32)] rfl ?_
  refine go_goto C X2 d4_17 (pc' := 5) (by decide) (by decide) ?_
  refine go_iloadN C X2 6 rfl d4_5 rfl ?_
  refine go_iloadN C X2 7 rfl d4_6 rfl ?_
  refine go_icmp_ge C X2 d4_7 (pc' := 10) (pc2 := 20) rfl (by decide) (by decide) (fun (c7 : 2 ≤ 1) => False.elim (by first | omega | exact absurd c7 (by decide))) (fun (c7 : 1 < 2) => ?_)
  refine go_aloadN C X2 11 rfl d4_10 rfl rfl ?_
  refine go_iloadN C X2 12 rfl d4_11 rfl ?_
  refine go_iloadN C X2 13 rfl d4_12 rfl ?_
  refine go_iastore C X2 A5 (by decide) (by show _ < (2 : Int); decide) gb (pc' := 14) rfl d4_13 (fun T7 h9 W10 A11 X8 => ?_)
  have K12 := K6.wr W10 (Or.inl (List.mem_of_getElem? (i := 0) rfl))
  replace A11 : La Z h9 b .int ([(.int z), (.int z)]) := A11
  refine go_iinc C X8 17 rfl d4_14 rfl (z := 1) rfl #[rv b, iv z, iv (2 : Int32), iv (2 : Int32)] rfl ?_
  refine go_goto C X8 d4_17 (pc' := 5) (by decide) (by decide) ?_
  refine go_iloadN C X8 6 rfl d4_5 rfl ?_
  refine go_iloadN C X8 7 rfl d4_6 rfl ?_
  refine go_icmp_ge C X8 d4_7 (pc' := 10) (pc2 := 20) rfl (by decide) (by decide) (fun (c7 : 2 ≤ 2) => ?_) (fun (c7 : 2 < 2) => False.elim (by first | omega | exact absurd c7 (by decide)))
  exact go_ret0 C X8 d4_20 ⟨rfl, K12, A11⟩ (by decide) (by decide)
theorem d2_0 : decode prog_68_method_1_code 0 = .ok (.aload_n 0, 1) := by decide +kernel
theorem d2_1 : decode prog_68_method_1_code 1 = .ok (.invokespecial 1, 3) := by decide +kernel
theorem d2_4 : decode prog_68_method_1_code 4 = .ok (.aload_n 0, 1) := by decide +kernel
theorem d2_5 : decode prog_68_method_1_code 5 = .ok (.iload_n 1, 1) := by decide +kernel
theorem d2_6 : decode prog_68_method_1_code 6 = .ok (.newarray .int, 2) := by decide +kernel
theorem d2_8 : decode prog_68_method_1_code 8 = .ok (.putfield 7, 3) := by decide +kernel
theorem d2_11 : decode prog_68_method_1_code 11 = .ok (.aload_n 0, 1) := by decide +kernel
theorem d2_12 : decode prog_68_method_1_code 12 = .ok (.iload_n 2, 1) := by decide +kernel
theorem d2_13 : decode prog_68_method_1_code 13 = .ok (.newarray .int, 2) := by decide +kernel
theorem d2_15 : decode prog_68_method_1_code 15 = .ok (.putfield 13, 3) := by decide +kernel
theorem d2_18 : decode prog_68_method_1_code 18 = .ok (.aload_n 0, 1) := by decide +kernel
theorem d2_19 : decode prog_68_method_1_code 19 = .ok (.getfield 7, 3) := by decide +kernel
theorem d2_22 : decode prog_68_method_1_code 22 = .ok (.iconst (-1), 1) := by decide +kernel
theorem pd_0 : parseMethodDescriptor "([II)V" = some ⟨[(.array .int), .int], none⟩ := by decide +kernel
theorem d2_23 : decode prog_68_method_1_code 23 = .ok (.invokestatic 16, 3) := by decide +kernel
theorem d2_26 : decode prog_68_method_1_code 26 = .ok (.return_, 1) := by decide +kernel
theorem pn_com_example_waymarshal_waymarshal_replay_VacantVehicles : plainName "com/example/waymarshal/waymarshal/replay/VacantVehicles" = true := by first | (simp [plainName, overriddenIn]; done) | decide +kernel
theorem ef_own_init (m : MethodId) (a : Addr) : entryFrame m #[(.ref a), (.int (2 : Int32)), (.int (3 : Int32))] 3 = mkF m 0 #[rv a, iv (2 : Int32), iv (3 : Int32)] [] := by first | (simp [entryFrame, mkF, argsToLocals, Value.category]; done) | rfl
set_option maxRecDepth 65536 in
set_option maxHeartbeats 40000000 in
theorem own_init (l : Launch) (Z : State) (a0 : Array Value) (hw : ∀ d ∈ tables_1, d.before a0 Z = true) (a : Addr)  (h : Heap) (n0 : Nat) (hn0 : Old Z n0 h) (E0 : Exa Z h a "com/example/waymarshal/waymarshal/replay/VacantVehicles") (F1 : Fld Z h a "com/example/waymarshal/waymarshal/replay/VacantVehicles" "first" "[I" .null) (F2 : Fld Z h a "com/example/waymarshal/waymarshal/replay/VacantVehicles" "next" "[I" .null) (ga : n0 ≤ a) :
    Con l Z (⟨"com/example/waymarshal/waymarshal/replay/VacantVehicles", "<init>", "(II)V"⟩ : MethodName) prog_68_method_1_code 3 none ({ frames := 1, cells := 2, slots := 5, locals := 15 } : Room) #[(.ref a), (.int (2 : Int32)), (.int (3 : Int32))] h n0 (fun v h' => v = none ∧ ∃ f n : Addr, Keep h h' [a] ∧ Exa Z h' a "com/example/waymarshal/waymarshal/replay/VacantVehicles" ∧ Fld Z h' a "com/example/waymarshal/waymarshal/replay/VacantVehicles" "first" "[I" (.ref f) ∧ Fld Z h' a "com/example/waymarshal/waymarshal/replay/VacantVehicles" "next" "[I" (.ref n) ∧ La Z h' f .int (ia [-1, -1]) ∧ La Z h' n .int (ia [0, 0, 0]) ∧ h.size ≤ f ∧ h.size ≤ n ∧ f ≠ n) := by
  refine con_of hw (plainFor_of_name pn_com_example_waymarshal_waymarshal_replay_VacantVehicles) hn0 ?_
  intro p e s m below meth c T0 C X0
  refine Go.cast (congrArg T0.setTop (ef_own_init m a)) ?_
  refine go_aloadN C X0 1 rfl d2_0 rfl rfl ?_
  refine go_initO C X0 (C.w 11 rfl) (C.w 12 rfl) (C.w 13 rfl) (by decide) (Nat.le_of_ble_eq_true rfl) rfl (pc' := 4) rfl d2_1 (fun T1 X2 => ?_)
  refine go_aloadN C X2 5 rfl d2_4 rfl rfl ?_
  refine go_iloadN C X2 6 rfl d2_5 rfl ?_
  refine go_newarr C X2 (C.w 14 rfl) (cap := 2) (by decide) (by decide) (by decide) (by decide) (by decide) (pc' := 8) rfl d2_6 (fun T3 h5 f ha_f ga_f E6 A7  X4 => ?_)
  have ne_a_f : a ≠ f := Nat.ne_of_lt (Nat.lt_of_lt_of_le E0.lt (Nat.le_of_eq ha_f.symm))
  have sz_f : h.size ≤ f := Nat.le_trans (Keep.refl h [a]).1 (Nat.le_of_eq ha_f.symm)
  have E8 := E0.ext E6
  have F9 := F1.ext E6
  have F10 := F2.ext E6
  have K11 := (Keep.refl h [a]).ext E6
  replace A7 : La Z h5 f .int ([(.int (0 : Int32)), (.int (0 : Int32))]) := A7
  refine go_putF C X4 (C.w 15 rfl) Via.refl F9 E8 (Or.inr ⟨C.w 16 rfl, rfl, C.nmE⟩) (C.w 6 rfl) ga (ty := (.array .int)) (by decide) rfl rfl (pc' := 11) rfl d2_8 (fun T12 h14 W15 X13 => ?_)
  have F16 := F9.same W15
  have E17 := E8.wr W15
  have F18 := F10.other W15 (Or.inr (slot_ne (Or.inr (C.w 18 rfl)) (Or.inr (C.w 16 rfl)) (by decide) (t := (.array .int)) (t' := (.array .int)) (by decide) (by decide)))
  have A19 := A7.other W15 (Ne.symm ne_a_f)
  have K20 := K11.wr W15 (Or.inl (List.mem_of_getElem? (i := 0) rfl))
  refine go_aloadN C X13 12 rfl d2_11 rfl rfl ?_
  refine go_iloadN C X13 13 rfl d2_12 rfl ?_
  refine go_newarr C X13 (C.w 14 rfl) (cap := 3) (by decide) (by decide) (by decide) (by decide) (by decide) (pc' := 15) rfl d2_13 (fun T21 h23 n ha_n ga_n E24 A25  X22 => ?_)
  have ne_a_n : a ≠ n := Nat.ne_of_lt (Nat.lt_of_lt_of_le E17.lt (Nat.le_of_eq ha_n.symm))
  have ne_f_n : f ≠ n := Nat.ne_of_lt (Nat.lt_of_lt_of_le A19.lt (Nat.le_of_eq ha_n.symm))
  have sz_n : h.size ≤ n := Nat.le_trans K20.1 (Nat.le_of_eq ha_n.symm)
  have E26 := E17.ext E24
  have F27 := F16.ext E24
  have F28 := F18.ext E24
  have A29 := A19.ext E24
  have K30 := K20.ext E24
  replace A25 : La Z h23 n .int ([(.int (0 : Int32)), (.int (0 : Int32)), (.int (0 : Int32))]) := A25
  refine go_putF C X22 (C.w 17 rfl) Via.refl F28 E26 (Or.inr ⟨C.w 18 rfl, rfl, C.nmE⟩) (C.w 6 rfl) ga (ty := (.array .int)) (by decide) rfl rfl (pc' := 18) rfl d2_15 (fun T31 h33 W34 X32 => ?_)
  have F35 := F28.same W34
  have E36 := E26.wr W34
  have F37 := F27.other W34 (Or.inr (slot_ne (Or.inr (C.w 16 rfl)) (Or.inr (C.w 18 rfl)) (by decide) (t := (.array .int)) (t' := (.array .int)) (by decide) (by decide)))
  have A38 := A29.other W34 (Ne.symm ne_a_f)
  have A39 := A25.other W34 (Ne.symm ne_a_n)
  have K40 := K30.wr W34 (Or.inl (List.mem_of_getElem? (i := 0) rfl))
  refine go_aloadN C X32 19 rfl d2_18 rfl rfl ?_
  refine go_getF C X32 (C.w 15 rfl) Via.refl F37 (pc' := 22) rfl d2_19 (fun T41 X42 => ?_)
  refine go_iconst C X42 23 rfl d2_22 (z := (-1)) rfl ?_
  refine go_callS C X42 (C.w 19 rfl) (C.w 20 rfl) (C.w 21 rfl) (C.w 22 rfl) (own_fill l Z a0 C.ws f (-1 : Int32) 0 0 h33 n0 X42.old A38 ga_f) (argsL := [(.ref f), (.int (-1 : Int32))]) (rest := []) (lenOf pd_0 rfl) rfl (by decide) (by decide) (Nat.le_of_ble_eq_true rfl) (by decide) (by decide) rfl rfl (pc' := 26) rfl d2_23 ?_
  rintro T43 h45 _ ⟨rfl, K9, A9⟩ X44
  show Go p e below _ (T43.setTop (mkF m 26 #[rv a, iv (2 : Int32), iv (3 : Int32)] []))
  have E46 := E36.keep K9
  have F47 := F37.keep K9 (ninS ne_a_f nin0)
  have F48 := F35.keep K9 (ninS ne_a_f nin0)
  have A49 := A39.keep K9 (ninS (Ne.symm ne_f_n) nin0)
  have K50 := K40.trans K9 (allS (Or.inr sz_f) all0)
  exact go_ret0 C X44 d2_26 ⟨rfl, f, n, K50, E46, F47, F48, A9, A49, sz_f, sz_n, ne_f_n⟩ (by decide) (by decide)
theorem d5_0 : decode prog_68_method_2_code 0 = .ok (.iconst (-1), 1) := by decide +kernel
theorem d5_1 : decode prog_68_method_2_code 1 = .ok (.istore_n 3, 1) := by decide +kernel
theorem d5_2 : decode prog_68_method_2_code 2 = .ok (.aload_n 0, 1) := by decide +kernel
theorem d5_3 : decode prog_68_method_2_code 3 = .ok (.getfield 7, 3) := by decide +kernel
theorem d5_6 : decode prog_68_method_2_code 6 = .ok (.iload_n 1, 1) := by decide +kernel
theorem d5_7 : decode prog_68_method_2_code 7 = .ok (.iaload, 1) := by decide +kernel
theorem d5_8 : decode prog_68_method_2_code 8 = .ok (.istore 4, 2) := by decide +kernel
theorem d5_36 : decode prog_68_method_2_code 36 = .ok (.aload_n 0, 1) := by decide +kernel
theorem d5_37 : decode prog_68_method_2_code 37 = .ok (.getfield 13, 3) := by decide +kernel
theorem d5_40 : decode prog_68_method_2_code 40 = .ok (.iload_n 2, 1) := by decide +kernel
theorem d5_41 : decode prog_68_method_2_code 41 = .ok (.iload 4, 2) := by decide +kernel
theorem d5_43 : decode prog_68_method_2_code 43 = .ok (.iastore, 1) := by decide +kernel
theorem d5_44 : decode prog_68_method_2_code 44 = .ok (.iload_n 3, 1) := by decide +kernel
theorem d5_45 : decode prog_68_method_2_code 45 = .ok (.ifCond .ge 13, 3) := by decide +kernel
theorem d5_58 : decode prog_68_method_2_code 58 = .ok (.aload_n 0, 1) := by decide +kernel
theorem d5_59 : decode prog_68_method_2_code 59 = .ok (.getfield 13, 3) := by decide +kernel
theorem d5_62 : decode prog_68_method_2_code 62 = .ok (.iload_n 3, 1) := by decide +kernel
theorem d5_63 : decode prog_68_method_2_code 63 = .ok (.iload_n 2, 1) := by decide +kernel
theorem d5_64 : decode prog_68_method_2_code 64 = .ok (.iastore, 1) := by decide +kernel
theorem d5_65 : decode prog_68_method_2_code 65 = .ok (.return_, 1) := by decide +kernel
theorem d5_48 : decode prog_68_method_2_code 48 = .ok (.aload_n 0, 1) := by decide +kernel
theorem d5_49 : decode prog_68_method_2_code 49 = .ok (.getfield 7, 3) := by decide +kernel
theorem d5_52 : decode prog_68_method_2_code 52 = .ok (.iload_n 1, 1) := by decide +kernel
theorem d5_53 : decode prog_68_method_2_code 53 = .ok (.iload_n 2, 1) := by decide +kernel
theorem d5_54 : decode prog_68_method_2_code 54 = .ok (.iastore, 1) := by decide +kernel
theorem d5_55 : decode prog_68_method_2_code 55 = .ok (.goto 10, 3) := by decide +kernel
theorem d5_10 : decode prog_68_method_2_code 10 = .ok (.iload 4, 2) := by decide +kernel
theorem d5_12 : decode prog_68_method_2_code 12 = .ok (.ifCond .lt 24, 3) := by decide +kernel
theorem d5_15 : decode prog_68_method_2_code 15 = .ok (.iload 4, 2) := by decide +kernel
theorem d5_17 : decode prog_68_method_2_code 17 = .ok (.iload_n 2, 1) := by decide +kernel
theorem d5_18 : decode prog_68_method_2_code 18 = .ok (.if_icmp .ge 18, 3) := by decide +kernel
theorem d5_21 : decode prog_68_method_2_code 21 = .ok (.iload 4, 2) := by decide +kernel
theorem d5_23 : decode prog_68_method_2_code 23 = .ok (.istore_n 3, 1) := by decide +kernel
theorem d5_24 : decode prog_68_method_2_code 24 = .ok (.aload_n 0, 1) := by decide +kernel
theorem d5_25 : decode prog_68_method_2_code 25 = .ok (.getfield 13, 3) := by decide +kernel
theorem d5_28 : decode prog_68_method_2_code 28 = .ok (.iload 4, 2) := by decide +kernel
theorem d5_30 : decode prog_68_method_2_code 30 = .ok (.iaload, 1) := by decide +kernel
theorem d5_31 : decode prog_68_method_2_code 31 = .ok (.istore 4, 2) := by decide +kernel
theorem d5_33 : decode prog_68_method_2_code 33 = .ok (.goto (-23), 3) := by decide +kernel
theorem ef_own_add (m : MethodId) (a : Addr) (nd : Int32) (r : Int32) : entryFrame m #[(.ref a), (.int nd), (.int r)] 5 = mkF m 0 #[rv a, iv nd, iv r, un, un] [] := by first | (simp [entryFrame, mkF, argsToLocals, Value.category]; done) | rfl
set_option maxRecDepth 65536 in
set_option maxHeartbeats 40000000 in
theorem own_add (l : Launch) (Z : State) (a0 : Array Value) (hw : ∀ d ∈ tables_1, d.before a0 Z = true) (a : Addr) (nd : Int32) (r : Int32) (f n : Addr) (fi nx fi' nx' : List Int32) (h : Heap) (n0 : Nat) (hn0 : Old Z n0 h) (F1 : Fld Z h a "com/example/waymarshal/waymarshal/replay/VacantVehicles" "first" "[I" (.ref f)) (F2 : Fld Z h a "com/example/waymarshal/waymarshal/replay/VacantVehicles" "next" "[I" (.ref n)) (A1 : La Z h f .int (ia fi)) (A2 : La Z h n .int (ia nx)) (nfn : f ≠ n) (naf : a ≠ f) (nan : a ≠ n) (gf : n0 ≤ f) (gn : n0 ≤ n) (nd0 : 0 ≤ nd.toInt) (nd1 : nd.toInt < fi.length) (r0 : 0 ≤ r.toInt) (r1 : r.toInt < nx.length) (H : own_addF fi nx nd r = some (fi', nx')) :
    Con l Z (⟨"com/example/waymarshal/waymarshal/replay/VacantVehicles", "add", "(II)V"⟩ : MethodName) prog_68_method_2_code 5 none ({ frames := 0, cells := 0, slots := 0, locals := 0 } : Room) #[(.ref a), (.int nd), (.int r)] h n0 (fun v h' => v = none ∧ Keep h h' [f, n] ∧ La Z h' f .int (ia fi') ∧ La Z h' n .int (ia nx')) := by
  refine con_of hw (plainFor_of_name pn_com_example_waymarshal_waymarshal_replay_VacantVehicles) hn0 ?_
  intro p e s m below meth c T0 C X0
  refine Go.cast (congrArg T0.setTop (ef_own_add m a nd r)) ?_
  refine go_iconst C X0 1 rfl d5_0 (z := (-1)) rfl ?_
  refine go_istoreN C X0 2 rfl d5_1 #[rv a, iv nd, iv r, iv (-1 : Int32), un] rfl ?_
  refine go_aloadN C X0 3 rfl d5_2 rfl rfl ?_
  refine go_getF C X0 (C.w 15 rfl) Via.refl F1 (pc' := 6) rfl d5_3 (fun T1 X2 => ?_)
  refine go_iloadN C X2 7 rfl d5_6 rfl ?_
  refine go_iaload C X2 A1 nd0 (v := (.int (at32 fi nd))) (ia_at nd0 nd1) (pc' := 8) rfl d5_7 ?_
  refine go_istore C X2 10 rfl d5_8 #[rv a, iv nd, iv r, iv (-1 : Int32), iv (at32 fi nd)] rfl ?_
  unfold own_addF at H
  split at H
  · cases H
  rename_i pv' at' e5
  have EX : ∀ (T1 : State) (X1 : St Z p l e ({ frames := 0, cells := 0, slots := 0, locals := 0 } : Room) s m #[(.ref a), (.int nd), (.int r)] below meth c n0 T1 h (0) (0)), Go p e below (FinQ s ({ frames := 0, cells := 0, slots := 0, locals := 0 } : Room).cells ({ frames := 0, cells := 0, slots := 0, locals := 0 } : Room).slots n0 (fun v h' => v = none ∧ Keep h h' [f, n] ∧ La Z h' f .int (ia fi') ∧ La Z h' n .int (ia nx'))) (T1.setTop (mkF m 36 #[rv a, iv nd, iv r, iv pv', iv at'] [])) := by
    intro T1 X1
    refine go_aloadN C X1 37 rfl d5_36 rfl rfl ?_
    refine go_getF C X1 (C.w 17 rfl) Via.refl F2 (pc' := 40) rfl d5_37 (fun T3 X4 => ?_)
    refine go_iloadN C X4 41 rfl d5_40 rfl ?_
    refine go_iload C X4 43 rfl d5_41 rfl ?_
    refine go_iastore C X4 A2 r0 (by rw [ia_len]; exact r1) gn (pc' := 44) rfl d5_43 (fun T5 h7 W8 A9 X6 => ?_)
    have F10 := F1.other W8 (Or.inl nan)
    have F11 := F2.other W8 (Or.inl nan)
    have A12 := A1.other W8 nfn
    have K13 := (Keep.refl h [f, n]).wr W8 (Or.inl (List.mem_of_getElem? (i := 1) rfl))
    rw [ia_put] at A9
    refine go_iloadN C X6 45 rfl d5_44 rfl ?_
    refine go_if_ge C X6 d5_45 (pc' := 48) (pc2 := 58) rfl (by decide) (by decide) (fun (c45 : 0 ≤ pv'.toInt) => ?_) (fun (c45 : pv'.toInt < 0) => ?_)
    · rw [if_neg (by omega)] at H
      split at H
      case isFalse => cases H
      rename_i q9
      obtain ⟨e7, e8⟩ := Prod.mk.inj (Option.some.inj H)
      refine go_aloadN C X6 59 rfl d5_58 rfl rfl ?_
      refine go_getF C X6 (C.w 17 rfl) Via.refl F11 (pc' := 62) rfl d5_59 (fun T14 X15 => ?_)
      refine go_iloadN C X15 63 rfl d5_62 rfl ?_
      refine go_iloadN C X15 64 rfl d5_63 rfl ?_
      refine go_iastore C X15 A9 c45 (by rw [ia_len, put32_len]; exact q9) gn (pc' := 65) rfl d5_64 (fun T16 h18 W19 A20 X17 => ?_)
      have F21 := F10.other W19 (Or.inl nan)
      have F22 := F11.other W19 (Or.inl nan)
      have A23 := A12.other W19 nfn
      have K24 := K13.wr W19 (Or.inl (List.mem_of_getElem? (i := 1) rfl))
      rw [ia_put] at A20
      exact go_ret0 C X17 d5_65 (by subst e7; subst e8; exact ⟨rfl, K24, A23, A20⟩) (by decide) (by decide)
    · rw [if_pos c45] at H
      obtain ⟨e7, e8⟩ := Prod.mk.inj (Option.some.inj H)
      refine go_aloadN C X6 49 rfl d5_48 rfl rfl ?_
      refine go_getF C X6 (C.w 15 rfl) Via.refl F10 (pc' := 52) rfl d5_49 (fun T25 X26 => ?_)
      refine go_iloadN C X26 53 rfl d5_52 rfl ?_
      refine go_iloadN C X26 54 rfl d5_53 rfl ?_
      refine go_iastore C X26 A12 nd0 (by rw [ia_len]; exact nd1) gf (pc' := 55) rfl d5_54 (fun T27 h29 W30 A31 X28 => ?_)
      have F32 := F10.other W30 (Or.inl naf)
      have F33 := F11.other W30 (Or.inl naf)
      have A34 := A9.other W30 (Ne.symm nfn)
      have K35 := K13.wr W30 (Or.inl (List.mem_of_getElem? (i := 0) rfl))
      rw [ia_put] at A31
      refine go_goto C X28 d5_55 (pc' := 65) (by decide) (by decide) ?_
      exact go_ret0 C X28 d5_65 (by subst e7; subst e8; exact ⟨rfl, K35, A31, A34⟩) (by decide) (by decide)
  have LP : ∀ (fu : Nat) (T1 : State) (X1 : St Z p l e ({ frames := 0, cells := 0, slots := 0, locals := 0 } : Room) s m #[(.ref a), (.int nd), (.int r)] below meth c n0 T1 h (0) (0)) (pv at1 : Int32) (_ : own_seek nx r fu pv at1 = some (pv', at')), Go p e below (FinQ s ({ frames := 0, cells := 0, slots := 0, locals := 0 } : Room).cells ({ frames := 0, cells := 0, slots := 0, locals := 0 } : Room).slots n0 (fun v h' => v = none ∧ Keep h h' [f, n] ∧ La Z h' f .int (ia fi') ∧ La Z h' n .int (ia nx'))) (T1.setTop (mkF m 10 #[rv a, iv nd, iv r, iv pv, iv at1] [])) := by
    intro fu
    induction fu with
    | zero => intro T1 X1 pv at1 H1; cases H1
    | succ fu ih =>
      intro T1 X1 pv at1 H1
      rw [own_seek] at H1
      refine go_iload C X1 12 rfl d5_10 rfl ?_
      refine go_if_lt C X1 d5_12 (pc' := 15) (pc2 := 36) rfl (by decide) (by decide) (fun (c12 : at1.toInt < 0) => ?_) (fun (c12 : 0 ≤ at1.toInt) => ?_)
      · rw [if_pos c12] at H1
        cases H1
        exact EX _ X1
      · refine go_iload C X1 17 rfl d5_15 rfl ?_
        refine go_iloadN C X1 18 rfl d5_17 rfl ?_
        refine go_icmp_ge C X1 d5_18 (pc' := 21) (pc2 := 36) rfl (by decide) (by decide) (fun (c18 : r.toInt ≤ at1.toInt) => ?_) (fun (c18 : at1.toInt < r.toInt) => ?_)
        · rw [if_neg (by omega), if_pos c18] at H1
          cases H1
          exact EX _ X1
        · refine go_iload C X1 23 rfl d5_21 rfl ?_
          refine go_istoreN C X1 24 rfl d5_23 #[rv a, iv nd, iv r, iv at1, iv at1] rfl ?_
          refine go_aloadN C X1 25 rfl d5_24 rfl rfl ?_
          refine go_getF C X1 (C.w 17 rfl) Via.refl F2 (pc' := 28) rfl d5_25 (fun T36 X37 => ?_)
          refine go_iload C X37 30 rfl d5_28 rfl ?_
          refine go_iaload C X37 A2 c12 (v := (.int (at32 nx at1))) (ia_at c12 (by omega)) (pc' := 31) rfl d5_30 ?_
          refine go_istore C X37 33 rfl d5_31 #[rv a, iv nd, iv r, iv at1, iv (at32 nx at1)] rfl ?_
          refine go_goto C X37 d5_33 (pc' := 10) (by decide) (by decide) ?_
          rw [if_neg (by omega), if_neg (by omega)] at H1
          exact ih _ X37 _ _ H1
  exact LP 5 _ X2 _ _ e5
theorem d7_0 : decode prog_68_method_4_code 0 = .ok (.aload_n 0, 1) := by decide +kernel
theorem d7_1 : decode prog_68_method_4_code 1 = .ok (.getfield 7, 3) := by decide +kernel
theorem d7_4 : decode prog_68_method_4_code 4 = .ok (.iload_n 1, 1) := by decide +kernel
theorem d7_5 : decode prog_68_method_4_code 5 = .ok (.iaload, 1) := by decide +kernel
theorem d7_6 : decode prog_68_method_4_code 6 = .ok (.ireturn, 1) := by decide +kernel
theorem ef_own_first (m : MethodId) (a : Addr) (i : Int32) : entryFrame m #[(.ref a), (.int i)] 2 = mkF m 0 #[rv a, iv i] [] := by first | (simp [entryFrame, mkF, argsToLocals, Value.category]; done) | rfl
set_option maxRecDepth 65536 in
set_option maxHeartbeats 40000000 in
theorem own_first (l : Launch) (Z : State) (a0 : Array Value) (hw : ∀ d ∈ tables_1, d.before a0 Z = true) (a : Addr) (i : Int32) (b : Addr) (xs : List Int32) (h : Heap) (n0 : Nat) (hn0 : Old Z n0 h) (F1 : Fld Z h a "com/example/waymarshal/waymarshal/replay/VacantVehicles" "first" "[I" (.ref b)) (A1 : La Z h b .int (ia xs)) (q0 : 0 ≤ i.toInt) (q1 : i.toInt < xs.length) :
    Con l Z (⟨"com/example/waymarshal/waymarshal/replay/VacantVehicles", "first", "(I)I"⟩ : MethodName) prog_68_method_4_code 2 (some .int) ({ frames := 0, cells := 0, slots := 0, locals := 0 } : Room) #[(.ref a), (.int i)] h n0 (fun v h' => v = some (.int (at32 xs i)) ∧ h = h') := by
  refine con_of hw (plainFor_of_name pn_com_example_waymarshal_waymarshal_replay_VacantVehicles) hn0 ?_
  intro p e s m below meth c T0 C X0
  refine Go.cast (congrArg T0.setTop (ef_own_first m a i)) ?_
  refine go_aloadN C X0 1 rfl d7_0 rfl rfl ?_
  refine go_getF C X0 (C.w 15 rfl) Via.refl F1 (pc' := 4) rfl d7_1 (fun T1 X2 => ?_)
  refine go_iloadN C X2 5 rfl d7_4 rfl ?_
  refine go_iaload C X2 A1 q0 (v := (.int (at32 xs i))) (ia_at q0 q1) (pc' := 6) rfl d7_5 ?_
  exact go_retI C X2 d7_6 ⟨rfl, rfl⟩ (by decide) (by decide)
theorem d9_0 : decode prog_68_method_5_code 0 = .ok (.aload_n 0, 1) := by decide +kernel
theorem d9_1 : decode prog_68_method_5_code 1 = .ok (.getfield 13, 3) := by decide +kernel
theorem d9_4 : decode prog_68_method_5_code 4 = .ok (.iload_n 1, 1) := by decide +kernel
theorem d9_5 : decode prog_68_method_5_code 5 = .ok (.iaload, 1) := by decide +kernel
theorem d9_6 : decode prog_68_method_5_code 6 = .ok (.ireturn, 1) := by decide +kernel
theorem ef_own_next (m : MethodId) (a : Addr) (i : Int32) : entryFrame m #[(.ref a), (.int i)] 2 = mkF m 0 #[rv a, iv i] [] := by first | (simp [entryFrame, mkF, argsToLocals, Value.category]; done) | rfl
set_option maxRecDepth 65536 in
set_option maxHeartbeats 40000000 in
theorem own_next (l : Launch) (Z : State) (a0 : Array Value) (hw : ∀ d ∈ tables_1, d.before a0 Z = true) (a : Addr) (i : Int32) (b : Addr) (xs : List Int32) (h : Heap) (n0 : Nat) (hn0 : Old Z n0 h) (F1 : Fld Z h a "com/example/waymarshal/waymarshal/replay/VacantVehicles" "next" "[I" (.ref b)) (A1 : La Z h b .int (ia xs)) (q0 : 0 ≤ i.toInt) (q1 : i.toInt < xs.length) :
    Con l Z (⟨"com/example/waymarshal/waymarshal/replay/VacantVehicles", "next", "(I)I"⟩ : MethodName) prog_68_method_5_code 2 (some .int) ({ frames := 0, cells := 0, slots := 0, locals := 0 } : Room) #[(.ref a), (.int i)] h n0 (fun v h' => v = some (.int (at32 xs i)) ∧ h = h') := by
  refine con_of hw (plainFor_of_name pn_com_example_waymarshal_waymarshal_replay_VacantVehicles) hn0 ?_
  intro p e s m below meth c T0 C X0
  refine Go.cast (congrArg T0.setTop (ef_own_next m a i)) ?_
  refine go_aloadN C X0 1 rfl d9_0 rfl rfl ?_
  refine go_getF C X0 (C.w 17 rfl) Via.refl F1 (pc' := 4) rfl d9_1 (fun T1 X2 => ?_)
  refine go_iloadN C X2 5 rfl d9_4 rfl ?_
  refine go_iaload C X2 A1 q0 (v := (.int (at32 xs i))) (ia_at q0 q1) (pc' := 6) rfl d9_5 ?_
  exact go_retI C X2 d9_6 ⟨rfl, rfl⟩ (by decide) (by decide)
def own_find (nx : List Int32) (r : Int32) : Nat → Int32 → Option Int32
  | 0, _ => none
  | f + 1, a => if 0 ≤ a.toInt ∧ a.toInt < nx.length then (if at32 nx a = r then some a else own_find nx r f (at32 nx a)) else none
def own_remF (fi nx : List Int32) (nd r : Int32) : Option (List Int32 × List Int32) :=
  if at32 fi nd = r then some (put32 fi nd (at32 nx r), nx) else match own_find nx r 5 (at32 fi nd) with
  | none => none
  | some a => some (fi, put32 nx a (at32 nx r))
def own_place (p r : Int32) : Int32 := if ((p.toUInt32 >>> ((2 * r) &&& 31).toUInt32).toInt32) &&& 3 = 0 then -1 else if ((p.toUInt32 >>> ((2 * r) &&& 31).toUInt32).toInt32) &&& 3 = 1 then 0 else 1
def own_firstAt (a b c n : Int32) : Int32 := if a = n then 0 else if b = n then 1 else if c = n then 2 else -1
def own_nextOf (r a b c : Int32) : Int32 := if r = 0 then (if b = a then 1 else if c = a then 2 else -1) else if r = 1 then (if c = b then 2 else -1) else -1
theorem own_place_r (p r : Int32) : own_place p r = -1 ∨ own_place p r = 0 ∨ own_place p r = 1 := by
  unfold own_place
  split
  · simp
  · split <;> simp
theorem d1_0 : decode method_2_code 0 = .ok (.iload_n 0, 1) := by decide +kernel
theorem d1_1 : decode method_2_code 1 = .ok (.iconst 2, 1) := by decide +kernel
theorem d1_2 : decode method_2_code 2 = .ok (.iload_n 1, 1) := by decide +kernel
theorem d1_3 : decode method_2_code 3 = .ok (.imul, 1) := by decide +kernel
theorem d1_4 : decode method_2_code 4 = .ok (.iushr, 1) := by decide +kernel
theorem d1_5 : decode method_2_code 5 = .ok (.iconst 3, 1) := by decide +kernel
theorem d1_6 : decode method_2_code 6 = .ok (.iand, 1) := by decide +kernel
theorem d1_7 : decode method_2_code 7 = .ok (.istore_n 2, 1) := by decide +kernel
theorem d1_8 : decode method_2_code 8 = .ok (.iload_n 2, 1) := by decide +kernel
theorem d1_9 : decode method_2_code 9 = .ok (.ifCond .ne 5, 3) := by decide +kernel
theorem d1_14 : decode method_2_code 14 = .ok (.iload_n 2, 1) := by decide +kernel
theorem d1_15 : decode method_2_code 15 = .ok (.iconst 1, 1) := by decide +kernel
theorem d1_16 : decode method_2_code 16 = .ok (.if_icmp .ne 5, 3) := by decide +kernel
theorem d1_21 : decode method_2_code 21 = .ok (.iconst 1, 1) := by decide +kernel
theorem d1_22 : decode method_2_code 22 = .ok (.ireturn, 1) := by decide +kernel
theorem d1_19 : decode method_2_code 19 = .ok (.iconst 0, 1) := by decide +kernel
theorem d1_20 : decode method_2_code 20 = .ok (.ireturn, 1) := by decide +kernel
theorem d1_12 : decode method_2_code 12 = .ok (.iconst (-1), 1) := by decide +kernel
theorem d1_13 : decode method_2_code 13 = .ok (.ireturn, 1) := by decide +kernel
theorem pn_com_example_waymarshal_waymarshal_replay_VacantVehiclesRemovePinLaw : plainName "com/example/waymarshal/waymarshal/replay/VacantVehiclesRemovePinLaw" = true := by first | (simp [plainName, overriddenIn]; done) | decide +kernel
theorem ef_own_placeM (m : MethodId) (p1 : Int32) (r : Int32) : entryFrame m #[(.int p1), (.int r)] 3 = mkF m 0 #[iv p1, iv r, un] [] := by first | (simp [entryFrame, mkF, argsToLocals, Value.category]; done) | rfl
set_option maxRecDepth 65536 in
set_option maxHeartbeats 40000000 in
theorem own_placeM (l : Launch) (Z : State) (a0 : Array Value) (hw : ∀ d ∈ tables_1, d.before a0 Z = true) (p1 : Int32) (r : Int32)  (h : Heap) (n0 : Nat) (hn0 : Old Z n0 h)  :
    Con l Z (⟨"com/example/waymarshal/waymarshal/replay/VacantVehiclesRemovePinLaw", "place", "(II)I"⟩ : MethodName) method_2_code 3 (some .int) ({ frames := 0, cells := 0, slots := 0, locals := 0 } : Room) #[(.int p1), (.int r)] h n0 (fun v h' => v = some (.int (own_place p1 r)) ∧ h = h') := by
  refine con_of hw (plainFor_of_name pn_com_example_waymarshal_waymarshal_replay_VacantVehiclesRemovePinLaw) hn0 ?_
  intro p e s m below meth c T0 C X0
  refine Go.cast (congrArg T0.setTop (ef_own_placeM m p1 r)) ?_
  refine go_iloadN C X0 1 rfl d1_0 rfl ?_
  refine go_iconst C X0 2 rfl d1_1 (z := 2) rfl ?_
  refine go_iloadN C X0 3 rfl d1_2 rfl ?_
  refine go_imul C X0 4 rfl d1_3 ?_
  refine go_iushr C X0 5 rfl d1_4 ?_
  refine go_iconst C X0 6 rfl d1_5 (z := 3) rfl ?_
  refine go_iand C X0 7 rfl d1_6 ?_
  refine go_istoreN C X0 8 rfl d1_7 #[iv p1, iv r, iv (((p1.toUInt32 >>> (((2 : Int32) * r) &&& 31).toUInt32).toInt32) &&& (3 : Int32))] rfl ?_
  refine go_iloadN C X0 9 rfl d1_8 rfl ?_
  refine go_if_ne C X0 d1_9 (pc' := 12) (pc2 := 14) rfl (by decide) (by decide) (fun (c9 : ¬ (((p1.toUInt32 >>> (((2 : Int32) * r) &&& 31).toUInt32).toInt32) &&& (3 : Int32)) = (0 : Int32)) => ?_) (fun (c9 : (((p1.toUInt32 >>> (((2 : Int32) * r) &&& 31).toUInt32).toInt32) &&& (3 : Int32)) = (0 : Int32)) => ?_)
  · refine go_iloadN C X0 15 rfl d1_14 rfl ?_
    refine go_iconst C X0 16 rfl d1_15 (z := 1) rfl ?_
    refine go_icmp_ne C X0 d1_16 (pc' := 19) (pc2 := 21) rfl (by decide) (by decide) (fun (c16 : ¬ (((p1.toUInt32 >>> (((2 : Int32) * r) &&& 31).toUInt32).toInt32) &&& (3 : Int32)) = (1 : Int32)) => ?_) (fun (c16 : (((p1.toUInt32 >>> (((2 : Int32) * r) &&& 31).toUInt32).toInt32) &&& (3 : Int32)) = (1 : Int32)) => ?_)
    · refine go_iconst C X0 22 rfl d1_21 (z := 1) rfl ?_
      exact go_retI C X0 d1_22 ⟨by unfold own_place; rw [if_neg c9, if_neg c16], rfl⟩ (by decide) (by decide)
    · refine go_iconst C X0 20 rfl d1_19 (z := 0) rfl ?_
      exact go_retI C X0 d1_20 ⟨by unfold own_place; rw [if_neg c9, if_pos c16], rfl⟩ (by decide) (by decide)
  · refine go_iconst C X0 13 rfl d1_12 (z := (-1)) rfl ?_
    exact go_retI C X0 d1_13 ⟨by unfold own_place; rw [if_pos c9], rfl⟩ (by decide) (by decide)
theorem d8_0 : decode method_3_code 0 = .ok (.iload_n 0, 1) := by decide +kernel
theorem d8_1 : decode method_3_code 1 = .ok (.iload_n 3, 1) := by decide +kernel
theorem d8_2 : decode method_3_code 2 = .ok (.if_icmp .ne 5, 3) := by decide +kernel
theorem d8_7 : decode method_3_code 7 = .ok (.iload_n 1, 1) := by decide +kernel
theorem d8_8 : decode method_3_code 8 = .ok (.iload_n 3, 1) := by decide +kernel
theorem d8_9 : decode method_3_code 9 = .ok (.if_icmp .ne 5, 3) := by decide +kernel
theorem d8_14 : decode method_3_code 14 = .ok (.iload_n 2, 1) := by decide +kernel
theorem d8_15 : decode method_3_code 15 = .ok (.iload_n 3, 1) := by decide +kernel
theorem d8_16 : decode method_3_code 16 = .ok (.if_icmp .ne 5, 3) := by decide +kernel
theorem d8_21 : decode method_3_code 21 = .ok (.iconst (-1), 1) := by decide +kernel
theorem d8_22 : decode method_3_code 22 = .ok (.ireturn, 1) := by decide +kernel
theorem d8_19 : decode method_3_code 19 = .ok (.iconst 2, 1) := by decide +kernel
theorem d8_20 : decode method_3_code 20 = .ok (.ireturn, 1) := by decide +kernel
theorem d8_12 : decode method_3_code 12 = .ok (.iconst 1, 1) := by decide +kernel
theorem d8_13 : decode method_3_code 13 = .ok (.ireturn, 1) := by decide +kernel
theorem d8_5 : decode method_3_code 5 = .ok (.iconst 0, 1) := by decide +kernel
theorem d8_6 : decode method_3_code 6 = .ok (.ireturn, 1) := by decide +kernel
theorem ef_own_firstAtM (m : MethodId) (x : Int32) (y : Int32) (z : Int32) (u : Int32) : entryFrame m #[(.int x), (.int y), (.int z), (.int u)] 4 = mkF m 0 #[iv x, iv y, iv z, iv u] [] := by first | (simp [entryFrame, mkF, argsToLocals, Value.category]; done) | rfl
set_option maxRecDepth 65536 in
set_option maxHeartbeats 40000000 in
theorem own_firstAtM (l : Launch) (Z : State) (a0 : Array Value) (hw : ∀ d ∈ tables_1, d.before a0 Z = true) (x : Int32) (y : Int32) (z : Int32) (u : Int32)  (h : Heap) (n0 : Nat) (hn0 : Old Z n0 h)  :
    Con l Z (⟨"com/example/waymarshal/waymarshal/replay/VacantVehiclesRemovePinLaw", "firstAt", "(IIII)I"⟩ : MethodName) method_3_code 4 (some .int) ({ frames := 0, cells := 0, slots := 0, locals := 0 } : Room) #[(.int x), (.int y), (.int z), (.int u)] h n0 (fun v h' => v = some (.int (own_firstAt x y z u)) ∧ h = h') := by
  refine con_of hw (plainFor_of_name pn_com_example_waymarshal_waymarshal_replay_VacantVehiclesRemovePinLaw) hn0 ?_
  intro p e s m below meth c T0 C X0
  refine Go.cast (congrArg T0.setTop (ef_own_firstAtM m x y z u)) ?_
  refine go_iloadN C X0 1 rfl d8_0 rfl ?_
  refine go_iloadN C X0 2 rfl d8_1 rfl ?_
  refine go_icmp_ne C X0 d8_2 (pc' := 5) (pc2 := 7) rfl (by decide) (by decide) (fun (c2 : ¬ x = u) => ?_) (fun (c2 : x = u) => ?_)
  · refine go_iloadN C X0 8 rfl d8_7 rfl ?_
    refine go_iloadN C X0 9 rfl d8_8 rfl ?_
    refine go_icmp_ne C X0 d8_9 (pc' := 12) (pc2 := 14) rfl (by decide) (by decide) (fun (c9 : ¬ y = u) => ?_) (fun (c9 : y = u) => ?_)
    · refine go_iloadN C X0 15 rfl d8_14 rfl ?_
      refine go_iloadN C X0 16 rfl d8_15 rfl ?_
      refine go_icmp_ne C X0 d8_16 (pc' := 19) (pc2 := 21) rfl (by decide) (by decide) (fun (c16 : ¬ z = u) => ?_) (fun (c16 : z = u) => ?_)
      · refine go_iconst C X0 22 rfl d8_21 (z := (-1)) rfl ?_
        exact go_retI C X0 d8_22 ⟨by unfold own_firstAt; rw [if_neg c2, if_neg c9, if_neg c16], rfl⟩ (by decide) (by decide)
      · refine go_iconst C X0 20 rfl d8_19 (z := 2) rfl ?_
        exact go_retI C X0 d8_20 ⟨by unfold own_firstAt; rw [if_neg c2, if_neg c9, if_pos c16], rfl⟩ (by decide) (by decide)
    · refine go_iconst C X0 13 rfl d8_12 (z := 1) rfl ?_
      exact go_retI C X0 d8_13 ⟨by unfold own_firstAt; rw [if_neg c2, if_pos c9], rfl⟩ (by decide) (by decide)
  · refine go_iconst C X0 6 rfl d8_5 (z := 0) rfl ?_
    exact go_retI C X0 d8_6 ⟨by unfold own_firstAt; rw [if_pos c2], rfl⟩ (by decide) (by decide)
theorem d10_0 : decode method_4_code 0 = .ok (.iload_n 0, 1) := by decide +kernel
theorem d10_1 : decode method_4_code 1 = .ok (.ifCond .ne 19, 3) := by decide +kernel
theorem d10_20 : decode method_4_code 20 = .ok (.iload_n 0, 1) := by decide +kernel
theorem d10_21 : decode method_4_code 21 = .ok (.iconst 1, 1) := by decide +kernel
theorem d10_22 : decode method_4_code 22 = .ok (.if_icmp .ne 12, 3) := by decide +kernel
theorem d10_34 : decode method_4_code 34 = .ok (.iconst (-1), 1) := by decide +kernel
theorem d10_35 : decode method_4_code 35 = .ok (.ireturn, 1) := by decide +kernel
theorem d10_25 : decode method_4_code 25 = .ok (.iload_n 3, 1) := by decide +kernel
theorem d10_26 : decode method_4_code 26 = .ok (.iload_n 2, 1) := by decide +kernel
theorem d10_27 : decode method_4_code 27 = .ok (.if_icmp .ne 5, 3) := by decide +kernel
theorem d10_32 : decode method_4_code 32 = .ok (.iconst (-1), 1) := by decide +kernel
theorem d10_33 : decode method_4_code 33 = .ok (.ireturn, 1) := by decide +kernel
theorem d10_30 : decode method_4_code 30 = .ok (.iconst 2, 1) := by decide +kernel
theorem d10_31 : decode method_4_code 31 = .ok (.ireturn, 1) := by decide +kernel
theorem d10_4 : decode method_4_code 4 = .ok (.iload_n 2, 1) := by decide +kernel
theorem d10_5 : decode method_4_code 5 = .ok (.iload_n 1, 1) := by decide +kernel
theorem d10_6 : decode method_4_code 6 = .ok (.if_icmp .ne 5, 3) := by decide +kernel
theorem d10_11 : decode method_4_code 11 = .ok (.iload_n 3, 1) := by decide +kernel
theorem d10_12 : decode method_4_code 12 = .ok (.iload_n 1, 1) := by decide +kernel
theorem d10_13 : decode method_4_code 13 = .ok (.if_icmp .ne 5, 3) := by decide +kernel
theorem d10_18 : decode method_4_code 18 = .ok (.iconst (-1), 1) := by decide +kernel
theorem d10_19 : decode method_4_code 19 = .ok (.ireturn, 1) := by decide +kernel
theorem d10_16 : decode method_4_code 16 = .ok (.iconst 2, 1) := by decide +kernel
theorem d10_17 : decode method_4_code 17 = .ok (.ireturn, 1) := by decide +kernel
theorem d10_9 : decode method_4_code 9 = .ok (.iconst 1, 1) := by decide +kernel
theorem d10_10 : decode method_4_code 10 = .ok (.ireturn, 1) := by decide +kernel
theorem ef_own_nextOfM (m : MethodId) (r : Int32) (x : Int32) (y : Int32) (z : Int32) : entryFrame m #[(.int r), (.int x), (.int y), (.int z)] 4 = mkF m 0 #[iv r, iv x, iv y, iv z] [] := by first | (simp [entryFrame, mkF, argsToLocals, Value.category]; done) | rfl
set_option maxRecDepth 65536 in
set_option maxHeartbeats 40000000 in
theorem own_nextOfM (l : Launch) (Z : State) (a0 : Array Value) (hw : ∀ d ∈ tables_1, d.before a0 Z = true) (r : Int32) (x : Int32) (y : Int32) (z : Int32)  (h : Heap) (n0 : Nat) (hn0 : Old Z n0 h)  :
    Con l Z (⟨"com/example/waymarshal/waymarshal/replay/VacantVehiclesRemovePinLaw", "nextOf", "(IIII)I"⟩ : MethodName) method_4_code 4 (some .int) ({ frames := 0, cells := 0, slots := 0, locals := 0 } : Room) #[(.int r), (.int x), (.int y), (.int z)] h n0 (fun v h' => v = some (.int (own_nextOf r x y z)) ∧ h = h') := by
  refine con_of hw (plainFor_of_name pn_com_example_waymarshal_waymarshal_replay_VacantVehiclesRemovePinLaw) hn0 ?_
  intro p e s m below meth c T0 C X0
  refine Go.cast (congrArg T0.setTop (ef_own_nextOfM m r x y z)) ?_
  refine go_iloadN C X0 1 rfl d10_0 rfl ?_
  refine go_if_ne C X0 d10_1 (pc' := 4) (pc2 := 20) rfl (by decide) (by decide) (fun (c1 : ¬ r = (0 : Int32)) => ?_) (fun (c1 : r = (0 : Int32)) => ?_)
  · refine go_iloadN C X0 21 rfl d10_20 rfl ?_
    refine go_iconst C X0 22 rfl d10_21 (z := 1) rfl ?_
    refine go_icmp_ne C X0 d10_22 (pc' := 25) (pc2 := 34) rfl (by decide) (by decide) (fun (c22 : ¬ r = (1 : Int32)) => ?_) (fun (c22 : r = (1 : Int32)) => ?_)
    · refine go_iconst C X0 35 rfl d10_34 (z := (-1)) rfl ?_
      exact go_retI C X0 d10_35 ⟨by unfold own_nextOf; rw [if_neg c1, if_neg c22], rfl⟩ (by decide) (by decide)
    · refine go_iloadN C X0 26 rfl d10_25 rfl ?_
      refine go_iloadN C X0 27 rfl d10_26 rfl ?_
      refine go_icmp_ne C X0 d10_27 (pc' := 30) (pc2 := 32) rfl (by decide) (by decide) (fun (c27 : ¬ z = y) => ?_) (fun (c27 : z = y) => ?_)
      · refine go_iconst C X0 33 rfl d10_32 (z := (-1)) rfl ?_
        exact go_retI C X0 d10_33 ⟨by unfold own_nextOf; rw [if_neg c1, if_pos c22, if_neg c27], rfl⟩ (by decide) (by decide)
      · refine go_iconst C X0 31 rfl d10_30 (z := 2) rfl ?_
        exact go_retI C X0 d10_31 ⟨by unfold own_nextOf; rw [if_neg c1, if_pos c22, if_pos c27], rfl⟩ (by decide) (by decide)
  · refine go_iloadN C X0 5 rfl d10_4 rfl ?_
    refine go_iloadN C X0 6 rfl d10_5 rfl ?_
    refine go_icmp_ne C X0 d10_6 (pc' := 9) (pc2 := 11) rfl (by decide) (by decide) (fun (c6 : ¬ y = x) => ?_) (fun (c6 : y = x) => ?_)
    · refine go_iloadN C X0 12 rfl d10_11 rfl ?_
      refine go_iloadN C X0 13 rfl d10_12 rfl ?_
      refine go_icmp_ne C X0 d10_13 (pc' := 16) (pc2 := 18) rfl (by decide) (by decide) (fun (c13 : ¬ z = x) => ?_) (fun (c13 : z = x) => ?_)
      · refine go_iconst C X0 19 rfl d10_18 (z := (-1)) rfl ?_
        exact go_retI C X0 d10_19 ⟨by unfold own_nextOf; rw [if_pos c1, if_neg c6, if_neg c13], rfl⟩ (by decide) (by decide)
      · refine go_iconst C X0 17 rfl d10_16 (z := 2) rfl ?_
        exact go_retI C X0 d10_17 ⟨by unfold own_nextOf; rw [if_pos c1, if_neg c6, if_pos c13], rfl⟩ (by decide) (by decide)
    · refine go_iconst C X0 10 rfl d10_9 (z := 1) rfl ?_
      exact go_retI C X0 d10_10 ⟨by unfold own_nextOf; rw [if_pos c1, if_pos c6], rfl⟩ (by decide) (by decide)
theorem d6_0 : decode prog_68_method_3_code 0 = .ok (.aload_n 0, 1) := by decide +kernel
theorem d6_1 : decode prog_68_method_3_code 1 = .ok (.getfield 7, 3) := by decide +kernel
theorem d6_4 : decode prog_68_method_3_code 4 = .ok (.iload_n 1, 1) := by decide +kernel
theorem d6_5 : decode prog_68_method_3_code 5 = .ok (.iaload, 1) := by decide +kernel
theorem d6_6 : decode prog_68_method_3_code 6 = .ok (.iload_n 2, 1) := by decide +kernel
theorem d6_7 : decode prog_68_method_3_code 7 = .ok (.if_icmp .ne 16, 3) := by decide +kernel
theorem d6_23 : decode prog_68_method_3_code 23 = .ok (.aload_n 0, 1) := by decide +kernel
theorem d6_24 : decode prog_68_method_3_code 24 = .ok (.getfield 7, 3) := by decide +kernel
theorem d6_27 : decode prog_68_method_3_code 27 = .ok (.iload_n 1, 1) := by decide +kernel
theorem d6_28 : decode prog_68_method_3_code 28 = .ok (.iaload, 1) := by decide +kernel
theorem d6_29 : decode prog_68_method_3_code 29 = .ok (.istore_n 3, 1) := by decide +kernel
theorem d6_50 : decode prog_68_method_3_code 50 = .ok (.aload_n 0, 1) := by decide +kernel
theorem d6_51 : decode prog_68_method_3_code 51 = .ok (.getfield 13, 3) := by decide +kernel
theorem d6_54 : decode prog_68_method_3_code 54 = .ok (.iload_n 3, 1) := by decide +kernel
theorem d6_55 : decode prog_68_method_3_code 55 = .ok (.aload_n 0, 1) := by decide +kernel
theorem d6_56 : decode prog_68_method_3_code 56 = .ok (.getfield 13, 3) := by decide +kernel
theorem d6_59 : decode prog_68_method_3_code 59 = .ok (.iload_n 2, 1) := by decide +kernel
theorem d6_60 : decode prog_68_method_3_code 60 = .ok (.iaload, 1) := by decide +kernel
theorem d6_61 : decode prog_68_method_3_code 61 = .ok (.iastore, 1) := by decide +kernel
theorem d6_62 : decode prog_68_method_3_code 62 = .ok (.return_, 1) := by decide +kernel
theorem d6_30 : decode prog_68_method_3_code 30 = .ok (.aload_n 0, 1) := by decide +kernel
theorem d6_31 : decode prog_68_method_3_code 31 = .ok (.getfield 13, 3) := by decide +kernel
theorem d6_34 : decode prog_68_method_3_code 34 = .ok (.iload_n 3, 1) := by decide +kernel
theorem d6_35 : decode prog_68_method_3_code 35 = .ok (.iaload, 1) := by decide +kernel
theorem d6_36 : decode prog_68_method_3_code 36 = .ok (.iload_n 2, 1) := by decide +kernel
theorem d6_37 : decode prog_68_method_3_code 37 = .ok (.if_icmp .eq 13, 3) := by decide +kernel
theorem d6_40 : decode prog_68_method_3_code 40 = .ok (.aload_n 0, 1) := by decide +kernel
theorem d6_41 : decode prog_68_method_3_code 41 = .ok (.getfield 13, 3) := by decide +kernel
theorem d6_44 : decode prog_68_method_3_code 44 = .ok (.iload_n 3, 1) := by decide +kernel
theorem d6_45 : decode prog_68_method_3_code 45 = .ok (.iaload, 1) := by decide +kernel
theorem d6_46 : decode prog_68_method_3_code 46 = .ok (.istore_n 3, 1) := by decide +kernel
theorem d6_47 : decode prog_68_method_3_code 47 = .ok (.goto (-17), 3) := by decide +kernel
theorem d6_10 : decode prog_68_method_3_code 10 = .ok (.aload_n 0, 1) := by decide +kernel
theorem d6_11 : decode prog_68_method_3_code 11 = .ok (.getfield 7, 3) := by decide +kernel
theorem d6_14 : decode prog_68_method_3_code 14 = .ok (.iload_n 1, 1) := by decide +kernel
theorem d6_15 : decode prog_68_method_3_code 15 = .ok (.aload_n 0, 1) := by decide +kernel
theorem d6_16 : decode prog_68_method_3_code 16 = .ok (.getfield 13, 3) := by decide +kernel
theorem d6_19 : decode prog_68_method_3_code 19 = .ok (.iload_n 2, 1) := by decide +kernel
theorem d6_20 : decode prog_68_method_3_code 20 = .ok (.iaload, 1) := by decide +kernel
theorem d6_21 : decode prog_68_method_3_code 21 = .ok (.iastore, 1) := by decide +kernel
theorem d6_22 : decode prog_68_method_3_code 22 = .ok (.return_, 1) := by decide +kernel
theorem ef_own_remove (m : MethodId) (a : Addr) (nd : Int32) (r : Int32) : entryFrame m #[(.ref a), (.int nd), (.int r)] 4 = mkF m 0 #[rv a, iv nd, iv r, un] [] := by first | (simp [entryFrame, mkF, argsToLocals, Value.category]; done) | rfl
set_option maxRecDepth 65536 in
set_option maxHeartbeats 40000000 in
theorem own_remove (l : Launch) (Z : State) (a0 : Array Value) (hw : ∀ d ∈ tables_1, d.before a0 Z = true) (a : Addr) (nd : Int32) (r : Int32) (f n : Addr) (fi nx fi' nx' : List Int32) (h : Heap) (n0 : Nat) (hn0 : Old Z n0 h) (F1 : Fld Z h a "com/example/waymarshal/waymarshal/replay/VacantVehicles" "first" "[I" (.ref f)) (F2 : Fld Z h a "com/example/waymarshal/waymarshal/replay/VacantVehicles" "next" "[I" (.ref n)) (A1 : La Z h f .int (ia fi)) (A2 : La Z h n .int (ia nx)) (nfn : f ≠ n) (naf : a ≠ f) (nan : a ≠ n) (gf : n0 ≤ f) (gn : n0 ≤ n) (nd0 : 0 ≤ nd.toInt) (nd1 : nd.toInt < fi.length) (r0 : 0 ≤ r.toInt) (r1 : r.toInt < nx.length) (H : own_remF fi nx nd r = some (fi', nx')) :
    Con l Z (⟨"com/example/waymarshal/waymarshal/replay/VacantVehicles", "remove", "(II)V"⟩ : MethodName) prog_68_method_3_code 4 none ({ frames := 0, cells := 0, slots := 0, locals := 0 } : Room) #[(.ref a), (.int nd), (.int r)] h n0 (fun v h' => v = none ∧ Keep h h' [f, n] ∧ La Z h' f .int (ia fi') ∧ La Z h' n .int (ia nx')) := by
  refine con_of hw (plainFor_of_name pn_com_example_waymarshal_waymarshal_replay_VacantVehicles) hn0 ?_
  intro p e s m below meth c T0 C X0
  refine Go.cast (congrArg T0.setTop (ef_own_remove m a nd r)) ?_
  refine go_aloadN C X0 1 rfl d6_0 rfl rfl ?_
  refine go_getF C X0 (C.w 15 rfl) Via.refl F1 (pc' := 4) rfl d6_1 (fun T1 X2 => ?_)
  refine go_iloadN C X2 5 rfl d6_4 rfl ?_
  refine go_iaload C X2 A1 nd0 (v := (.int (at32 fi nd))) (ia_at nd0 nd1) (pc' := 6) rfl d6_5 ?_
  refine go_iloadN C X2 7 rfl d6_6 rfl ?_
  refine go_icmp_ne C X2 d6_7 (pc' := 10) (pc2 := 23) rfl (by decide) (by decide) (fun (c7 : ¬ (at32 fi nd) = r) => ?_) (fun (c7 : (at32 fi nd) = r) => ?_)
  · refine go_aloadN C X2 24 rfl d6_23 rfl rfl ?_
    refine go_getF C X2 (C.w 15 rfl) Via.refl F1 (pc' := 27) rfl d6_24 (fun T3 X4 => ?_)
    refine go_iloadN C X4 28 rfl d6_27 rfl ?_
    refine go_iaload C X4 A1 nd0 (v := (.int (at32 fi nd))) (ia_at nd0 nd1) (pc' := 29) rfl d6_28 ?_
    refine go_istoreN C X4 30 rfl d6_29 #[rv a, iv nd, iv r, iv (at32 fi nd)] rfl ?_
    unfold own_remF at H
    rw [if_neg c7] at H
    split at H
    · cases H
    rename_i at' e5
    obtain ⟨e7, e8⟩ := Prod.mk.inj (Option.some.inj H)
    have EX : ∀ (T1 : State) (X1 : St Z p l e ({ frames := 0, cells := 0, slots := 0, locals := 0 } : Room) s m #[(.ref a), (.int nd), (.int r)] below meth c n0 T1 h (0) (0)) (at1 : Int32) (_ : at1 = at' ∧ 0 ≤ at1.toInt ∧ at1.toInt < nx.length), Go p e below (FinQ s ({ frames := 0, cells := 0, slots := 0, locals := 0 } : Room).cells ({ frames := 0, cells := 0, slots := 0, locals := 0 } : Room).slots n0 (fun v h' => v = none ∧ Keep h h' [f, n] ∧ La Z h' f .int (ia fi') ∧ La Z h' n .int (ia nx'))) (T1.setTop (mkF m 50 #[rv a, iv nd, iv r, iv at1] [])) := by
      intro T1 X1 at1 hx
      obtain ⟨rfl, hx0, hx1⟩ := hx
      refine go_aloadN C X1 51 rfl d6_50 rfl rfl ?_
      refine go_getF C X1 (C.w 17 rfl) Via.refl F2 (pc' := 54) rfl d6_51 (fun T5 X6 => ?_)
      refine go_iloadN C X6 55 rfl d6_54 rfl ?_
      refine go_aloadN C X6 56 rfl d6_55 rfl rfl ?_
      refine go_getF C X6 (C.w 17 rfl) Via.refl F2 (pc' := 59) rfl d6_56 (fun T7 X8 => ?_)
      refine go_iloadN C X8 60 rfl d6_59 rfl ?_
      refine go_iaload C X8 A2 r0 (v := (.int (at32 nx r))) (ia_at r0 r1) (pc' := 61) rfl d6_60 ?_
      refine go_iastore C X8 A2 hx0 (by rw [ia_len]; exact hx1) gn (pc' := 62) rfl d6_61 (fun T9 h11 W12 A13 X10 => ?_)
      have F14 := F1.other W12 (Or.inl nan)
      have F15 := F2.other W12 (Or.inl nan)
      have A16 := A1.other W12 nfn
      have K17 := (Keep.refl h [f, n]).wr W12 (Or.inl (List.mem_of_getElem? (i := 1) rfl))
      rw [ia_put] at A13
      exact go_ret0 C X10 d6_62 (by subst e7; subst e8; exact ⟨rfl, K17, A16, A13⟩) (by decide) (by decide)
    have LP : ∀ (fu : Nat) (T1 : State) (X1 : St Z p l e ({ frames := 0, cells := 0, slots := 0, locals := 0 } : Room) s m #[(.ref a), (.int nd), (.int r)] below meth c n0 T1 h (0) (0)) (at1 : Int32) (_ : own_find nx r fu at1 = some at'), Go p e below (FinQ s ({ frames := 0, cells := 0, slots := 0, locals := 0 } : Room).cells ({ frames := 0, cells := 0, slots := 0, locals := 0 } : Room).slots n0 (fun v h' => v = none ∧ Keep h h' [f, n] ∧ La Z h' f .int (ia fi') ∧ La Z h' n .int (ia nx'))) (T1.setTop (mkF m 30 #[rv a, iv nd, iv r, iv at1] [])) := by
      intro fu
      induction fu with
      | zero => intro T1 X1 at1 H1; cases H1
      | succ fu ih =>
        intro T1 X1 at1 H1
        rw [own_find] at H1
        split at H1
        case isFalse => cases H1
        rename_i qb
        refine go_aloadN C X1 31 rfl d6_30 rfl rfl ?_
        refine go_getF C X1 (C.w 17 rfl) Via.refl F2 (pc' := 34) rfl d6_31 (fun T18 X19 => ?_)
        refine go_iloadN C X19 35 rfl d6_34 rfl ?_
        refine go_iaload C X19 A2 qb.1 (v := (.int (at32 nx at1))) (ia_at qb.1 qb.2) (pc' := 36) rfl d6_35 ?_
        refine go_iloadN C X19 37 rfl d6_36 rfl ?_
        refine go_icmp_eq C X19 d6_37 (pc' := 40) (pc2 := 50) rfl (by decide) (by decide) (fun (c37 : (at32 nx at1) = r) => ?_) (fun (c37 : ¬ (at32 nx at1) = r) => ?_)
        · rw [if_pos c37] at H1
          exact EX _ X19 _ ⟨Option.some.inj H1, qb.1, qb.2⟩
        · refine go_aloadN C X19 41 rfl d6_40 rfl rfl ?_
          refine go_getF C X19 (C.w 17 rfl) Via.refl F2 (pc' := 44) rfl d6_41 (fun T20 X21 => ?_)
          refine go_iloadN C X21 45 rfl d6_44 rfl ?_
          refine go_iaload C X21 A2 qb.1 (v := (.int (at32 nx at1))) (ia_at qb.1 qb.2) (pc' := 46) rfl d6_45 ?_
          refine go_istoreN C X21 47 rfl d6_46 #[rv a, iv nd, iv r, iv (at32 nx at1)] rfl ?_
          refine go_goto C X21 d6_47 (pc' := 30) (by decide) (by decide) ?_
          rw [if_neg c37] at H1
          exact ih _ X21 _ H1
    exact LP 5 _ X4 _ e5
  · refine go_aloadN C X2 11 rfl d6_10 rfl rfl ?_
    refine go_getF C X2 (C.w 15 rfl) Via.refl F1 (pc' := 14) rfl d6_11 (fun T22 X23 => ?_)
    refine go_iloadN C X23 15 rfl d6_14 rfl ?_
    refine go_aloadN C X23 16 rfl d6_15 rfl rfl ?_
    refine go_getF C X23 (C.w 17 rfl) Via.refl F2 (pc' := 19) rfl d6_16 (fun T24 X25 => ?_)
    refine go_iloadN C X25 20 rfl d6_19 rfl ?_
    refine go_iaload C X25 A2 r0 (v := (.int (at32 nx r))) (ia_at r0 r1) (pc' := 21) rfl d6_20 ?_
    refine go_iastore C X25 A1 nd0 (by rw [ia_len]; exact nd1) gf (pc' := 22) rfl d6_21 (fun T26 h28 W29 A30 X27 => ?_)
    have F31 := F1.other W29 (Or.inl naf)
    have F32 := F2.other W29 (Or.inl naf)
    have A33 := A2.other W29 (Ne.symm nfn)
    have K34 := (Keep.refl h [f, n]).wr W29 (Or.inl (List.mem_of_getElem? (i := 0) rfl))
    rw [ia_put] at A30
    exact go_ret0 C X27 d6_22 (by unfold own_remF at H; rw [if_pos c7] at H; obtain ⟨e7, e8⟩ := Prod.mk.inj (Option.some.inj H); subst e7; subst e8; exact ⟨rfl, K34, A30, A33⟩) (by decide) (by decide)
def own_add0 (st : List Int32 × List Int32) (l r : Int32) : Option (List Int32 × List Int32) := if l.toInt < 0 then some st else own_addF st.1 st.2 l r
def own_stp (st : List Int32 × List Int32) (l r : Int32) (k : List Int32 × List Int32 → Bool) : Bool := match own_add0 st l r with | none => false | some t => decide (t.1.length = 2) && decide (t.2.length = 3) && k t
def own_fin (m0 m1 m2 : Int32) (t : List Int32 × List Int32) : Bool := decide (at32 t.1 0 = own_firstAt m0 m1 m2 0) && decide (at32 t.1 1 = own_firstAt m0 m1 m2 1) && (decide (m0.toInt < 0) || decide (at32 t.2 0 = own_nextOf 0 m0 m1 m2)) && (decide (m1.toInt < 0) || decide (at32 t.2 1 = own_nextOf 1 m0 m1 m2)) && (decide (m2.toInt < 0) || decide (at32 t.2 2 = own_nextOf 2 m0 m1 m2))
def own_rem (l0 l1 l2 tg : Int32) (t : List Int32 × List Int32) : Bool := match own_remF t.1 t.2 (if tg = 0 then l0 else if tg = 1 then l1 else l2) tg with | none => false | some u => decide (u.1.length = 2) && decide (u.2.length = 3) && own_fin (if tg = 0 then -1 else l0) (if tg = 1 then -1 else l1) (if tg = 2 then -1 else l2) u
def own_s0 : List Int32 × List Int32 := ([-1, -1], [0, 0, 0])
def own_chk (l0 l1 l2 tg : Int32) : Bool := (own_stp own_s0 l0 0 fun t => own_stp t l1 1 fun t => own_stp t l2 2 (own_rem l0 l1 l2 tg)) && (own_stp own_s0 l2 2 fun t => own_stp t l1 1 fun t => own_stp t l0 0 (own_rem l0 l1 l2 tg))
theorem own_stp_e {st : List Int32 × List Int32} {l r : Int32} {k : List Int32 × List Int32 → Bool} (h : own_stp st l r k = true) : ∃ f n, own_add0 st l r = some (f, n) ∧ (f.length = 2 ∧ n.length = 3) ∧ k (f, n) = true := by
  unfold own_stp at h
  cases e : own_add0 st l r with
  | none => rw [e] at h; cases h
  | some t =>
    rw [e] at h
    simp only [Bool.and_eq_true, decide_eq_true_eq] at h
    exact ⟨t.1, t.2, rfl, h.1, h.2⟩
theorem own_rem_e {l0 l1 l2 tg : Int32} {fi nx : List Int32} (h : own_rem l0 l1 l2 tg (fi, nx) = true) : ∃ f n, own_remF fi nx (if tg = 0 then l0 else if tg = 1 then l1 else l2) tg = some (f, n) ∧ (f.length = 2 ∧ n.length = 3) ∧ own_fin (if tg = 0 then -1 else l0) (if tg = 1 then -1 else l1) (if tg = 2 then -1 else l2) (f, n) = true := by
  unfold own_rem at h
  cases e : own_remF fi nx (if tg = 0 then l0 else if tg = 1 then l1 else l2) tg with
  | none => rw [show (fi, nx).1 = fi from rfl, show (fi, nx).2 = nx from rfl, e] at h; cases h
  | some t =>
    rw [show (fi, nx).1 = fi from rfl, show (fi, nx).2 = nx from rfl, e] at h
    simp only [Bool.and_eq_true, decide_eq_true_eq] at h
    exact ⟨t.1, t.2, rfl, h.1, h.2⟩
set_option maxRecDepth 100000 in
theorem own_all : ([-1, 0, 1].all fun l0 => [-1, 0, 1].all fun l1 => [-1, 0, 1].all fun l2 => [0, 1, 2].all fun tg => decide ((if tg = 0 then l0 else if tg = 1 then l1 else l2 : Int32).toInt < 0) || own_chk l0 l1 l2 tg) = true := by decide +kernel
theorem own_mem3 {x : Int32} (h : x = -1 ∨ x = 0 ∨ x = 1) : x ∈ ([-1, 0, 1] : List Int32) := by rcases h with rfl | rfl | rfl <;> simp
theorem own_fn {l0 l1 l2 tg tl : Int32} (p0 : l0 = -1 ∨ l0 = 0 ∨ l0 = 1) (p1 : l1 = -1 ∨ l1 = 0 ∨ l1 = 1) (p2 : l2 = -1 ∨ l2 = 0 ∨ l2 = 1) (pt : tg = 0 ∨ tg = 1 ∨ tg = 2) (e : tl = if tg = 0 then l0 else if tg = 1 then l1 else l2) (q : 0 ≤ tl.toInt) : own_chk l0 l1 l2 tg = true := by
  have h := own_all
  simp only [List.all_eq_true] at h
  have := h l0 (own_mem3 p0) l1 (own_mem3 p1) l2 (own_mem3 p2) tg (by rcases pt with rfl | rfl | rfl <;> simp)
  rw [Bool.or_eq_true, decide_eq_true_eq, ← e] at this
  exact this.resolve_left (by omega)
theorem own_tg (x : Int32) : (x &&& 2147483647) % 3 = 0 ∨ (x &&& 2147483647) % 3 = 1 ∨ (x &&& 2147483647) % 3 = 2 := by
  have := i_rem (b := 3) (y := 3) (c_mask x 2147483647 31 (by decide) (by decide)) rfl (by omega)
  generalize (x &&& 2147483647) % 3 = z at *
  rcases (by omega : z.toInt = 0 ∨ z.toInt = 1 ∨ z.toInt = 2) with q | q | q
  · exact Or.inl (i_eq q)
  · exact Or.inr (Or.inl (i_eq q))
  · exact Or.inr (Or.inr (i_eq q))
theorem own_nd (x : Int32) : (x &&& 1) = 0 ∨ (x &&& 1) = 1 := by
  have := c_mask x 1 1 (by decide) (by decide)
  rcases (by omega : (x &&& 1).toInt = 0 ∨ (x &&& 1).toInt = 1) with q | q
  · exact Or.inl (i_eq q)
  · exact Or.inr (i_eq q)
theorem own_pm {x : Int32} (p : x = -1 ∨ x = 0 ∨ x = 1) : ¬ x.toInt < 0 → 0 ≤ x.toInt ∧ x.toInt < 2 := by rcases p with rfl | rfl | rfl <;> decide
theorem pd_1 : parseMethodDescriptor "(II)I" = some ⟨[.int, .int], some .int⟩ := by decide +kernel
theorem pd_2 : parseMethodDescriptor "(II)V" = some ⟨[.int, .int], none⟩ := by decide +kernel
theorem pd_3 : parseMethodDescriptor "(I)I" = some ⟨[.int], some .int⟩ := by decide +kernel
theorem pd_4 : parseMethodDescriptor "(IIII)I" = some ⟨[.int, .int, .int, .int], some .int⟩ := by decide +kernel
theorem ef_own_law (m : MethodId) (a : Int32) (b : Int32) (sd : Int32) (od : Int32) : entryFrame m #[(.int a), (.int b), (.int sd), (.int od)] maxLocals = mkF m 0 #[iv a, iv b, iv sd, iv od, un, un, un, un, un, un, un, un, un, un, un] [] := by first | (simp [entryFrame, mkF, argsToLocals, Value.category, maxLocals]; done) | rfl
set_option maxRecDepth 65536 in
set_option maxHeartbeats 40000000 in
theorem own_law (l : Launch) (Z : State) (a0 : Array Value) (hw : ∀ d ∈ tables_1, d.before a0 Z = true) (a : Int32) (b : Int32) (sd : Int32) (od : Int32)  (h : Heap) (n0 : Nat) (hn0 : Old Z n0 h)  :
    Con l Z x code maxLocals ret room_1 #[(.int a), (.int b), (.int sd), (.int od)] h n0 (fun v h' => v = some (.int 1)) := by
  refine con_of hw (plainFor_of_name pn_com_example_waymarshal_waymarshal_replay_VacantVehiclesRemovePinLaw) hn0 ?_
  intro p e s m below meth c T0 C X0
  refine Go.cast (congrArg T0.setTop (ef_own_law m a b sd od)) ?_
  refine go_iloadN C X0 1 rfl at_0 rfl ?_
  refine go_iconst C X0 2 rfl at_1 (z := 0) rfl ?_
  refine go_callS C X0 (C.w 0 rfl) (C.w 1 rfl) (C.w 2 rfl) (C.w 3 rfl) (own_placeM l Z a0 C.ws a (0 : Int32) h n0 X0.old ) (argsL := [(.int a), (.int (0 : Int32))]) (rest := []) (lenOf pd_1 rfl) rfl (by decide) (by decide) (Nat.le_of_ble_eq_true rfl) (by decide) (by decide) rfl rfl (pc' := 5) rfl at_2 ?_
  rintro T1 _ _ ⟨rfl, rfl⟩ X2
  show Go p e below _ (T1.setTop (mkF m 5 #[iv a, iv b, iv sd, iv od, un, un, un, un, un, un, un, un, un, un, un] [(.int (own_place a (0 : Int32)))]))
  refine go_istore C X2 7 rfl at_5 #[iv a, iv b, iv sd, iv od, iv (own_place a (0 : Int32)), un, un, un, un, un, un, un, un, un, un] rfl ?_
  refine go_iloadN C X2 8 rfl at_7 rfl ?_
  refine go_iconst C X2 9 rfl at_8 (z := 1) rfl ?_
  refine go_callS C X2 (C.w 0 rfl) (C.w 1 rfl) (C.w 2 rfl) (C.w 3 rfl) (own_placeM l Z a0 C.ws a (1 : Int32) h n0 X2.old ) (argsL := [(.int a), (.int (1 : Int32))]) (rest := []) (lenOf pd_1 rfl) rfl (by decide) (by decide) (Nat.le_of_ble_eq_true rfl) (by decide) (by decide) rfl rfl (pc' := 12) rfl at_9 ?_
  rintro T4 _ _ ⟨rfl, rfl⟩ X5
  show Go p e below _ (T4.setTop (mkF m 12 #[iv a, iv b, iv sd, iv od, iv (own_place a (0 : Int32)), un, un, un, un, un, un, un, un, un, un] [(.int (own_place a (1 : Int32)))]))
  refine go_istore C X5 14 rfl at_12 #[iv a, iv b, iv sd, iv od, iv (own_place a (0 : Int32)), iv (own_place a (1 : Int32)), un, un, un, un, un, un, un, un, un] rfl ?_
  refine go_iloadN C X5 15 rfl at_14 rfl ?_
  refine go_iconst C X5 16 rfl at_15 (z := 2) rfl ?_
  refine go_callS C X5 (C.w 0 rfl) (C.w 1 rfl) (C.w 2 rfl) (C.w 3 rfl) (own_placeM l Z a0 C.ws a (2 : Int32) h n0 X5.old ) (argsL := [(.int a), (.int (2 : Int32))]) (rest := []) (lenOf pd_1 rfl) rfl (by decide) (by decide) (Nat.le_of_ble_eq_true rfl) (by decide) (by decide) rfl rfl (pc' := 19) rfl at_16 ?_
  rintro T7 _ _ ⟨rfl, rfl⟩ X8
  show Go p e below _ (T7.setTop (mkF m 19 #[iv a, iv b, iv sd, iv od, iv (own_place a (0 : Int32)), iv (own_place a (1 : Int32)), un, un, un, un, un, un, un, un, un] [(.int (own_place a (2 : Int32)))]))
  refine go_istore C X8 21 rfl at_19 #[iv a, iv b, iv sd, iv od, iv (own_place a (0 : Int32)), iv (own_place a (1 : Int32)), iv (own_place a (2 : Int32)), un, un, un, un, un, un, un, un] rfl ?_
  refine go_iloadN C X8 22 rfl at_21 rfl ?_
  refine go_ldcInt C X8 (C.w 4 rfl) (pc' := 24) rfl at_22 ?_
  refine go_iand C X8 25 rfl at_24 ?_
  refine go_iconst C X8 26 rfl at_25 (z := 3) rfl ?_
  refine go_irem C X8 27 rfl at_26 (by decide) ?_
  refine go_istore C X8 29 rfl at_27 #[iv a, iv b, iv sd, iv od, iv (own_place a (0 : Int32)), iv (own_place a (1 : Int32)), iv (own_place a (2 : Int32)), iv ((b &&& (2147483647 : Int32)) % (3 : Int32)), un, un, un, un, un, un, un] rfl ?_
  refine go_iloadN C X8 30 rfl at_29 rfl ?_
  refine go_iconst C X8 31 rfl at_30 (z := 1) rfl ?_
  refine go_iand C X8 32 rfl at_31 ?_
  refine go_istore C X8 34 rfl at_32 #[iv a, iv b, iv sd, iv od, iv (own_place a (0 : Int32)), iv (own_place a (1 : Int32)), iv (own_place a (2 : Int32)), iv ((b &&& (2147483647 : Int32)) % (3 : Int32)), iv (sd &&& (1 : Int32)), un, un, un, un, un, un] rfl ?_
  have p0 := own_place_r a 0
  generalize el0 : (own_place a (0 : Int32)) = l0
  rw [el0] at p0
  have p1 := own_place_r a 1
  generalize el1 : (own_place a (1 : Int32)) = l1
  rw [el1] at p1
  have p2 := own_place_r a 2
  generalize el2 : (own_place a (2 : Int32)) = l2
  rw [el2] at p2
  have ptg := own_tg b
  generalize etg : ((b &&& (2147483647 : Int32)) % (3 : Int32)) = tg
  rw [etg] at ptg
  have pnd := own_nd sd
  generalize end1 : (sd &&& (1 : Int32)) = nd
  rw [end1] at pnd
  have J10 : ∀ (l0 : Int32) (l1 : Int32) (l2 : Int32) (tl : Int32) (_ : (l0 = -1 ∨ l0 = 0 ∨ l0 = 1) ∧ (l1 = -1 ∨ l1 = 0 ∨ l1 = 1) ∧ (l2 = -1 ∨ l2 = 0 ∨ l2 = 1) ∧ tl = (if tg = 0 then l0 else if tg = 1 then l1 else l2) ∧ 0 ≤ tl.toInt), Go p e below (FinQ s room_1.cells room_1.slots n0 (fun v h' => v = some (.int 1))) (T7.setTop (mkF m 97 #[iv a, iv b, iv sd, iv od, iv l0, iv l1, iv l2, iv tg, iv nd, iv tl, un, un, un, un, un] [])) := by
    intro l0 l1 l2 tl hJ
    obtain ⟨p0, p1, p2, etl, q9⟩ := hJ
    have HC := own_fn p0 p1 p2 ptg etl q9
    unfold own_chk at HC
    rw [Bool.and_eq_true] at HC
    obtain ⟨HA, HB⟩ := HC
    obtain ⟨fA0, nA0, HA0, lA0, HA⟩ := own_stp_e HA
    obtain ⟨fA1, nA1, HA1, lA1, HA⟩ := own_stp_e HA
    obtain ⟨fA2, nA2, HA2, lA2, HA⟩ := own_stp_e HA
    obtain ⟨fB0, nB0, HB0, lB0, HB⟩ := own_stp_e HB
    obtain ⟨fB1, nB1, HB1, lB1, HB⟩ := own_stp_e HB
    obtain ⟨fB2, nB2, HB2, lB2, HB⟩ := own_stp_e HB
    have lz : own_s0.1.length = 2 ∧ own_s0.2.length = 3 := by decide
    refine go_new C X8 (C.w 5 rfl) (C.w 6 rfl) (C.w 7 rfl) (by decide) (by decide) (pc' := 100) rfl at_97 (fun T11 h13 vv ha_vv ga_vv E14 E15 D16 X12 => ?_)
    have F17 : Fld Z h13 vv "com/example/waymarshal/waymarshal/replay/VacantVehicles" "first" "[I" .null := D16 (Or.inr (C.w 16 rfl)) (ty := (.array .int)) (by decide)
    have F18 : Fld Z h13 vv "com/example/waymarshal/waymarshal/replay/VacantVehicles" "next" "[I" .null := D16 (Or.inr (C.w 18 rfl)) (ty := (.array .int)) (by decide)
    refine go_dup C X12 101 rfl at_100 rfl ?_
    refine go_iconst C X12 102 rfl at_101 (z := 2) rfl ?_
    refine go_iconst C X12 103 rfl at_102 (z := 3) rfl ?_
    have hsz_103 := X12.sz
    have lt_vv_103 := E15.lt
    refine go_special C X12 (C.w 8 rfl) (C.w 9 rfl) (C.w 7 rfl) (C.w 10 rfl) rfl (own_init l Z a0 C.ws vv h13 n0 X12.old E15 F17 F18 ga_vv) (argsL := [(.int (2 : Int32)), (.int (3 : Int32))]) (rest := [(.ref vv)]) (lenOf pd_2 rfl) rfl (by decide) (by decide) (Nat.le_of_ble_eq_true rfl) (by decide) (by decide) rfl rfl (pc' := 106) rfl at_103 ?_
    rintro T19 h21 _ ⟨rfl, f, n, K9, E9, F8, F9, A8, A9, sz9f, sz9n, ne_f_n⟩ X20
    show Go p e below _ (T19.setTop (mkF m 106 #[iv a, iv b, iv sd, iv od, iv l0, iv l1, iv l2, iv tg, iv nd, iv tl, un, un, un, un, un] [(.ref vv)]))
    have ne_vv_f : vv ≠ f := Nat.ne_of_lt (Nat.lt_of_lt_of_le lt_vv_103 sz9f)
    have ga_f : n0 ≤ f := Nat.le_trans hsz_103 sz9f
    have ne_vv_n : vv ≠ n := Nat.ne_of_lt (Nat.lt_of_lt_of_le lt_vv_103 sz9n)
    have ga_n : n0 ≤ n := Nat.le_trans hsz_103 sz9n
    have E22 := E15.keep K9
    refine go_astore C X20 108 rfl at_106 rfl #[iv a, iv b, iv sd, iv od, iv l0, iv l1, iv l2, iv tg, iv nd, iv tl, rv vv, un, un, un, un] rfl ?_
    replace A8 : La Z h21 f .int (ia own_s0.1) := A8
    replace A9 : La Z h21 n .int (ia own_s0.2) := A9
    have J23 : ∀  (T24 : State) (h26 : Heap) (X25 : St Z p l e room_1 s m #[(.int a), (.int b), (.int sd), (.int od)] below meth c n0 T24 h26 (0 + 1 + 2) (0 + 2 + 5)) (f3 n3 : List Int32) (hlen : f3.length = 2 ∧ n3.length = 3) (HF : own_rem l0 l1 l2 tg (f3, n3) = true) (E27 : Exa Z h26 vv "com/example/waymarshal/waymarshal/replay/VacantVehicles") (F28 : Fld Z h26 vv "com/example/waymarshal/waymarshal/replay/VacantVehicles" "first" "[I" (.ref f)) (F29 : Fld Z h26 vv "com/example/waymarshal/waymarshal/replay/VacantVehicles" "next" "[I" (.ref n)) (A30 : La Z h26 f .int (ia f3)) (A31 : La Z h26 n .int (ia n3)), Go p e below (FinQ s room_1.cells room_1.slots n0 (fun v h' => v = some (.int 1))) (T24.setTop (mkF m 195 #[iv a, iv b, iv sd, iv od, iv l0, iv l1, iv l2, iv tg, iv nd, iv tl, rv vv, un, un, un, un] [])) := by
      intro  T24 h26 X25 f3 n3 hlen HF E27 F28 F29 A30 A31
      obtain ⟨fr, nr, HR, lr, HF⟩ := own_rem_e HF
      simp only [own_fin, Bool.and_eq_true, Bool.or_eq_true, decide_eq_true_eq] at HF
      obtain ⟨⟨⟨⟨V0, V1⟩, V2⟩, V3⟩, V4⟩ := HF
      have htl : 0 ≤ tl.toInt ∧ tl.toInt < (2 : Nat) := by
        have q : tl = -1 ∨ tl = 0 ∨ tl = 1 := by
          rw [etl]
          split
          · exact p0
          · split
            · exact p1
            · exact p2
        have := own_pm q (by omega); omega
      rw [← etl] at HR
      clear HA HB
      rcases ptg with rfl | rfl | rfl
      · have e1 : ((0 : Int32) = 0) = True := (by decide); have e2 : ((0 : Int32) = 1) = False := (by decide); have e3 : ((0 : Int32) = 2) = False := (by decide); simp only [e1, e2, e3, if_true, if_false] at V0 V1 V2 V3 V4
        refine go_aload C X25 197 rfl at_195 rfl rfl ?_
        refine go_iload C X25 199 rfl at_197 rfl ?_
        refine go_iload C X25 201 rfl at_199 rfl ?_
        refine go_virtual C X25 E27 (C.w 28 rfl) (C.w 29 rfl) (notFace_of_selects (args := #[]) (mvT C.hZ (C.w 31 rfl))) (C.w 31 rfl) (C.w 30 rfl) (C.w 7 rfl) (C.w 32 rfl) (own_remove l Z a0 C.ws vv tl (0 : Int32) f n f3 n3 fr nr h26 n0 X25.old F28 F29 A30 A31 ne_f_n ne_vv_f ne_vv_n ga_f ga_n htl.1 (by rw [hlen.1]; exact htl.2) (by decide) (by rw [hlen.2]; decide) HR) (argsL := [(.int tl), (.int (0 : Int32))]) (rest := []) (lenOf pd_2 rfl) rfl (by decide) (by decide) (Nat.le_of_ble_eq_true rfl) (by decide) (by decide) rfl rfl (pc' := 204) rfl at_201 ?_
        rintro T32 h34 _ ⟨rfl, K9, B9, A9⟩ X33
        show Go p e below _ (T32.setTop (mkF m 204 #[iv a, iv b, iv sd, iv od, iv l0, iv l1, iv l2, iv (0 : Int32), iv nd, iv tl, rv vv, un, un, un, un] []))
        have E35 := E27.keep K9
        have F36 := F28.keep K9 (ninS ne_vv_f (ninS ne_vv_n nin0))
        have F37 := F29.keep K9 (ninS ne_vv_f (ninS ne_vv_n nin0))
        refine go_iload C X33 206 rfl at_204 rfl ?_
        refine go_if_ne C X33 at_206 (pc' := 209) (pc2 := 213) rfl (by decide) (by decide) (fun (c206 : ¬ (0 : Int32) = (0 : Int32)) => False.elim (by first | omega | exact absurd c206 (by decide))) (fun (c206 : (0 : Int32) = (0 : Int32)) => ?_)
        refine go_iconst C X33 210 rfl at_209 (z := (-1)) rfl ?_
        refine go_goto C X33 at_210 (pc' := 215) (by decide) (by decide) ?_
        refine go_istore C X33 217 rfl at_215 #[iv a, iv b, iv sd, iv od, iv l0, iv l1, iv l2, iv (0 : Int32), iv nd, iv tl, rv vv, iv (-1 : Int32), un, un, un] rfl ?_
        refine go_iload C X33 219 rfl at_217 rfl ?_
        refine go_iconst C X33 220 rfl at_219 (z := 1) rfl ?_
        refine go_icmp_ne C X33 at_220 (pc' := 223) (pc2 := 227) rfl (by decide) (by decide) (fun (c220 : ¬ (0 : Int32) = (1 : Int32)) => ?_) (fun (c220 : (0 : Int32) = (1 : Int32)) => False.elim (by first | omega | exact absurd c220 (by decide)))
        refine go_iload C X33 229 rfl at_227 rfl ?_
        refine go_istore C X33 231 rfl at_229 #[iv a, iv b, iv sd, iv od, iv l0, iv l1, iv l2, iv (0 : Int32), iv nd, iv tl, rv vv, iv (-1 : Int32), iv l1, un, un] rfl ?_
        refine go_iload C X33 233 rfl at_231 rfl ?_
        refine go_iconst C X33 234 rfl at_233 (z := 2) rfl ?_
        refine go_icmp_ne C X33 at_234 (pc' := 237) (pc2 := 241) rfl (by decide) (by decide) (fun (c234 : ¬ (0 : Int32) = (2 : Int32)) => ?_) (fun (c234 : (0 : Int32) = (2 : Int32)) => False.elim (by first | omega | exact absurd c234 (by decide)))
        refine go_iload C X33 243 rfl at_241 rfl ?_
        refine go_istore C X33 245 rfl at_243 #[iv a, iv b, iv sd, iv od, iv l0, iv l1, iv l2, iv (0 : Int32), iv nd, iv tl, rv vv, iv (-1 : Int32), iv l1, iv l2, un] rfl ?_
        refine go_aload C X33 247 rfl at_245 rfl rfl ?_
        refine go_iconst C X33 248 rfl at_247 (z := 0) rfl ?_
        refine go_virtual C X33 E35 (C.w 33 rfl) (C.w 34 rfl) (notFace_of_selects (args := #[]) (mvT C.hZ (C.w 36 rfl))) (C.w 36 rfl) (C.w 35 rfl) (C.w 7 rfl) (C.w 37 rfl) (own_first l Z a0 C.ws vv (0 : Int32) f fr h34 n0 X33.old F36 B9 (by decide) (by rw [lr.1]; decide)) (argsL := [(.int (0 : Int32))]) (rest := []) (lenOf pd_3 rfl) rfl (by decide) (by decide) (Nat.le_of_ble_eq_true rfl) (by decide) (by decide) rfl rfl (pc' := 251) rfl at_248 ?_
        rintro T38 _ _ ⟨rfl, rfl⟩ X39
        show Go p e below _ (T38.setTop (mkF m 251 #[iv a, iv b, iv sd, iv od, iv l0, iv l1, iv l2, iv (0 : Int32), iv nd, iv tl, rv vv, iv (-1 : Int32), iv l1, iv l2, un] [(.int (at32 fr (0 : Int32)))]))
        refine go_iload C X39 253 rfl at_251 rfl ?_
        refine go_iload C X39 255 rfl at_253 rfl ?_
        refine go_iload C X39 257 rfl at_255 rfl ?_
        refine go_iconst C X39 258 rfl at_257 (z := 0) rfl ?_
        refine go_callS C X39 (C.w 38 rfl) (C.w 39 rfl) (C.w 2 rfl) (C.w 40 rfl) (own_firstAtM l Z a0 C.ws (-1 : Int32) l1 l2 (0 : Int32) h34 n0 X39.old ) (argsL := [(.int (-1 : Int32)), (.int l1), (.int l2), (.int (0 : Int32))]) (rest := [(.int (at32 fr (0 : Int32)))]) (lenOf pd_4 rfl) rfl (by decide) (by decide) (Nat.le_of_ble_eq_true rfl) (by decide) (by decide) rfl rfl (pc' := 261) rfl at_258 ?_
        rintro T41 _ _ ⟨rfl, rfl⟩ X42
        show Go p e below _ (T41.setTop (mkF m 261 #[iv a, iv b, iv sd, iv od, iv l0, iv l1, iv l2, iv (0 : Int32), iv nd, iv tl, rv vv, iv (-1 : Int32), iv l1, iv l2, un] [(.int (own_firstAt (-1 : Int32) l1 l2 (0 : Int32))), (.int (at32 fr (0 : Int32)))]))
        refine go_icmp_ne C X42 at_261 (pc' := 264) (pc2 := 287) rfl (by decide) (by decide) (fun (c261 : ¬ (at32 fr (0 : Int32)) = (own_firstAt (-1 : Int32) l1 l2 (0 : Int32))) => False.elim (c261 V0)) (fun (c261 : (at32 fr (0 : Int32)) = (own_firstAt (-1 : Int32) l1 l2 (0 : Int32))) => ?_)
        refine go_aload C X42 266 rfl at_264 rfl rfl ?_
        refine go_iconst C X42 267 rfl at_266 (z := 1) rfl ?_
        refine go_virtual C X42 E35 (C.w 33 rfl) (C.w 34 rfl) (notFace_of_selects (args := #[]) (mvT C.hZ (C.w 36 rfl))) (C.w 36 rfl) (C.w 35 rfl) (C.w 7 rfl) (C.w 37 rfl) (own_first l Z a0 C.ws vv (1 : Int32) f fr h34 n0 X42.old F36 B9 (by decide) (by rw [lr.1]; decide)) (argsL := [(.int (1 : Int32))]) (rest := []) (lenOf pd_3 rfl) rfl (by decide) (by decide) (Nat.le_of_ble_eq_true rfl) (by decide) (by decide) rfl rfl (pc' := 270) rfl at_267 ?_
        rintro T44 _ _ ⟨rfl, rfl⟩ X45
        show Go p e below _ (T44.setTop (mkF m 270 #[iv a, iv b, iv sd, iv od, iv l0, iv l1, iv l2, iv (0 : Int32), iv nd, iv tl, rv vv, iv (-1 : Int32), iv l1, iv l2, un] [(.int (at32 fr (1 : Int32)))]))
        refine go_iload C X45 272 rfl at_270 rfl ?_
        refine go_iload C X45 274 rfl at_272 rfl ?_
        refine go_iload C X45 276 rfl at_274 rfl ?_
        refine go_iconst C X45 277 rfl at_276 (z := 1) rfl ?_
        refine go_callS C X45 (C.w 38 rfl) (C.w 39 rfl) (C.w 2 rfl) (C.w 40 rfl) (own_firstAtM l Z a0 C.ws (-1 : Int32) l1 l2 (1 : Int32) h34 n0 X45.old ) (argsL := [(.int (-1 : Int32)), (.int l1), (.int l2), (.int (1 : Int32))]) (rest := [(.int (at32 fr (1 : Int32)))]) (lenOf pd_4 rfl) rfl (by decide) (by decide) (Nat.le_of_ble_eq_true rfl) (by decide) (by decide) rfl rfl (pc' := 280) rfl at_277 ?_
        rintro T47 _ _ ⟨rfl, rfl⟩ X48
        show Go p e below _ (T47.setTop (mkF m 280 #[iv a, iv b, iv sd, iv od, iv l0, iv l1, iv l2, iv (0 : Int32), iv nd, iv tl, rv vv, iv (-1 : Int32), iv l1, iv l2, un] [(.int (own_firstAt (-1 : Int32) l1 l2 (1 : Int32))), (.int (at32 fr (1 : Int32)))]))
        refine go_icmp_ne C X48 at_280 (pc' := 283) (pc2 := 287) rfl (by decide) (by decide) (fun (c280 : ¬ (at32 fr (1 : Int32)) = (own_firstAt (-1 : Int32) l1 l2 (1 : Int32))) => False.elim (c280 V1)) (fun (c280 : (at32 fr (1 : Int32)) = (own_firstAt (-1 : Int32) l1 l2 (1 : Int32))) => ?_)
        refine go_iconst C X48 284 rfl at_283 (z := 1) rfl ?_
        refine go_goto C X48 at_284 (pc' := 288) (by decide) (by decide) ?_
        refine go_istore C X48 290 rfl at_288 #[iv a, iv b, iv sd, iv od, iv l0, iv l1, iv l2, iv (0 : Int32), iv nd, iv tl, rv vv, iv (-1 : Int32), iv l1, iv l2, iv (1 : Int32)] rfl ?_
        refine go_iload C X48 292 rfl at_290 rfl ?_
        refine go_if_lt C X48 at_292 (pc' := 295) (pc2 := 326) rfl (by decide) (by decide) (fun (c292 : (-1) < 0) => ?_) (fun (c292 : 0 ≤ (-1)) => False.elim (by first | omega | exact absurd c292 (by decide)))
        refine go_iload C X48 328 rfl at_326 rfl ?_
        refine go_if_lt C X48 at_328 (pc' := 331) (pc2 := 362) rfl (by decide) (by decide) (fun (c328 : l1.toInt < 0) => ?_) (fun (c328 : 0 ≤ l1.toInt) => ?_)
        · refine go_iload C X48 364 rfl at_362 rfl ?_
          refine go_if_lt C X48 at_364 (pc' := 367) (pc2 := 398) rfl (by decide) (by decide) (fun (c364 : l2.toInt < 0) => ?_) (fun (c364 : 0 ≤ l2.toInt) => ?_)
          · refine go_iload C X48 400 rfl at_398 rfl ?_
            exact go_retN C X48 (by simp) (z' := 1) rfl at_400 rfl (by decide) (by decide)
          · refine go_iload C X48 369 rfl at_367 rfl ?_
            refine go_if_eq C X48 at_369 (pc' := 372) (pc2 := 395) rfl (by decide) (by decide) (fun (c369 : (1 : Int32) = (0 : Int32)) => False.elim (by first | omega | exact absurd c369 (by decide))) (fun (c369 : ¬ (1 : Int32) = (0 : Int32)) => ?_)
            refine go_aload C X48 374 rfl at_372 rfl rfl ?_
            refine go_iconst C X48 375 rfl at_374 (z := 2) rfl ?_
            refine go_virtual C X48 E35 (C.w 41 rfl) (C.w 42 rfl) (notFace_of_selects (args := #[]) (mvT C.hZ (C.w 44 rfl))) (C.w 44 rfl) (C.w 43 rfl) (C.w 7 rfl) (C.w 45 rfl) (own_next l Z a0 C.ws vv (2 : Int32) n nr h34 n0 X48.old F37 A9 (by decide) (by rw [lr.2]; decide)) (argsL := [(.int (2 : Int32))]) (rest := []) (lenOf pd_3 rfl) rfl (by decide) (by decide) (Nat.le_of_ble_eq_true rfl) (by decide) (by decide) rfl rfl (pc' := 378) rfl at_375 ?_
            rintro T50 _ _ ⟨rfl, rfl⟩ X51
            show Go p e below _ (T50.setTop (mkF m 378 #[iv a, iv b, iv sd, iv od, iv l0, iv l1, iv l2, iv (0 : Int32), iv nd, iv tl, rv vv, iv (-1 : Int32), iv l1, iv l2, iv (1 : Int32)] [(.int (at32 nr (2 : Int32)))]))
            refine go_iconst C X51 379 rfl at_378 (z := 2) rfl ?_
            refine go_iload C X51 381 rfl at_379 rfl ?_
            refine go_iload C X51 383 rfl at_381 rfl ?_
            refine go_iload C X51 385 rfl at_383 rfl ?_
            refine go_callS C X51 (C.w 46 rfl) (C.w 47 rfl) (C.w 2 rfl) (C.w 48 rfl) (own_nextOfM l Z a0 C.ws (2 : Int32) (-1 : Int32) l1 l2 h34 n0 X51.old ) (argsL := [(.int (2 : Int32)), (.int (-1 : Int32)), (.int l1), (.int l2)]) (rest := [(.int (at32 nr (2 : Int32)))]) (lenOf pd_4 rfl) rfl (by decide) (by decide) (Nat.le_of_ble_eq_true rfl) (by decide) (by decide) rfl rfl (pc' := 388) rfl at_385 ?_
            rintro T53 _ _ ⟨rfl, rfl⟩ X54
            show Go p e below _ (T53.setTop (mkF m 388 #[iv a, iv b, iv sd, iv od, iv l0, iv l1, iv l2, iv (0 : Int32), iv nd, iv tl, rv vv, iv (-1 : Int32), iv l1, iv l2, iv (1 : Int32)] [(.int (own_nextOf (2 : Int32) (-1 : Int32) l1 l2)), (.int (at32 nr (2 : Int32)))]))
            refine go_icmp_ne C X54 at_388 (pc' := 391) (pc2 := 395) rfl (by decide) (by decide) (fun (c388 : ¬ (at32 nr (2 : Int32)) = (own_nextOf (2 : Int32) (-1 : Int32) l1 l2)) => False.elim (c388 (V4.resolve_left (by omega)))) (fun (c388 : (at32 nr (2 : Int32)) = (own_nextOf (2 : Int32) (-1 : Int32) l1 l2)) => ?_)
            refine go_iconst C X54 392 rfl at_391 (z := 1) rfl ?_
            refine go_goto C X54 at_392 (pc' := 396) (by decide) (by decide) ?_
            refine go_istore C X54 398 rfl at_396 #[iv a, iv b, iv sd, iv od, iv l0, iv l1, iv l2, iv (0 : Int32), iv nd, iv tl, rv vv, iv (-1 : Int32), iv l1, iv l2, iv (1 : Int32)] rfl ?_
            refine go_iload C X54 400 rfl at_398 rfl ?_
            exact go_retN C X54 (by simp) (z' := 1) rfl at_400 rfl (by decide) (by decide)
        · refine go_iload C X48 333 rfl at_331 rfl ?_
          refine go_if_eq C X48 at_333 (pc' := 336) (pc2 := 359) rfl (by decide) (by decide) (fun (c333 : (1 : Int32) = (0 : Int32)) => False.elim (by first | omega | exact absurd c333 (by decide))) (fun (c333 : ¬ (1 : Int32) = (0 : Int32)) => ?_)
          refine go_aload C X48 338 rfl at_336 rfl rfl ?_
          refine go_iconst C X48 339 rfl at_338 (z := 1) rfl ?_
          refine go_virtual C X48 E35 (C.w 41 rfl) (C.w 42 rfl) (notFace_of_selects (args := #[]) (mvT C.hZ (C.w 44 rfl))) (C.w 44 rfl) (C.w 43 rfl) (C.w 7 rfl) (C.w 45 rfl) (own_next l Z a0 C.ws vv (1 : Int32) n nr h34 n0 X48.old F37 A9 (by decide) (by rw [lr.2]; decide)) (argsL := [(.int (1 : Int32))]) (rest := []) (lenOf pd_3 rfl) rfl (by decide) (by decide) (Nat.le_of_ble_eq_true rfl) (by decide) (by decide) rfl rfl (pc' := 342) rfl at_339 ?_
          rintro T56 _ _ ⟨rfl, rfl⟩ X57
          show Go p e below _ (T56.setTop (mkF m 342 #[iv a, iv b, iv sd, iv od, iv l0, iv l1, iv l2, iv (0 : Int32), iv nd, iv tl, rv vv, iv (-1 : Int32), iv l1, iv l2, iv (1 : Int32)] [(.int (at32 nr (1 : Int32)))]))
          refine go_iconst C X57 343 rfl at_342 (z := 1) rfl ?_
          refine go_iload C X57 345 rfl at_343 rfl ?_
          refine go_iload C X57 347 rfl at_345 rfl ?_
          refine go_iload C X57 349 rfl at_347 rfl ?_
          refine go_callS C X57 (C.w 46 rfl) (C.w 47 rfl) (C.w 2 rfl) (C.w 48 rfl) (own_nextOfM l Z a0 C.ws (1 : Int32) (-1 : Int32) l1 l2 h34 n0 X57.old ) (argsL := [(.int (1 : Int32)), (.int (-1 : Int32)), (.int l1), (.int l2)]) (rest := [(.int (at32 nr (1 : Int32)))]) (lenOf pd_4 rfl) rfl (by decide) (by decide) (Nat.le_of_ble_eq_true rfl) (by decide) (by decide) rfl rfl (pc' := 352) rfl at_349 ?_
          rintro T59 _ _ ⟨rfl, rfl⟩ X60
          show Go p e below _ (T59.setTop (mkF m 352 #[iv a, iv b, iv sd, iv od, iv l0, iv l1, iv l2, iv (0 : Int32), iv nd, iv tl, rv vv, iv (-1 : Int32), iv l1, iv l2, iv (1 : Int32)] [(.int (own_nextOf (1 : Int32) (-1 : Int32) l1 l2)), (.int (at32 nr (1 : Int32)))]))
          refine go_icmp_ne C X60 at_352 (pc' := 355) (pc2 := 359) rfl (by decide) (by decide) (fun (c352 : ¬ (at32 nr (1 : Int32)) = (own_nextOf (1 : Int32) (-1 : Int32) l1 l2)) => False.elim (c352 (V3.resolve_left (by omega)))) (fun (c352 : (at32 nr (1 : Int32)) = (own_nextOf (1 : Int32) (-1 : Int32) l1 l2)) => ?_)
          refine go_iconst C X60 356 rfl at_355 (z := 1) rfl ?_
          refine go_goto C X60 at_356 (pc' := 360) (by decide) (by decide) ?_
          refine go_istore C X60 362 rfl at_360 #[iv a, iv b, iv sd, iv od, iv l0, iv l1, iv l2, iv (0 : Int32), iv nd, iv tl, rv vv, iv (-1 : Int32), iv l1, iv l2, iv (1 : Int32)] rfl ?_
          refine go_iload C X60 364 rfl at_362 rfl ?_
          refine go_if_lt C X60 at_364 (pc' := 367) (pc2 := 398) rfl (by decide) (by decide) (fun (c364 : l2.toInt < 0) => ?_) (fun (c364 : 0 ≤ l2.toInt) => ?_)
          · refine go_iload C X60 400 rfl at_398 rfl ?_
            exact go_retN C X60 (by simp) (z' := 1) rfl at_400 rfl (by decide) (by decide)
          · refine go_iload C X60 369 rfl at_367 rfl ?_
            refine go_if_eq C X60 at_369 (pc' := 372) (pc2 := 395) rfl (by decide) (by decide) (fun (c369 : (1 : Int32) = (0 : Int32)) => False.elim (by first | omega | exact absurd c369 (by decide))) (fun (c369 : ¬ (1 : Int32) = (0 : Int32)) => ?_)
            refine go_aload C X60 374 rfl at_372 rfl rfl ?_
            refine go_iconst C X60 375 rfl at_374 (z := 2) rfl ?_
            refine go_virtual C X60 E35 (C.w 41 rfl) (C.w 42 rfl) (notFace_of_selects (args := #[]) (mvT C.hZ (C.w 44 rfl))) (C.w 44 rfl) (C.w 43 rfl) (C.w 7 rfl) (C.w 45 rfl) (own_next l Z a0 C.ws vv (2 : Int32) n nr h34 n0 X60.old F37 A9 (by decide) (by rw [lr.2]; decide)) (argsL := [(.int (2 : Int32))]) (rest := []) (lenOf pd_3 rfl) rfl (by decide) (by decide) (Nat.le_of_ble_eq_true rfl) (by decide) (by decide) rfl rfl (pc' := 378) rfl at_375 ?_
            rintro T62 _ _ ⟨rfl, rfl⟩ X63
            show Go p e below _ (T62.setTop (mkF m 378 #[iv a, iv b, iv sd, iv od, iv l0, iv l1, iv l2, iv (0 : Int32), iv nd, iv tl, rv vv, iv (-1 : Int32), iv l1, iv l2, iv (1 : Int32)] [(.int (at32 nr (2 : Int32)))]))
            refine go_iconst C X63 379 rfl at_378 (z := 2) rfl ?_
            refine go_iload C X63 381 rfl at_379 rfl ?_
            refine go_iload C X63 383 rfl at_381 rfl ?_
            refine go_iload C X63 385 rfl at_383 rfl ?_
            refine go_callS C X63 (C.w 46 rfl) (C.w 47 rfl) (C.w 2 rfl) (C.w 48 rfl) (own_nextOfM l Z a0 C.ws (2 : Int32) (-1 : Int32) l1 l2 h34 n0 X63.old ) (argsL := [(.int (2 : Int32)), (.int (-1 : Int32)), (.int l1), (.int l2)]) (rest := [(.int (at32 nr (2 : Int32)))]) (lenOf pd_4 rfl) rfl (by decide) (by decide) (Nat.le_of_ble_eq_true rfl) (by decide) (by decide) rfl rfl (pc' := 388) rfl at_385 ?_
            rintro T65 _ _ ⟨rfl, rfl⟩ X66
            show Go p e below _ (T65.setTop (mkF m 388 #[iv a, iv b, iv sd, iv od, iv l0, iv l1, iv l2, iv (0 : Int32), iv nd, iv tl, rv vv, iv (-1 : Int32), iv l1, iv l2, iv (1 : Int32)] [(.int (own_nextOf (2 : Int32) (-1 : Int32) l1 l2)), (.int (at32 nr (2 : Int32)))]))
            refine go_icmp_ne C X66 at_388 (pc' := 391) (pc2 := 395) rfl (by decide) (by decide) (fun (c388 : ¬ (at32 nr (2 : Int32)) = (own_nextOf (2 : Int32) (-1 : Int32) l1 l2)) => False.elim (c388 (V4.resolve_left (by omega)))) (fun (c388 : (at32 nr (2 : Int32)) = (own_nextOf (2 : Int32) (-1 : Int32) l1 l2)) => ?_)
            refine go_iconst C X66 392 rfl at_391 (z := 1) rfl ?_
            refine go_goto C X66 at_392 (pc' := 396) (by decide) (by decide) ?_
            refine go_istore C X66 398 rfl at_396 #[iv a, iv b, iv sd, iv od, iv l0, iv l1, iv l2, iv (0 : Int32), iv nd, iv tl, rv vv, iv (-1 : Int32), iv l1, iv l2, iv (1 : Int32)] rfl ?_
            refine go_iload C X66 400 rfl at_398 rfl ?_
            exact go_retN C X66 (by simp) (z' := 1) rfl at_400 rfl (by decide) (by decide)
      · have e1 : ((1 : Int32) = 0) = False := (by decide); have e2 : ((1 : Int32) = 1) = True := (by decide); have e3 : ((1 : Int32) = 2) = False := (by decide); simp only [e1, e2, e3, if_true, if_false] at V0 V1 V2 V3 V4
        refine go_aload C X25 197 rfl at_195 rfl rfl ?_
        refine go_iload C X25 199 rfl at_197 rfl ?_
        refine go_iload C X25 201 rfl at_199 rfl ?_
        refine go_virtual C X25 E27 (C.w 28 rfl) (C.w 29 rfl) (notFace_of_selects (args := #[]) (mvT C.hZ (C.w 31 rfl))) (C.w 31 rfl) (C.w 30 rfl) (C.w 7 rfl) (C.w 32 rfl) (own_remove l Z a0 C.ws vv tl (1 : Int32) f n f3 n3 fr nr h26 n0 X25.old F28 F29 A30 A31 ne_f_n ne_vv_f ne_vv_n ga_f ga_n htl.1 (by rw [hlen.1]; exact htl.2) (by decide) (by rw [hlen.2]; decide) HR) (argsL := [(.int tl), (.int (1 : Int32))]) (rest := []) (lenOf pd_2 rfl) rfl (by decide) (by decide) (Nat.le_of_ble_eq_true rfl) (by decide) (by decide) rfl rfl (pc' := 204) rfl at_201 ?_
        rintro T68 h70 _ ⟨rfl, K9, B9, A9⟩ X69
        show Go p e below _ (T68.setTop (mkF m 204 #[iv a, iv b, iv sd, iv od, iv l0, iv l1, iv l2, iv (1 : Int32), iv nd, iv tl, rv vv, un, un, un, un] []))
        have E71 := E27.keep K9
        have F72 := F28.keep K9 (ninS ne_vv_f (ninS ne_vv_n nin0))
        have F73 := F29.keep K9 (ninS ne_vv_f (ninS ne_vv_n nin0))
        refine go_iload C X69 206 rfl at_204 rfl ?_
        refine go_if_ne C X69 at_206 (pc' := 209) (pc2 := 213) rfl (by decide) (by decide) (fun (c206 : ¬ (1 : Int32) = (0 : Int32)) => ?_) (fun (c206 : (1 : Int32) = (0 : Int32)) => False.elim (by first | omega | exact absurd c206 (by decide)))
        refine go_iload C X69 215 rfl at_213 rfl ?_
        refine go_istore C X69 217 rfl at_215 #[iv a, iv b, iv sd, iv od, iv l0, iv l1, iv l2, iv (1 : Int32), iv nd, iv tl, rv vv, iv l0, un, un, un] rfl ?_
        refine go_iload C X69 219 rfl at_217 rfl ?_
        refine go_iconst C X69 220 rfl at_219 (z := 1) rfl ?_
        refine go_icmp_ne C X69 at_220 (pc' := 223) (pc2 := 227) rfl (by decide) (by decide) (fun (c220 : ¬ (1 : Int32) = (1 : Int32)) => False.elim (by first | omega | exact absurd c220 (by decide))) (fun (c220 : (1 : Int32) = (1 : Int32)) => ?_)
        refine go_iconst C X69 224 rfl at_223 (z := (-1)) rfl ?_
        refine go_goto C X69 at_224 (pc' := 229) (by decide) (by decide) ?_
        refine go_istore C X69 231 rfl at_229 #[iv a, iv b, iv sd, iv od, iv l0, iv l1, iv l2, iv (1 : Int32), iv nd, iv tl, rv vv, iv l0, iv (-1 : Int32), un, un] rfl ?_
        refine go_iload C X69 233 rfl at_231 rfl ?_
        refine go_iconst C X69 234 rfl at_233 (z := 2) rfl ?_
        refine go_icmp_ne C X69 at_234 (pc' := 237) (pc2 := 241) rfl (by decide) (by decide) (fun (c234 : ¬ (1 : Int32) = (2 : Int32)) => ?_) (fun (c234 : (1 : Int32) = (2 : Int32)) => False.elim (by first | omega | exact absurd c234 (by decide)))
        refine go_iload C X69 243 rfl at_241 rfl ?_
        refine go_istore C X69 245 rfl at_243 #[iv a, iv b, iv sd, iv od, iv l0, iv l1, iv l2, iv (1 : Int32), iv nd, iv tl, rv vv, iv l0, iv (-1 : Int32), iv l2, un] rfl ?_
        refine go_aload C X69 247 rfl at_245 rfl rfl ?_
        refine go_iconst C X69 248 rfl at_247 (z := 0) rfl ?_
        refine go_virtual C X69 E71 (C.w 33 rfl) (C.w 34 rfl) (notFace_of_selects (args := #[]) (mvT C.hZ (C.w 36 rfl))) (C.w 36 rfl) (C.w 35 rfl) (C.w 7 rfl) (C.w 37 rfl) (own_first l Z a0 C.ws vv (0 : Int32) f fr h70 n0 X69.old F72 B9 (by decide) (by rw [lr.1]; decide)) (argsL := [(.int (0 : Int32))]) (rest := []) (lenOf pd_3 rfl) rfl (by decide) (by decide) (Nat.le_of_ble_eq_true rfl) (by decide) (by decide) rfl rfl (pc' := 251) rfl at_248 ?_
        rintro T74 _ _ ⟨rfl, rfl⟩ X75
        show Go p e below _ (T74.setTop (mkF m 251 #[iv a, iv b, iv sd, iv od, iv l0, iv l1, iv l2, iv (1 : Int32), iv nd, iv tl, rv vv, iv l0, iv (-1 : Int32), iv l2, un] [(.int (at32 fr (0 : Int32)))]))
        refine go_iload C X75 253 rfl at_251 rfl ?_
        refine go_iload C X75 255 rfl at_253 rfl ?_
        refine go_iload C X75 257 rfl at_255 rfl ?_
        refine go_iconst C X75 258 rfl at_257 (z := 0) rfl ?_
        refine go_callS C X75 (C.w 38 rfl) (C.w 39 rfl) (C.w 2 rfl) (C.w 40 rfl) (own_firstAtM l Z a0 C.ws l0 (-1 : Int32) l2 (0 : Int32) h70 n0 X75.old ) (argsL := [(.int l0), (.int (-1 : Int32)), (.int l2), (.int (0 : Int32))]) (rest := [(.int (at32 fr (0 : Int32)))]) (lenOf pd_4 rfl) rfl (by decide) (by decide) (Nat.le_of_ble_eq_true rfl) (by decide) (by decide) rfl rfl (pc' := 261) rfl at_258 ?_
        rintro T77 _ _ ⟨rfl, rfl⟩ X78
        show Go p e below _ (T77.setTop (mkF m 261 #[iv a, iv b, iv sd, iv od, iv l0, iv l1, iv l2, iv (1 : Int32), iv nd, iv tl, rv vv, iv l0, iv (-1 : Int32), iv l2, un] [(.int (own_firstAt l0 (-1 : Int32) l2 (0 : Int32))), (.int (at32 fr (0 : Int32)))]))
        refine go_icmp_ne C X78 at_261 (pc' := 264) (pc2 := 287) rfl (by decide) (by decide) (fun (c261 : ¬ (at32 fr (0 : Int32)) = (own_firstAt l0 (-1 : Int32) l2 (0 : Int32))) => False.elim (c261 V0)) (fun (c261 : (at32 fr (0 : Int32)) = (own_firstAt l0 (-1 : Int32) l2 (0 : Int32))) => ?_)
        refine go_aload C X78 266 rfl at_264 rfl rfl ?_
        refine go_iconst C X78 267 rfl at_266 (z := 1) rfl ?_
        refine go_virtual C X78 E71 (C.w 33 rfl) (C.w 34 rfl) (notFace_of_selects (args := #[]) (mvT C.hZ (C.w 36 rfl))) (C.w 36 rfl) (C.w 35 rfl) (C.w 7 rfl) (C.w 37 rfl) (own_first l Z a0 C.ws vv (1 : Int32) f fr h70 n0 X78.old F72 B9 (by decide) (by rw [lr.1]; decide)) (argsL := [(.int (1 : Int32))]) (rest := []) (lenOf pd_3 rfl) rfl (by decide) (by decide) (Nat.le_of_ble_eq_true rfl) (by decide) (by decide) rfl rfl (pc' := 270) rfl at_267 ?_
        rintro T80 _ _ ⟨rfl, rfl⟩ X81
        show Go p e below _ (T80.setTop (mkF m 270 #[iv a, iv b, iv sd, iv od, iv l0, iv l1, iv l2, iv (1 : Int32), iv nd, iv tl, rv vv, iv l0, iv (-1 : Int32), iv l2, un] [(.int (at32 fr (1 : Int32)))]))
        refine go_iload C X81 272 rfl at_270 rfl ?_
        refine go_iload C X81 274 rfl at_272 rfl ?_
        refine go_iload C X81 276 rfl at_274 rfl ?_
        refine go_iconst C X81 277 rfl at_276 (z := 1) rfl ?_
        refine go_callS C X81 (C.w 38 rfl) (C.w 39 rfl) (C.w 2 rfl) (C.w 40 rfl) (own_firstAtM l Z a0 C.ws l0 (-1 : Int32) l2 (1 : Int32) h70 n0 X81.old ) (argsL := [(.int l0), (.int (-1 : Int32)), (.int l2), (.int (1 : Int32))]) (rest := [(.int (at32 fr (1 : Int32)))]) (lenOf pd_4 rfl) rfl (by decide) (by decide) (Nat.le_of_ble_eq_true rfl) (by decide) (by decide) rfl rfl (pc' := 280) rfl at_277 ?_
        rintro T83 _ _ ⟨rfl, rfl⟩ X84
        show Go p e below _ (T83.setTop (mkF m 280 #[iv a, iv b, iv sd, iv od, iv l0, iv l1, iv l2, iv (1 : Int32), iv nd, iv tl, rv vv, iv l0, iv (-1 : Int32), iv l2, un] [(.int (own_firstAt l0 (-1 : Int32) l2 (1 : Int32))), (.int (at32 fr (1 : Int32)))]))
        refine go_icmp_ne C X84 at_280 (pc' := 283) (pc2 := 287) rfl (by decide) (by decide) (fun (c280 : ¬ (at32 fr (1 : Int32)) = (own_firstAt l0 (-1 : Int32) l2 (1 : Int32))) => False.elim (c280 V1)) (fun (c280 : (at32 fr (1 : Int32)) = (own_firstAt l0 (-1 : Int32) l2 (1 : Int32))) => ?_)
        refine go_iconst C X84 284 rfl at_283 (z := 1) rfl ?_
        refine go_goto C X84 at_284 (pc' := 288) (by decide) (by decide) ?_
        refine go_istore C X84 290 rfl at_288 #[iv a, iv b, iv sd, iv od, iv l0, iv l1, iv l2, iv (1 : Int32), iv nd, iv tl, rv vv, iv l0, iv (-1 : Int32), iv l2, iv (1 : Int32)] rfl ?_
        refine go_iload C X84 292 rfl at_290 rfl ?_
        refine go_if_lt C X84 at_292 (pc' := 295) (pc2 := 326) rfl (by decide) (by decide) (fun (c292 : l0.toInt < 0) => ?_) (fun (c292 : 0 ≤ l0.toInt) => ?_)
        · refine go_iload C X84 328 rfl at_326 rfl ?_
          refine go_if_lt C X84 at_328 (pc' := 331) (pc2 := 362) rfl (by decide) (by decide) (fun (c328 : (-1) < 0) => ?_) (fun (c328 : 0 ≤ (-1)) => False.elim (by first | omega | exact absurd c328 (by decide)))
          refine go_iload C X84 364 rfl at_362 rfl ?_
          refine go_if_lt C X84 at_364 (pc' := 367) (pc2 := 398) rfl (by decide) (by decide) (fun (c364 : l2.toInt < 0) => ?_) (fun (c364 : 0 ≤ l2.toInt) => ?_)
          · refine go_iload C X84 400 rfl at_398 rfl ?_
            exact go_retN C X84 (by simp) (z' := 1) rfl at_400 rfl (by decide) (by decide)
          · refine go_iload C X84 369 rfl at_367 rfl ?_
            refine go_if_eq C X84 at_369 (pc' := 372) (pc2 := 395) rfl (by decide) (by decide) (fun (c369 : (1 : Int32) = (0 : Int32)) => False.elim (by first | omega | exact absurd c369 (by decide))) (fun (c369 : ¬ (1 : Int32) = (0 : Int32)) => ?_)
            refine go_aload C X84 374 rfl at_372 rfl rfl ?_
            refine go_iconst C X84 375 rfl at_374 (z := 2) rfl ?_
            refine go_virtual C X84 E71 (C.w 41 rfl) (C.w 42 rfl) (notFace_of_selects (args := #[]) (mvT C.hZ (C.w 44 rfl))) (C.w 44 rfl) (C.w 43 rfl) (C.w 7 rfl) (C.w 45 rfl) (own_next l Z a0 C.ws vv (2 : Int32) n nr h70 n0 X84.old F73 A9 (by decide) (by rw [lr.2]; decide)) (argsL := [(.int (2 : Int32))]) (rest := []) (lenOf pd_3 rfl) rfl (by decide) (by decide) (Nat.le_of_ble_eq_true rfl) (by decide) (by decide) rfl rfl (pc' := 378) rfl at_375 ?_
            rintro T86 _ _ ⟨rfl, rfl⟩ X87
            show Go p e below _ (T86.setTop (mkF m 378 #[iv a, iv b, iv sd, iv od, iv l0, iv l1, iv l2, iv (1 : Int32), iv nd, iv tl, rv vv, iv l0, iv (-1 : Int32), iv l2, iv (1 : Int32)] [(.int (at32 nr (2 : Int32)))]))
            refine go_iconst C X87 379 rfl at_378 (z := 2) rfl ?_
            refine go_iload C X87 381 rfl at_379 rfl ?_
            refine go_iload C X87 383 rfl at_381 rfl ?_
            refine go_iload C X87 385 rfl at_383 rfl ?_
            refine go_callS C X87 (C.w 46 rfl) (C.w 47 rfl) (C.w 2 rfl) (C.w 48 rfl) (own_nextOfM l Z a0 C.ws (2 : Int32) l0 (-1 : Int32) l2 h70 n0 X87.old ) (argsL := [(.int (2 : Int32)), (.int l0), (.int (-1 : Int32)), (.int l2)]) (rest := [(.int (at32 nr (2 : Int32)))]) (lenOf pd_4 rfl) rfl (by decide) (by decide) (Nat.le_of_ble_eq_true rfl) (by decide) (by decide) rfl rfl (pc' := 388) rfl at_385 ?_
            rintro T89 _ _ ⟨rfl, rfl⟩ X90
            show Go p e below _ (T89.setTop (mkF m 388 #[iv a, iv b, iv sd, iv od, iv l0, iv l1, iv l2, iv (1 : Int32), iv nd, iv tl, rv vv, iv l0, iv (-1 : Int32), iv l2, iv (1 : Int32)] [(.int (own_nextOf (2 : Int32) l0 (-1 : Int32) l2)), (.int (at32 nr (2 : Int32)))]))
            refine go_icmp_ne C X90 at_388 (pc' := 391) (pc2 := 395) rfl (by decide) (by decide) (fun (c388 : ¬ (at32 nr (2 : Int32)) = (own_nextOf (2 : Int32) l0 (-1 : Int32) l2)) => False.elim (c388 (V4.resolve_left (by omega)))) (fun (c388 : (at32 nr (2 : Int32)) = (own_nextOf (2 : Int32) l0 (-1 : Int32) l2)) => ?_)
            refine go_iconst C X90 392 rfl at_391 (z := 1) rfl ?_
            refine go_goto C X90 at_392 (pc' := 396) (by decide) (by decide) ?_
            refine go_istore C X90 398 rfl at_396 #[iv a, iv b, iv sd, iv od, iv l0, iv l1, iv l2, iv (1 : Int32), iv nd, iv tl, rv vv, iv l0, iv (-1 : Int32), iv l2, iv (1 : Int32)] rfl ?_
            refine go_iload C X90 400 rfl at_398 rfl ?_
            exact go_retN C X90 (by simp) (z' := 1) rfl at_400 rfl (by decide) (by decide)
        · refine go_iload C X84 297 rfl at_295 rfl ?_
          refine go_if_eq C X84 at_297 (pc' := 300) (pc2 := 323) rfl (by decide) (by decide) (fun (c297 : (1 : Int32) = (0 : Int32)) => False.elim (by first | omega | exact absurd c297 (by decide))) (fun (c297 : ¬ (1 : Int32) = (0 : Int32)) => ?_)
          refine go_aload C X84 302 rfl at_300 rfl rfl ?_
          refine go_iconst C X84 303 rfl at_302 (z := 0) rfl ?_
          refine go_virtual C X84 E71 (C.w 41 rfl) (C.w 42 rfl) (notFace_of_selects (args := #[]) (mvT C.hZ (C.w 44 rfl))) (C.w 44 rfl) (C.w 43 rfl) (C.w 7 rfl) (C.w 45 rfl) (own_next l Z a0 C.ws vv (0 : Int32) n nr h70 n0 X84.old F73 A9 (by decide) (by rw [lr.2]; decide)) (argsL := [(.int (0 : Int32))]) (rest := []) (lenOf pd_3 rfl) rfl (by decide) (by decide) (Nat.le_of_ble_eq_true rfl) (by decide) (by decide) rfl rfl (pc' := 306) rfl at_303 ?_
          rintro T92 _ _ ⟨rfl, rfl⟩ X93
          show Go p e below _ (T92.setTop (mkF m 306 #[iv a, iv b, iv sd, iv od, iv l0, iv l1, iv l2, iv (1 : Int32), iv nd, iv tl, rv vv, iv l0, iv (-1 : Int32), iv l2, iv (1 : Int32)] [(.int (at32 nr (0 : Int32)))]))
          refine go_iconst C X93 307 rfl at_306 (z := 0) rfl ?_
          refine go_iload C X93 309 rfl at_307 rfl ?_
          refine go_iload C X93 311 rfl at_309 rfl ?_
          refine go_iload C X93 313 rfl at_311 rfl ?_
          refine go_callS C X93 (C.w 46 rfl) (C.w 47 rfl) (C.w 2 rfl) (C.w 48 rfl) (own_nextOfM l Z a0 C.ws (0 : Int32) l0 (-1 : Int32) l2 h70 n0 X93.old ) (argsL := [(.int (0 : Int32)), (.int l0), (.int (-1 : Int32)), (.int l2)]) (rest := [(.int (at32 nr (0 : Int32)))]) (lenOf pd_4 rfl) rfl (by decide) (by decide) (Nat.le_of_ble_eq_true rfl) (by decide) (by decide) rfl rfl (pc' := 316) rfl at_313 ?_
          rintro T95 _ _ ⟨rfl, rfl⟩ X96
          show Go p e below _ (T95.setTop (mkF m 316 #[iv a, iv b, iv sd, iv od, iv l0, iv l1, iv l2, iv (1 : Int32), iv nd, iv tl, rv vv, iv l0, iv (-1 : Int32), iv l2, iv (1 : Int32)] [(.int (own_nextOf (0 : Int32) l0 (-1 : Int32) l2)), (.int (at32 nr (0 : Int32)))]))
          refine go_icmp_ne C X96 at_316 (pc' := 319) (pc2 := 323) rfl (by decide) (by decide) (fun (c316 : ¬ (at32 nr (0 : Int32)) = (own_nextOf (0 : Int32) l0 (-1 : Int32) l2)) => False.elim (c316 (V2.resolve_left (by omega)))) (fun (c316 : (at32 nr (0 : Int32)) = (own_nextOf (0 : Int32) l0 (-1 : Int32) l2)) => ?_)
          refine go_iconst C X96 320 rfl at_319 (z := 1) rfl ?_
          refine go_goto C X96 at_320 (pc' := 324) (by decide) (by decide) ?_
          refine go_istore C X96 326 rfl at_324 #[iv a, iv b, iv sd, iv od, iv l0, iv l1, iv l2, iv (1 : Int32), iv nd, iv tl, rv vv, iv l0, iv (-1 : Int32), iv l2, iv (1 : Int32)] rfl ?_
          refine go_iload C X96 328 rfl at_326 rfl ?_
          refine go_if_lt C X96 at_328 (pc' := 331) (pc2 := 362) rfl (by decide) (by decide) (fun (c328 : (-1) < 0) => ?_) (fun (c328 : 0 ≤ (-1)) => False.elim (by first | omega | exact absurd c328 (by decide)))
          refine go_iload C X96 364 rfl at_362 rfl ?_
          refine go_if_lt C X96 at_364 (pc' := 367) (pc2 := 398) rfl (by decide) (by decide) (fun (c364 : l2.toInt < 0) => ?_) (fun (c364 : 0 ≤ l2.toInt) => ?_)
          · refine go_iload C X96 400 rfl at_398 rfl ?_
            exact go_retN C X96 (by simp) (z' := 1) rfl at_400 rfl (by decide) (by decide)
          · refine go_iload C X96 369 rfl at_367 rfl ?_
            refine go_if_eq C X96 at_369 (pc' := 372) (pc2 := 395) rfl (by decide) (by decide) (fun (c369 : (1 : Int32) = (0 : Int32)) => False.elim (by first | omega | exact absurd c369 (by decide))) (fun (c369 : ¬ (1 : Int32) = (0 : Int32)) => ?_)
            refine go_aload C X96 374 rfl at_372 rfl rfl ?_
            refine go_iconst C X96 375 rfl at_374 (z := 2) rfl ?_
            refine go_virtual C X96 E71 (C.w 41 rfl) (C.w 42 rfl) (notFace_of_selects (args := #[]) (mvT C.hZ (C.w 44 rfl))) (C.w 44 rfl) (C.w 43 rfl) (C.w 7 rfl) (C.w 45 rfl) (own_next l Z a0 C.ws vv (2 : Int32) n nr h70 n0 X96.old F73 A9 (by decide) (by rw [lr.2]; decide)) (argsL := [(.int (2 : Int32))]) (rest := []) (lenOf pd_3 rfl) rfl (by decide) (by decide) (Nat.le_of_ble_eq_true rfl) (by decide) (by decide) rfl rfl (pc' := 378) rfl at_375 ?_
            rintro T98 _ _ ⟨rfl, rfl⟩ X99
            show Go p e below _ (T98.setTop (mkF m 378 #[iv a, iv b, iv sd, iv od, iv l0, iv l1, iv l2, iv (1 : Int32), iv nd, iv tl, rv vv, iv l0, iv (-1 : Int32), iv l2, iv (1 : Int32)] [(.int (at32 nr (2 : Int32)))]))
            refine go_iconst C X99 379 rfl at_378 (z := 2) rfl ?_
            refine go_iload C X99 381 rfl at_379 rfl ?_
            refine go_iload C X99 383 rfl at_381 rfl ?_
            refine go_iload C X99 385 rfl at_383 rfl ?_
            refine go_callS C X99 (C.w 46 rfl) (C.w 47 rfl) (C.w 2 rfl) (C.w 48 rfl) (own_nextOfM l Z a0 C.ws (2 : Int32) l0 (-1 : Int32) l2 h70 n0 X99.old ) (argsL := [(.int (2 : Int32)), (.int l0), (.int (-1 : Int32)), (.int l2)]) (rest := [(.int (at32 nr (2 : Int32)))]) (lenOf pd_4 rfl) rfl (by decide) (by decide) (Nat.le_of_ble_eq_true rfl) (by decide) (by decide) rfl rfl (pc' := 388) rfl at_385 ?_
            rintro T101 _ _ ⟨rfl, rfl⟩ X102
            show Go p e below _ (T101.setTop (mkF m 388 #[iv a, iv b, iv sd, iv od, iv l0, iv l1, iv l2, iv (1 : Int32), iv nd, iv tl, rv vv, iv l0, iv (-1 : Int32), iv l2, iv (1 : Int32)] [(.int (own_nextOf (2 : Int32) l0 (-1 : Int32) l2)), (.int (at32 nr (2 : Int32)))]))
            refine go_icmp_ne C X102 at_388 (pc' := 391) (pc2 := 395) rfl (by decide) (by decide) (fun (c388 : ¬ (at32 nr (2 : Int32)) = (own_nextOf (2 : Int32) l0 (-1 : Int32) l2)) => False.elim (c388 (V4.resolve_left (by omega)))) (fun (c388 : (at32 nr (2 : Int32)) = (own_nextOf (2 : Int32) l0 (-1 : Int32) l2)) => ?_)
            refine go_iconst C X102 392 rfl at_391 (z := 1) rfl ?_
            refine go_goto C X102 at_392 (pc' := 396) (by decide) (by decide) ?_
            refine go_istore C X102 398 rfl at_396 #[iv a, iv b, iv sd, iv od, iv l0, iv l1, iv l2, iv (1 : Int32), iv nd, iv tl, rv vv, iv l0, iv (-1 : Int32), iv l2, iv (1 : Int32)] rfl ?_
            refine go_iload C X102 400 rfl at_398 rfl ?_
            exact go_retN C X102 (by simp) (z' := 1) rfl at_400 rfl (by decide) (by decide)
      · have e1 : ((2 : Int32) = 0) = False := (by decide); have e2 : ((2 : Int32) = 1) = False := (by decide); have e3 : ((2 : Int32) = 2) = True := (by decide); simp only [e1, e2, e3, if_true, if_false] at V0 V1 V2 V3 V4
        refine go_aload C X25 197 rfl at_195 rfl rfl ?_
        refine go_iload C X25 199 rfl at_197 rfl ?_
        refine go_iload C X25 201 rfl at_199 rfl ?_
        refine go_virtual C X25 E27 (C.w 28 rfl) (C.w 29 rfl) (notFace_of_selects (args := #[]) (mvT C.hZ (C.w 31 rfl))) (C.w 31 rfl) (C.w 30 rfl) (C.w 7 rfl) (C.w 32 rfl) (own_remove l Z a0 C.ws vv tl (2 : Int32) f n f3 n3 fr nr h26 n0 X25.old F28 F29 A30 A31 ne_f_n ne_vv_f ne_vv_n ga_f ga_n htl.1 (by rw [hlen.1]; exact htl.2) (by decide) (by rw [hlen.2]; decide) HR) (argsL := [(.int tl), (.int (2 : Int32))]) (rest := []) (lenOf pd_2 rfl) rfl (by decide) (by decide) (Nat.le_of_ble_eq_true rfl) (by decide) (by decide) rfl rfl (pc' := 204) rfl at_201 ?_
        rintro T104 h106 _ ⟨rfl, K9, B9, A9⟩ X105
        show Go p e below _ (T104.setTop (mkF m 204 #[iv a, iv b, iv sd, iv od, iv l0, iv l1, iv l2, iv (2 : Int32), iv nd, iv tl, rv vv, un, un, un, un] []))
        have E107 := E27.keep K9
        have F108 := F28.keep K9 (ninS ne_vv_f (ninS ne_vv_n nin0))
        have F109 := F29.keep K9 (ninS ne_vv_f (ninS ne_vv_n nin0))
        refine go_iload C X105 206 rfl at_204 rfl ?_
        refine go_if_ne C X105 at_206 (pc' := 209) (pc2 := 213) rfl (by decide) (by decide) (fun (c206 : ¬ (2 : Int32) = (0 : Int32)) => ?_) (fun (c206 : (2 : Int32) = (0 : Int32)) => False.elim (by first | omega | exact absurd c206 (by decide)))
        refine go_iload C X105 215 rfl at_213 rfl ?_
        refine go_istore C X105 217 rfl at_215 #[iv a, iv b, iv sd, iv od, iv l0, iv l1, iv l2, iv (2 : Int32), iv nd, iv tl, rv vv, iv l0, un, un, un] rfl ?_
        refine go_iload C X105 219 rfl at_217 rfl ?_
        refine go_iconst C X105 220 rfl at_219 (z := 1) rfl ?_
        refine go_icmp_ne C X105 at_220 (pc' := 223) (pc2 := 227) rfl (by decide) (by decide) (fun (c220 : ¬ (2 : Int32) = (1 : Int32)) => ?_) (fun (c220 : (2 : Int32) = (1 : Int32)) => False.elim (by first | omega | exact absurd c220 (by decide)))
        refine go_iload C X105 229 rfl at_227 rfl ?_
        refine go_istore C X105 231 rfl at_229 #[iv a, iv b, iv sd, iv od, iv l0, iv l1, iv l2, iv (2 : Int32), iv nd, iv tl, rv vv, iv l0, iv l1, un, un] rfl ?_
        refine go_iload C X105 233 rfl at_231 rfl ?_
        refine go_iconst C X105 234 rfl at_233 (z := 2) rfl ?_
        refine go_icmp_ne C X105 at_234 (pc' := 237) (pc2 := 241) rfl (by decide) (by decide) (fun (c234 : ¬ (2 : Int32) = (2 : Int32)) => False.elim (by first | omega | exact absurd c234 (by decide))) (fun (c234 : (2 : Int32) = (2 : Int32)) => ?_)
        refine go_iconst C X105 238 rfl at_237 (z := (-1)) rfl ?_
        refine go_goto C X105 at_238 (pc' := 243) (by decide) (by decide) ?_
        refine go_istore C X105 245 rfl at_243 #[iv a, iv b, iv sd, iv od, iv l0, iv l1, iv l2, iv (2 : Int32), iv nd, iv tl, rv vv, iv l0, iv l1, iv (-1 : Int32), un] rfl ?_
        refine go_aload C X105 247 rfl at_245 rfl rfl ?_
        refine go_iconst C X105 248 rfl at_247 (z := 0) rfl ?_
        refine go_virtual C X105 E107 (C.w 33 rfl) (C.w 34 rfl) (notFace_of_selects (args := #[]) (mvT C.hZ (C.w 36 rfl))) (C.w 36 rfl) (C.w 35 rfl) (C.w 7 rfl) (C.w 37 rfl) (own_first l Z a0 C.ws vv (0 : Int32) f fr h106 n0 X105.old F108 B9 (by decide) (by rw [lr.1]; decide)) (argsL := [(.int (0 : Int32))]) (rest := []) (lenOf pd_3 rfl) rfl (by decide) (by decide) (Nat.le_of_ble_eq_true rfl) (by decide) (by decide) rfl rfl (pc' := 251) rfl at_248 ?_
        rintro T110 _ _ ⟨rfl, rfl⟩ X111
        show Go p e below _ (T110.setTop (mkF m 251 #[iv a, iv b, iv sd, iv od, iv l0, iv l1, iv l2, iv (2 : Int32), iv nd, iv tl, rv vv, iv l0, iv l1, iv (-1 : Int32), un] [(.int (at32 fr (0 : Int32)))]))
        refine go_iload C X111 253 rfl at_251 rfl ?_
        refine go_iload C X111 255 rfl at_253 rfl ?_
        refine go_iload C X111 257 rfl at_255 rfl ?_
        refine go_iconst C X111 258 rfl at_257 (z := 0) rfl ?_
        refine go_callS C X111 (C.w 38 rfl) (C.w 39 rfl) (C.w 2 rfl) (C.w 40 rfl) (own_firstAtM l Z a0 C.ws l0 l1 (-1 : Int32) (0 : Int32) h106 n0 X111.old ) (argsL := [(.int l0), (.int l1), (.int (-1 : Int32)), (.int (0 : Int32))]) (rest := [(.int (at32 fr (0 : Int32)))]) (lenOf pd_4 rfl) rfl (by decide) (by decide) (Nat.le_of_ble_eq_true rfl) (by decide) (by decide) rfl rfl (pc' := 261) rfl at_258 ?_
        rintro T113 _ _ ⟨rfl, rfl⟩ X114
        show Go p e below _ (T113.setTop (mkF m 261 #[iv a, iv b, iv sd, iv od, iv l0, iv l1, iv l2, iv (2 : Int32), iv nd, iv tl, rv vv, iv l0, iv l1, iv (-1 : Int32), un] [(.int (own_firstAt l0 l1 (-1 : Int32) (0 : Int32))), (.int (at32 fr (0 : Int32)))]))
        refine go_icmp_ne C X114 at_261 (pc' := 264) (pc2 := 287) rfl (by decide) (by decide) (fun (c261 : ¬ (at32 fr (0 : Int32)) = (own_firstAt l0 l1 (-1 : Int32) (0 : Int32))) => False.elim (c261 V0)) (fun (c261 : (at32 fr (0 : Int32)) = (own_firstAt l0 l1 (-1 : Int32) (0 : Int32))) => ?_)
        refine go_aload C X114 266 rfl at_264 rfl rfl ?_
        refine go_iconst C X114 267 rfl at_266 (z := 1) rfl ?_
        refine go_virtual C X114 E107 (C.w 33 rfl) (C.w 34 rfl) (notFace_of_selects (args := #[]) (mvT C.hZ (C.w 36 rfl))) (C.w 36 rfl) (C.w 35 rfl) (C.w 7 rfl) (C.w 37 rfl) (own_first l Z a0 C.ws vv (1 : Int32) f fr h106 n0 X114.old F108 B9 (by decide) (by rw [lr.1]; decide)) (argsL := [(.int (1 : Int32))]) (rest := []) (lenOf pd_3 rfl) rfl (by decide) (by decide) (Nat.le_of_ble_eq_true rfl) (by decide) (by decide) rfl rfl (pc' := 270) rfl at_267 ?_
        rintro T116 _ _ ⟨rfl, rfl⟩ X117
        show Go p e below _ (T116.setTop (mkF m 270 #[iv a, iv b, iv sd, iv od, iv l0, iv l1, iv l2, iv (2 : Int32), iv nd, iv tl, rv vv, iv l0, iv l1, iv (-1 : Int32), un] [(.int (at32 fr (1 : Int32)))]))
        refine go_iload C X117 272 rfl at_270 rfl ?_
        refine go_iload C X117 274 rfl at_272 rfl ?_
        refine go_iload C X117 276 rfl at_274 rfl ?_
        refine go_iconst C X117 277 rfl at_276 (z := 1) rfl ?_
        refine go_callS C X117 (C.w 38 rfl) (C.w 39 rfl) (C.w 2 rfl) (C.w 40 rfl) (own_firstAtM l Z a0 C.ws l0 l1 (-1 : Int32) (1 : Int32) h106 n0 X117.old ) (argsL := [(.int l0), (.int l1), (.int (-1 : Int32)), (.int (1 : Int32))]) (rest := [(.int (at32 fr (1 : Int32)))]) (lenOf pd_4 rfl) rfl (by decide) (by decide) (Nat.le_of_ble_eq_true rfl) (by decide) (by decide) rfl rfl (pc' := 280) rfl at_277 ?_
        rintro T119 _ _ ⟨rfl, rfl⟩ X120
        show Go p e below _ (T119.setTop (mkF m 280 #[iv a, iv b, iv sd, iv od, iv l0, iv l1, iv l2, iv (2 : Int32), iv nd, iv tl, rv vv, iv l0, iv l1, iv (-1 : Int32), un] [(.int (own_firstAt l0 l1 (-1 : Int32) (1 : Int32))), (.int (at32 fr (1 : Int32)))]))
        refine go_icmp_ne C X120 at_280 (pc' := 283) (pc2 := 287) rfl (by decide) (by decide) (fun (c280 : ¬ (at32 fr (1 : Int32)) = (own_firstAt l0 l1 (-1 : Int32) (1 : Int32))) => False.elim (c280 V1)) (fun (c280 : (at32 fr (1 : Int32)) = (own_firstAt l0 l1 (-1 : Int32) (1 : Int32))) => ?_)
        refine go_iconst C X120 284 rfl at_283 (z := 1) rfl ?_
        refine go_goto C X120 at_284 (pc' := 288) (by decide) (by decide) ?_
        refine go_istore C X120 290 rfl at_288 #[iv a, iv b, iv sd, iv od, iv l0, iv l1, iv l2, iv (2 : Int32), iv nd, iv tl, rv vv, iv l0, iv l1, iv (-1 : Int32), iv (1 : Int32)] rfl ?_
        refine go_iload C X120 292 rfl at_290 rfl ?_
        refine go_if_lt C X120 at_292 (pc' := 295) (pc2 := 326) rfl (by decide) (by decide) (fun (c292 : l0.toInt < 0) => ?_) (fun (c292 : 0 ≤ l0.toInt) => ?_)
        · refine go_iload C X120 328 rfl at_326 rfl ?_
          refine go_if_lt C X120 at_328 (pc' := 331) (pc2 := 362) rfl (by decide) (by decide) (fun (c328 : l1.toInt < 0) => ?_) (fun (c328 : 0 ≤ l1.toInt) => ?_)
          · refine go_iload C X120 364 rfl at_362 rfl ?_
            refine go_if_lt C X120 at_364 (pc' := 367) (pc2 := 398) rfl (by decide) (by decide) (fun (c364 : (-1) < 0) => ?_) (fun (c364 : 0 ≤ (-1)) => False.elim (by first | omega | exact absurd c364 (by decide)))
            refine go_iload C X120 400 rfl at_398 rfl ?_
            exact go_retN C X120 (by simp) (z' := 1) rfl at_400 rfl (by decide) (by decide)
          · refine go_iload C X120 333 rfl at_331 rfl ?_
            refine go_if_eq C X120 at_333 (pc' := 336) (pc2 := 359) rfl (by decide) (by decide) (fun (c333 : (1 : Int32) = (0 : Int32)) => False.elim (by first | omega | exact absurd c333 (by decide))) (fun (c333 : ¬ (1 : Int32) = (0 : Int32)) => ?_)
            refine go_aload C X120 338 rfl at_336 rfl rfl ?_
            refine go_iconst C X120 339 rfl at_338 (z := 1) rfl ?_
            refine go_virtual C X120 E107 (C.w 41 rfl) (C.w 42 rfl) (notFace_of_selects (args := #[]) (mvT C.hZ (C.w 44 rfl))) (C.w 44 rfl) (C.w 43 rfl) (C.w 7 rfl) (C.w 45 rfl) (own_next l Z a0 C.ws vv (1 : Int32) n nr h106 n0 X120.old F109 A9 (by decide) (by rw [lr.2]; decide)) (argsL := [(.int (1 : Int32))]) (rest := []) (lenOf pd_3 rfl) rfl (by decide) (by decide) (Nat.le_of_ble_eq_true rfl) (by decide) (by decide) rfl rfl (pc' := 342) rfl at_339 ?_
            rintro T122 _ _ ⟨rfl, rfl⟩ X123
            show Go p e below _ (T122.setTop (mkF m 342 #[iv a, iv b, iv sd, iv od, iv l0, iv l1, iv l2, iv (2 : Int32), iv nd, iv tl, rv vv, iv l0, iv l1, iv (-1 : Int32), iv (1 : Int32)] [(.int (at32 nr (1 : Int32)))]))
            refine go_iconst C X123 343 rfl at_342 (z := 1) rfl ?_
            refine go_iload C X123 345 rfl at_343 rfl ?_
            refine go_iload C X123 347 rfl at_345 rfl ?_
            refine go_iload C X123 349 rfl at_347 rfl ?_
            refine go_callS C X123 (C.w 46 rfl) (C.w 47 rfl) (C.w 2 rfl) (C.w 48 rfl) (own_nextOfM l Z a0 C.ws (1 : Int32) l0 l1 (-1 : Int32) h106 n0 X123.old ) (argsL := [(.int (1 : Int32)), (.int l0), (.int l1), (.int (-1 : Int32))]) (rest := [(.int (at32 nr (1 : Int32)))]) (lenOf pd_4 rfl) rfl (by decide) (by decide) (Nat.le_of_ble_eq_true rfl) (by decide) (by decide) rfl rfl (pc' := 352) rfl at_349 ?_
            rintro T125 _ _ ⟨rfl, rfl⟩ X126
            show Go p e below _ (T125.setTop (mkF m 352 #[iv a, iv b, iv sd, iv od, iv l0, iv l1, iv l2, iv (2 : Int32), iv nd, iv tl, rv vv, iv l0, iv l1, iv (-1 : Int32), iv (1 : Int32)] [(.int (own_nextOf (1 : Int32) l0 l1 (-1 : Int32))), (.int (at32 nr (1 : Int32)))]))
            refine go_icmp_ne C X126 at_352 (pc' := 355) (pc2 := 359) rfl (by decide) (by decide) (fun (c352 : ¬ (at32 nr (1 : Int32)) = (own_nextOf (1 : Int32) l0 l1 (-1 : Int32))) => False.elim (c352 (V3.resolve_left (by omega)))) (fun (c352 : (at32 nr (1 : Int32)) = (own_nextOf (1 : Int32) l0 l1 (-1 : Int32))) => ?_)
            refine go_iconst C X126 356 rfl at_355 (z := 1) rfl ?_
            refine go_goto C X126 at_356 (pc' := 360) (by decide) (by decide) ?_
            refine go_istore C X126 362 rfl at_360 #[iv a, iv b, iv sd, iv od, iv l0, iv l1, iv l2, iv (2 : Int32), iv nd, iv tl, rv vv, iv l0, iv l1, iv (-1 : Int32), iv (1 : Int32)] rfl ?_
            refine go_iload C X126 364 rfl at_362 rfl ?_
            refine go_if_lt C X126 at_364 (pc' := 367) (pc2 := 398) rfl (by decide) (by decide) (fun (c364 : (-1) < 0) => ?_) (fun (c364 : 0 ≤ (-1)) => False.elim (by first | omega | exact absurd c364 (by decide)))
            refine go_iload C X126 400 rfl at_398 rfl ?_
            exact go_retN C X126 (by simp) (z' := 1) rfl at_400 rfl (by decide) (by decide)
        · refine go_iload C X120 297 rfl at_295 rfl ?_
          refine go_if_eq C X120 at_297 (pc' := 300) (pc2 := 323) rfl (by decide) (by decide) (fun (c297 : (1 : Int32) = (0 : Int32)) => False.elim (by first | omega | exact absurd c297 (by decide))) (fun (c297 : ¬ (1 : Int32) = (0 : Int32)) => ?_)
          refine go_aload C X120 302 rfl at_300 rfl rfl ?_
          refine go_iconst C X120 303 rfl at_302 (z := 0) rfl ?_
          refine go_virtual C X120 E107 (C.w 41 rfl) (C.w 42 rfl) (notFace_of_selects (args := #[]) (mvT C.hZ (C.w 44 rfl))) (C.w 44 rfl) (C.w 43 rfl) (C.w 7 rfl) (C.w 45 rfl) (own_next l Z a0 C.ws vv (0 : Int32) n nr h106 n0 X120.old F109 A9 (by decide) (by rw [lr.2]; decide)) (argsL := [(.int (0 : Int32))]) (rest := []) (lenOf pd_3 rfl) rfl (by decide) (by decide) (Nat.le_of_ble_eq_true rfl) (by decide) (by decide) rfl rfl (pc' := 306) rfl at_303 ?_
          rintro T128 _ _ ⟨rfl, rfl⟩ X129
          show Go p e below _ (T128.setTop (mkF m 306 #[iv a, iv b, iv sd, iv od, iv l0, iv l1, iv l2, iv (2 : Int32), iv nd, iv tl, rv vv, iv l0, iv l1, iv (-1 : Int32), iv (1 : Int32)] [(.int (at32 nr (0 : Int32)))]))
          refine go_iconst C X129 307 rfl at_306 (z := 0) rfl ?_
          refine go_iload C X129 309 rfl at_307 rfl ?_
          refine go_iload C X129 311 rfl at_309 rfl ?_
          refine go_iload C X129 313 rfl at_311 rfl ?_
          refine go_callS C X129 (C.w 46 rfl) (C.w 47 rfl) (C.w 2 rfl) (C.w 48 rfl) (own_nextOfM l Z a0 C.ws (0 : Int32) l0 l1 (-1 : Int32) h106 n0 X129.old ) (argsL := [(.int (0 : Int32)), (.int l0), (.int l1), (.int (-1 : Int32))]) (rest := [(.int (at32 nr (0 : Int32)))]) (lenOf pd_4 rfl) rfl (by decide) (by decide) (Nat.le_of_ble_eq_true rfl) (by decide) (by decide) rfl rfl (pc' := 316) rfl at_313 ?_
          rintro T131 _ _ ⟨rfl, rfl⟩ X132
          show Go p e below _ (T131.setTop (mkF m 316 #[iv a, iv b, iv sd, iv od, iv l0, iv l1, iv l2, iv (2 : Int32), iv nd, iv tl, rv vv, iv l0, iv l1, iv (-1 : Int32), iv (1 : Int32)] [(.int (own_nextOf (0 : Int32) l0 l1 (-1 : Int32))), (.int (at32 nr (0 : Int32)))]))
          refine go_icmp_ne C X132 at_316 (pc' := 319) (pc2 := 323) rfl (by decide) (by decide) (fun (c316 : ¬ (at32 nr (0 : Int32)) = (own_nextOf (0 : Int32) l0 l1 (-1 : Int32))) => False.elim (c316 (V2.resolve_left (by omega)))) (fun (c316 : (at32 nr (0 : Int32)) = (own_nextOf (0 : Int32) l0 l1 (-1 : Int32))) => ?_)
          refine go_iconst C X132 320 rfl at_319 (z := 1) rfl ?_
          refine go_goto C X132 at_320 (pc' := 324) (by decide) (by decide) ?_
          refine go_istore C X132 326 rfl at_324 #[iv a, iv b, iv sd, iv od, iv l0, iv l1, iv l2, iv (2 : Int32), iv nd, iv tl, rv vv, iv l0, iv l1, iv (-1 : Int32), iv (1 : Int32)] rfl ?_
          refine go_iload C X132 328 rfl at_326 rfl ?_
          refine go_if_lt C X132 at_328 (pc' := 331) (pc2 := 362) rfl (by decide) (by decide) (fun (c328 : l1.toInt < 0) => ?_) (fun (c328 : 0 ≤ l1.toInt) => ?_)
          · refine go_iload C X132 364 rfl at_362 rfl ?_
            refine go_if_lt C X132 at_364 (pc' := 367) (pc2 := 398) rfl (by decide) (by decide) (fun (c364 : (-1) < 0) => ?_) (fun (c364 : 0 ≤ (-1)) => False.elim (by first | omega | exact absurd c364 (by decide)))
            refine go_iload C X132 400 rfl at_398 rfl ?_
            exact go_retN C X132 (by simp) (z' := 1) rfl at_400 rfl (by decide) (by decide)
          · refine go_iload C X132 333 rfl at_331 rfl ?_
            refine go_if_eq C X132 at_333 (pc' := 336) (pc2 := 359) rfl (by decide) (by decide) (fun (c333 : (1 : Int32) = (0 : Int32)) => False.elim (by first | omega | exact absurd c333 (by decide))) (fun (c333 : ¬ (1 : Int32) = (0 : Int32)) => ?_)
            refine go_aload C X132 338 rfl at_336 rfl rfl ?_
            refine go_iconst C X132 339 rfl at_338 (z := 1) rfl ?_
            refine go_virtual C X132 E107 (C.w 41 rfl) (C.w 42 rfl) (notFace_of_selects (args := #[]) (mvT C.hZ (C.w 44 rfl))) (C.w 44 rfl) (C.w 43 rfl) (C.w 7 rfl) (C.w 45 rfl) (own_next l Z a0 C.ws vv (1 : Int32) n nr h106 n0 X132.old F109 A9 (by decide) (by rw [lr.2]; decide)) (argsL := [(.int (1 : Int32))]) (rest := []) (lenOf pd_3 rfl) rfl (by decide) (by decide) (Nat.le_of_ble_eq_true rfl) (by decide) (by decide) rfl rfl (pc' := 342) rfl at_339 ?_
            rintro T134 _ _ ⟨rfl, rfl⟩ X135
            show Go p e below _ (T134.setTop (mkF m 342 #[iv a, iv b, iv sd, iv od, iv l0, iv l1, iv l2, iv (2 : Int32), iv nd, iv tl, rv vv, iv l0, iv l1, iv (-1 : Int32), iv (1 : Int32)] [(.int (at32 nr (1 : Int32)))]))
            refine go_iconst C X135 343 rfl at_342 (z := 1) rfl ?_
            refine go_iload C X135 345 rfl at_343 rfl ?_
            refine go_iload C X135 347 rfl at_345 rfl ?_
            refine go_iload C X135 349 rfl at_347 rfl ?_
            refine go_callS C X135 (C.w 46 rfl) (C.w 47 rfl) (C.w 2 rfl) (C.w 48 rfl) (own_nextOfM l Z a0 C.ws (1 : Int32) l0 l1 (-1 : Int32) h106 n0 X135.old ) (argsL := [(.int (1 : Int32)), (.int l0), (.int l1), (.int (-1 : Int32))]) (rest := [(.int (at32 nr (1 : Int32)))]) (lenOf pd_4 rfl) rfl (by decide) (by decide) (Nat.le_of_ble_eq_true rfl) (by decide) (by decide) rfl rfl (pc' := 352) rfl at_349 ?_
            rintro T137 _ _ ⟨rfl, rfl⟩ X138
            show Go p e below _ (T137.setTop (mkF m 352 #[iv a, iv b, iv sd, iv od, iv l0, iv l1, iv l2, iv (2 : Int32), iv nd, iv tl, rv vv, iv l0, iv l1, iv (-1 : Int32), iv (1 : Int32)] [(.int (own_nextOf (1 : Int32) l0 l1 (-1 : Int32))), (.int (at32 nr (1 : Int32)))]))
            refine go_icmp_ne C X138 at_352 (pc' := 355) (pc2 := 359) rfl (by decide) (by decide) (fun (c352 : ¬ (at32 nr (1 : Int32)) = (own_nextOf (1 : Int32) l0 l1 (-1 : Int32))) => False.elim (c352 (V3.resolve_left (by omega)))) (fun (c352 : (at32 nr (1 : Int32)) = (own_nextOf (1 : Int32) l0 l1 (-1 : Int32))) => ?_)
            refine go_iconst C X138 356 rfl at_355 (z := 1) rfl ?_
            refine go_goto C X138 at_356 (pc' := 360) (by decide) (by decide) ?_
            refine go_istore C X138 362 rfl at_360 #[iv a, iv b, iv sd, iv od, iv l0, iv l1, iv l2, iv (2 : Int32), iv nd, iv tl, rv vv, iv l0, iv l1, iv (-1 : Int32), iv (1 : Int32)] rfl ?_
            refine go_iload C X138 364 rfl at_362 rfl ?_
            refine go_if_lt C X138 at_364 (pc' := 367) (pc2 := 398) rfl (by decide) (by decide) (fun (c364 : (-1) < 0) => ?_) (fun (c364 : 0 ≤ (-1)) => False.elim (by first | omega | exact absurd c364 (by decide)))
            refine go_iload C X138 400 rfl at_398 rfl ?_
            exact go_retN C X138 (by simp) (z' := 1) rfl at_400 rfl (by decide) (by decide)
    refine go_iloadN C X20 109 rfl at_108 rfl ?_
    refine go_iconst C X20 110 rfl at_109 (z := 1) rfl ?_
    refine go_iand C X20 111 rfl at_110 ?_
    refine go_if_ne C X20 at_111 (pc' := 114) (pc2 := 156) rfl (by decide) (by decide) (fun (c111 : ¬ (od &&& (1 : Int32)) = (0 : Int32)) => ?_) (fun (c111 : (od &&& (1 : Int32)) = (0 : Int32)) => ?_)
    · skip
      have J140 : ∀  (T141 : State) (h143 : Heap) (X142 : St Z p l e room_1 s m #[(.int a), (.int b), (.int sd), (.int od)] below meth c n0 T141 h143 (0 + 1 + 2) (0 + 2 + 5))  (E144 : Exa Z h143 vv "com/example/waymarshal/waymarshal/replay/VacantVehicles") (F145 : Fld Z h143 vv "com/example/waymarshal/waymarshal/replay/VacantVehicles" "first" "[I" (.ref f)) (F146 : Fld Z h143 vv "com/example/waymarshal/waymarshal/replay/VacantVehicles" "next" "[I" (.ref n)) (A147 : La Z h143 f .int (ia fB0)) (A148 : La Z h143 n .int (ia nB0)), Go p e below (FinQ s room_1.cells room_1.slots n0 (fun v h' => v = some (.int 1))) (T141.setTop (mkF m 169 #[iv a, iv b, iv sd, iv od, iv l0, iv l1, iv l2, iv tg, iv nd, iv tl, rv vv, un, un, un, un] [])) := by
        intro  T141 h143 X142  E144 F145 F146 A147 A148
        have J149 : ∀  (T150 : State) (h152 : Heap) (X151 : St Z p l e room_1 s m #[(.int a), (.int b), (.int sd), (.int od)] below meth c n0 T150 h152 (0 + 1 + 2) (0 + 2 + 5))  (E153 : Exa Z h152 vv "com/example/waymarshal/waymarshal/replay/VacantVehicles") (F154 : Fld Z h152 vv "com/example/waymarshal/waymarshal/replay/VacantVehicles" "first" "[I" (.ref f)) (F155 : Fld Z h152 vv "com/example/waymarshal/waymarshal/replay/VacantVehicles" "next" "[I" (.ref n)) (A156 : La Z h152 f .int (ia fB1)) (A157 : La Z h152 n .int (ia nB1)), Go p e below (FinQ s room_1.cells room_1.slots n0 (fun v h' => v = some (.int 1))) (T150.setTop (mkF m 182 #[iv a, iv b, iv sd, iv od, iv l0, iv l1, iv l2, iv tg, iv nd, iv tl, rv vv, un, un, un, un] [])) := by
          intro  T150 h152 X151  E153 F154 F155 A156 A157
          refine go_iload C X151 184 rfl at_182 rfl ?_
          refine go_if_lt C X151 at_184 (pc' := 187) (pc2 := 195) rfl (by decide) (by decide) (fun (c184 : l0.toInt < 0) => ?_) (fun (c184 : 0 ≤ l0.toInt) => ?_)
          · exact J23  _ _ X151 fB2 nB2 lB2 HB E153 F154 F155 (by have q := HB2; unfold own_add0 at q; rw [if_pos c184] at q; have q1 := Option.some.inj q; have q2 := congrArg Prod.fst q1; dsimp only at q2; rw [← q2]; exact A156) (by have q := HB2; unfold own_add0 at q; rw [if_pos c184] at q; have q1 := Option.some.inj q; have q2 := congrArg Prod.snd q1; dsimp only at q2; rw [← q2]; exact A157)
          · refine go_aload C X151 189 rfl at_187 rfl rfl ?_
            refine go_iload C X151 191 rfl at_189 rfl ?_
            refine go_iconst C X151 192 rfl at_191 (z := 0) rfl ?_
            refine go_virtual C X151 E153 (C.w 23 rfl) (C.w 24 rfl) (notFace_of_selects (args := #[]) (mvT C.hZ (C.w 26 rfl))) (C.w 26 rfl) (C.w 25 rfl) (C.w 7 rfl) (C.w 27 rfl) (own_add l Z a0 C.ws vv l0 (0 : Int32) f n fB1 nB1 fB2 nB2 h152 n0 X151.old F154 F155 A156 A157 ne_f_n ne_vv_f ne_vv_n ga_f ga_n (own_pm p0 (Int.not_lt.mpr c184)).1 (by have := (own_pm p0 (Int.not_lt.mpr c184)).2; omega) (by decide) (by rw [lB1.2]; decide) (by unfold own_add0 at HB2; rw [if_neg (Int.not_lt.mpr c184)] at HB2; exact HB2)) (argsL := [(.int l0), (.int (0 : Int32))]) (rest := []) (lenOf pd_2 rfl) rfl (by decide) (by decide) (Nat.le_of_ble_eq_true rfl) (by decide) (by decide) rfl rfl (pc' := 195) rfl at_192 ?_
            rintro T158 h160 _ ⟨rfl, K1195, B1195, A1195⟩ X159
            show Go p e below _ (T158.setTop (mkF m 195 #[iv a, iv b, iv sd, iv od, iv l0, iv l1, iv l2, iv tg, iv nd, iv tl, rv vv, un, un, un, un] []))
            have E161 := E153.keep K1195
            have F162 := F154.keep K1195 (ninS ne_vv_f (ninS ne_vv_n nin0))
            have F163 := F155.keep K1195 (ninS ne_vv_f (ninS ne_vv_n nin0))
            exact J23  _ _ X159 fB2 nB2 lB2 HB E161 F162 F163 B1195 A1195
        refine go_iload C X142 171 rfl at_169 rfl ?_
        refine go_if_lt C X142 at_171 (pc' := 174) (pc2 := 182) rfl (by decide) (by decide) (fun (c171 : l1.toInt < 0) => ?_) (fun (c171 : 0 ≤ l1.toInt) => ?_)
        · exact J149  _ _ X142  E144 F145 F146 (by have q := HB1; unfold own_add0 at q; rw [if_pos c171] at q; have q1 := Option.some.inj q; have q2 := congrArg Prod.fst q1; dsimp only at q2; rw [← q2]; exact A147) (by have q := HB1; unfold own_add0 at q; rw [if_pos c171] at q; have q1 := Option.some.inj q; have q2 := congrArg Prod.snd q1; dsimp only at q2; rw [← q2]; exact A148)
        · refine go_aload C X142 176 rfl at_174 rfl rfl ?_
          refine go_iload C X142 178 rfl at_176 rfl ?_
          refine go_iconst C X142 179 rfl at_178 (z := 1) rfl ?_
          refine go_virtual C X142 E144 (C.w 23 rfl) (C.w 24 rfl) (notFace_of_selects (args := #[]) (mvT C.hZ (C.w 26 rfl))) (C.w 26 rfl) (C.w 25 rfl) (C.w 7 rfl) (C.w 27 rfl) (own_add l Z a0 C.ws vv l1 (1 : Int32) f n fB0 nB0 fB1 nB1 h143 n0 X142.old F145 F146 A147 A148 ne_f_n ne_vv_f ne_vv_n ga_f ga_n (own_pm p1 (Int.not_lt.mpr c171)).1 (by have := (own_pm p1 (Int.not_lt.mpr c171)).2; omega) (by decide) (by rw [lB0.2]; decide) (by unfold own_add0 at HB1; rw [if_neg (Int.not_lt.mpr c171)] at HB1; exact HB1)) (argsL := [(.int l1), (.int (1 : Int32))]) (rest := []) (lenOf pd_2 rfl) rfl (by decide) (by decide) (Nat.le_of_ble_eq_true rfl) (by decide) (by decide) rfl rfl (pc' := 182) rfl at_179 ?_
          rintro T164 h166 _ ⟨rfl, K1182, B1182, A1182⟩ X165
          show Go p e below _ (T164.setTop (mkF m 182 #[iv a, iv b, iv sd, iv od, iv l0, iv l1, iv l2, iv tg, iv nd, iv tl, rv vv, un, un, un, un] []))
          have E167 := E144.keep K1182
          have F168 := F145.keep K1182 (ninS ne_vv_f (ninS ne_vv_n nin0))
          have F169 := F146.keep K1182 (ninS ne_vv_f (ninS ne_vv_n nin0))
          exact J149  _ _ X165  E167 F168 F169 B1182 A1182
      refine go_iload C X20 158 rfl at_156 rfl ?_
      refine go_if_lt C X20 at_158 (pc' := 161) (pc2 := 169) rfl (by decide) (by decide) (fun (c158 : l2.toInt < 0) => ?_) (fun (c158 : 0 ≤ l2.toInt) => ?_)
      · exact J140  _ _ X20  E9 F8 F9 (by have q := HB0; unfold own_add0 at q; rw [if_pos c158] at q; have q1 := Option.some.inj q; have q2 := congrArg Prod.fst q1; dsimp only at q2; rw [← q2]; exact A8) (by have q := HB0; unfold own_add0 at q; rw [if_pos c158] at q; have q1 := Option.some.inj q; have q2 := congrArg Prod.snd q1; dsimp only at q2; rw [← q2]; exact A9)
      · refine go_aload C X20 163 rfl at_161 rfl rfl ?_
        refine go_iload C X20 165 rfl at_163 rfl ?_
        refine go_iconst C X20 166 rfl at_165 (z := 2) rfl ?_
        refine go_virtual C X20 E9 (C.w 23 rfl) (C.w 24 rfl) (notFace_of_selects (args := #[]) (mvT C.hZ (C.w 26 rfl))) (C.w 26 rfl) (C.w 25 rfl) (C.w 7 rfl) (C.w 27 rfl) (own_add l Z a0 C.ws vv l2 (2 : Int32) f n own_s0.1 own_s0.2 fB0 nB0 h21 n0 X20.old F8 F9 A8 A9 ne_f_n ne_vv_f ne_vv_n ga_f ga_n (own_pm p2 (Int.not_lt.mpr c158)).1 (by have := (own_pm p2 (Int.not_lt.mpr c158)).2; omega) (by decide) (by rw [lz.2]; decide) (by unfold own_add0 at HB0; rw [if_neg (Int.not_lt.mpr c158)] at HB0; exact HB0)) (argsL := [(.int l2), (.int (2 : Int32))]) (rest := []) (lenOf pd_2 rfl) rfl (by decide) (by decide) (Nat.le_of_ble_eq_true rfl) (by decide) (by decide) rfl rfl (pc' := 169) rfl at_166 ?_
        rintro T170 h172 _ ⟨rfl, K1169, B1169, A1169⟩ X171
        show Go p e below _ (T170.setTop (mkF m 169 #[iv a, iv b, iv sd, iv od, iv l0, iv l1, iv l2, iv tg, iv nd, iv tl, rv vv, un, un, un, un] []))
        have E173 := E9.keep K1169
        have F174 := F8.keep K1169 (ninS ne_vv_f (ninS ne_vv_n nin0))
        have F175 := F9.keep K1169 (ninS ne_vv_f (ninS ne_vv_n nin0))
        exact J140  _ _ X171  E173 F174 F175 B1169 A1169
    · skip
      have J176 : ∀  (T177 : State) (h179 : Heap) (X178 : St Z p l e room_1 s m #[(.int a), (.int b), (.int sd), (.int od)] below meth c n0 T177 h179 (0 + 1 + 2) (0 + 2 + 5))  (E180 : Exa Z h179 vv "com/example/waymarshal/waymarshal/replay/VacantVehicles") (F181 : Fld Z h179 vv "com/example/waymarshal/waymarshal/replay/VacantVehicles" "first" "[I" (.ref f)) (F182 : Fld Z h179 vv "com/example/waymarshal/waymarshal/replay/VacantVehicles" "next" "[I" (.ref n)) (A183 : La Z h179 f .int (ia fA0)) (A184 : La Z h179 n .int (ia nA0)), Go p e below (FinQ s room_1.cells room_1.slots n0 (fun v h' => v = some (.int 1))) (T177.setTop (mkF m 127 #[iv a, iv b, iv sd, iv od, iv l0, iv l1, iv l2, iv tg, iv nd, iv tl, rv vv, un, un, un, un] [])) := by
        intro  T177 h179 X178  E180 F181 F182 A183 A184
        have J185 : ∀  (T186 : State) (h188 : Heap) (X187 : St Z p l e room_1 s m #[(.int a), (.int b), (.int sd), (.int od)] below meth c n0 T186 h188 (0 + 1 + 2) (0 + 2 + 5))  (E189 : Exa Z h188 vv "com/example/waymarshal/waymarshal/replay/VacantVehicles") (F190 : Fld Z h188 vv "com/example/waymarshal/waymarshal/replay/VacantVehicles" "first" "[I" (.ref f)) (F191 : Fld Z h188 vv "com/example/waymarshal/waymarshal/replay/VacantVehicles" "next" "[I" (.ref n)) (A192 : La Z h188 f .int (ia fA1)) (A193 : La Z h188 n .int (ia nA1)), Go p e below (FinQ s room_1.cells room_1.slots n0 (fun v h' => v = some (.int 1))) (T186.setTop (mkF m 140 #[iv a, iv b, iv sd, iv od, iv l0, iv l1, iv l2, iv tg, iv nd, iv tl, rv vv, un, un, un, un] [])) := by
          intro  T186 h188 X187  E189 F190 F191 A192 A193
          refine go_iload C X187 142 rfl at_140 rfl ?_
          refine go_if_lt C X187 at_142 (pc' := 145) (pc2 := 195) rfl (by decide) (by decide) (fun (c142 : l2.toInt < 0) => ?_) (fun (c142 : 0 ≤ l2.toInt) => ?_)
          · exact J23  _ _ X187 fA2 nA2 lA2 HA E189 F190 F191 (by have q := HA2; unfold own_add0 at q; rw [if_pos c142] at q; have q1 := Option.some.inj q; have q2 := congrArg Prod.fst q1; dsimp only at q2; rw [← q2]; exact A192) (by have q := HA2; unfold own_add0 at q; rw [if_pos c142] at q; have q1 := Option.some.inj q; have q2 := congrArg Prod.snd q1; dsimp only at q2; rw [← q2]; exact A193)
          · refine go_aload C X187 147 rfl at_145 rfl rfl ?_
            refine go_iload C X187 149 rfl at_147 rfl ?_
            refine go_iconst C X187 150 rfl at_149 (z := 2) rfl ?_
            refine go_virtual C X187 E189 (C.w 23 rfl) (C.w 24 rfl) (notFace_of_selects (args := #[]) (mvT C.hZ (C.w 26 rfl))) (C.w 26 rfl) (C.w 25 rfl) (C.w 7 rfl) (C.w 27 rfl) (own_add l Z a0 C.ws vv l2 (2 : Int32) f n fA1 nA1 fA2 nA2 h188 n0 X187.old F190 F191 A192 A193 ne_f_n ne_vv_f ne_vv_n ga_f ga_n (own_pm p2 (Int.not_lt.mpr c142)).1 (by have := (own_pm p2 (Int.not_lt.mpr c142)).2; omega) (by decide) (by rw [lA1.2]; decide) (by unfold own_add0 at HA2; rw [if_neg (Int.not_lt.mpr c142)] at HA2; exact HA2)) (argsL := [(.int l2), (.int (2 : Int32))]) (rest := []) (lenOf pd_2 rfl) rfl (by decide) (by decide) (Nat.le_of_ble_eq_true rfl) (by decide) (by decide) rfl rfl (pc' := 153) rfl at_150 ?_
            rintro T194 h196 _ ⟨rfl, K1153, B1153, A1153⟩ X195
            show Go p e below _ (T194.setTop (mkF m 153 #[iv a, iv b, iv sd, iv od, iv l0, iv l1, iv l2, iv tg, iv nd, iv tl, rv vv, un, un, un, un] []))
            have E197 := E189.keep K1153
            have F198 := F190.keep K1153 (ninS ne_vv_f (ninS ne_vv_n nin0))
            have F199 := F191.keep K1153 (ninS ne_vv_f (ninS ne_vv_n nin0))
            refine go_goto C X195 at_153 (pc' := 195) (by decide) (by decide) ?_
            exact J23  _ _ X195 fA2 nA2 lA2 HA E197 F198 F199 B1153 A1153
        refine go_iload C X178 129 rfl at_127 rfl ?_
        refine go_if_lt C X178 at_129 (pc' := 132) (pc2 := 140) rfl (by decide) (by decide) (fun (c129 : l1.toInt < 0) => ?_) (fun (c129 : 0 ≤ l1.toInt) => ?_)
        · exact J185  _ _ X178  E180 F181 F182 (by have q := HA1; unfold own_add0 at q; rw [if_pos c129] at q; have q1 := Option.some.inj q; have q2 := congrArg Prod.fst q1; dsimp only at q2; rw [← q2]; exact A183) (by have q := HA1; unfold own_add0 at q; rw [if_pos c129] at q; have q1 := Option.some.inj q; have q2 := congrArg Prod.snd q1; dsimp only at q2; rw [← q2]; exact A184)
        · refine go_aload C X178 134 rfl at_132 rfl rfl ?_
          refine go_iload C X178 136 rfl at_134 rfl ?_
          refine go_iconst C X178 137 rfl at_136 (z := 1) rfl ?_
          refine go_virtual C X178 E180 (C.w 23 rfl) (C.w 24 rfl) (notFace_of_selects (args := #[]) (mvT C.hZ (C.w 26 rfl))) (C.w 26 rfl) (C.w 25 rfl) (C.w 7 rfl) (C.w 27 rfl) (own_add l Z a0 C.ws vv l1 (1 : Int32) f n fA0 nA0 fA1 nA1 h179 n0 X178.old F181 F182 A183 A184 ne_f_n ne_vv_f ne_vv_n ga_f ga_n (own_pm p1 (Int.not_lt.mpr c129)).1 (by have := (own_pm p1 (Int.not_lt.mpr c129)).2; omega) (by decide) (by rw [lA0.2]; decide) (by unfold own_add0 at HA1; rw [if_neg (Int.not_lt.mpr c129)] at HA1; exact HA1)) (argsL := [(.int l1), (.int (1 : Int32))]) (rest := []) (lenOf pd_2 rfl) rfl (by decide) (by decide) (Nat.le_of_ble_eq_true rfl) (by decide) (by decide) rfl rfl (pc' := 140) rfl at_137 ?_
          rintro T200 h202 _ ⟨rfl, K1140, B1140, A1140⟩ X201
          show Go p e below _ (T200.setTop (mkF m 140 #[iv a, iv b, iv sd, iv od, iv l0, iv l1, iv l2, iv tg, iv nd, iv tl, rv vv, un, un, un, un] []))
          have E203 := E180.keep K1140
          have F204 := F181.keep K1140 (ninS ne_vv_f (ninS ne_vv_n nin0))
          have F205 := F182.keep K1140 (ninS ne_vv_f (ninS ne_vv_n nin0))
          exact J185  _ _ X201  E203 F204 F205 B1140 A1140
      refine go_iload C X20 116 rfl at_114 rfl ?_
      refine go_if_lt C X20 at_116 (pc' := 119) (pc2 := 127) rfl (by decide) (by decide) (fun (c116 : l0.toInt < 0) => ?_) (fun (c116 : 0 ≤ l0.toInt) => ?_)
      · exact J176  _ _ X20  E9 F8 F9 (by have q := HA0; unfold own_add0 at q; rw [if_pos c116] at q; have q1 := Option.some.inj q; have q2 := congrArg Prod.fst q1; dsimp only at q2; rw [← q2]; exact A8) (by have q := HA0; unfold own_add0 at q; rw [if_pos c116] at q; have q1 := Option.some.inj q; have q2 := congrArg Prod.snd q1; dsimp only at q2; rw [← q2]; exact A9)
      · refine go_aload C X20 121 rfl at_119 rfl rfl ?_
        refine go_iload C X20 123 rfl at_121 rfl ?_
        refine go_iconst C X20 124 rfl at_123 (z := 0) rfl ?_
        refine go_virtual C X20 E9 (C.w 23 rfl) (C.w 24 rfl) (notFace_of_selects (args := #[]) (mvT C.hZ (C.w 26 rfl))) (C.w 26 rfl) (C.w 25 rfl) (C.w 7 rfl) (C.w 27 rfl) (own_add l Z a0 C.ws vv l0 (0 : Int32) f n own_s0.1 own_s0.2 fA0 nA0 h21 n0 X20.old F8 F9 A8 A9 ne_f_n ne_vv_f ne_vv_n ga_f ga_n (own_pm p0 (Int.not_lt.mpr c116)).1 (by have := (own_pm p0 (Int.not_lt.mpr c116)).2; omega) (by decide) (by rw [lz.2]; decide) (by unfold own_add0 at HA0; rw [if_neg (Int.not_lt.mpr c116)] at HA0; exact HA0)) (argsL := [(.int l0), (.int (0 : Int32))]) (rest := []) (lenOf pd_2 rfl) rfl (by decide) (by decide) (Nat.le_of_ble_eq_true rfl) (by decide) (by decide) rfl rfl (pc' := 127) rfl at_124 ?_
        rintro T206 h208 _ ⟨rfl, K1127, B1127, A1127⟩ X207
        show Go p e below _ (T206.setTop (mkF m 127 #[iv a, iv b, iv sd, iv od, iv l0, iv l1, iv l2, iv tg, iv nd, iv tl, rv vv, un, un, un, un] []))
        have E209 := E9.keep K1127
        have F210 := F8.keep K1127 (ninS ne_vv_f (ninS ne_vv_n nin0))
        have F211 := F9.keep K1127 (ninS ne_vv_f (ninS ne_vv_n nin0))
        exact J176  _ _ X207  E209 F210 F211 B1127 A1127
  clear etg
  have pnd' : nd = -1 ∨ nd = 0 ∨ nd = 1 := Or.inr pnd
  have n0' : 0 ≤ nd.toInt := by rcases pnd with rfl | rfl <;> decide
  rcases ptg with rfl | rfl | rfl
  · refine go_iload C X8 36 rfl at_34 rfl ?_
    refine go_if_ne C X8 at_36 (pc' := 39) (pc2 := 44) rfl (by decide) (by decide) (fun (c36 : ¬ (0 : Int32) = (0 : Int32)) => False.elim (by first | omega | exact absurd c36 (by decide))) (fun (c36 : (0 : Int32) = (0 : Int32)) => ?_)
    refine go_iload C X8 41 rfl at_39 rfl ?_
    refine go_goto C X8 at_41 (pc' := 57) (by decide) (by decide) ?_
    refine go_istore C X8 59 rfl at_57 #[iv a, iv b, iv sd, iv od, iv l0, iv l1, iv l2, iv (0 : Int32), iv nd, iv l0, un, un, un, un, un] rfl ?_
    refine go_iload C X8 61 rfl at_59 rfl ?_
    refine go_if_ge C X8 at_61 (pc' := 64) (pc2 := 97) rfl (by decide) (by decide) (fun (c61 : 0 ≤ l0.toInt) => ?_) (fun (c61 : l0.toInt < 0) => ?_)
    · exact J10 l0 l1 l2 l0 (⟨p0, p1, p2, rfl, c61⟩)
    · refine go_iload C X8 66 rfl at_64 rfl ?_
      refine go_istore C X8 68 rfl at_66 #[iv a, iv b, iv sd, iv od, iv l0, iv l1, iv l2, iv (0 : Int32), iv nd, iv nd, un, un, un, un, un] rfl ?_
      refine go_iload C X8 70 rfl at_68 rfl ?_
      refine go_if_ne C X8 at_70 (pc' := 73) (pc2 := 80) rfl (by decide) (by decide) (fun (c70 : ¬ (0 : Int32) = (0 : Int32)) => False.elim (by first | omega | exact absurd c70 (by decide))) (fun (c70 : (0 : Int32) = (0 : Int32)) => ?_)
      refine go_iload C X8 75 rfl at_73 rfl ?_
      refine go_istore C X8 77 rfl at_75 #[iv a, iv b, iv sd, iv od, iv nd, iv l1, iv l2, iv (0 : Int32), iv nd, iv nd, un, un, un, un, un] rfl ?_
      refine go_goto C X8 at_77 (pc' := 97) (by decide) (by decide) ?_
      exact J10 nd l1 l2 nd (⟨pnd', p1, p2, rfl, n0'⟩)
  · refine go_iload C X8 36 rfl at_34 rfl ?_
    refine go_if_ne C X8 at_36 (pc' := 39) (pc2 := 44) rfl (by decide) (by decide) (fun (c36 : ¬ (1 : Int32) = (0 : Int32)) => ?_) (fun (c36 : (1 : Int32) = (0 : Int32)) => False.elim (by first | omega | exact absurd c36 (by decide)))
    refine go_iload C X8 46 rfl at_44 rfl ?_
    refine go_iconst C X8 47 rfl at_46 (z := 1) rfl ?_
    refine go_icmp_ne C X8 at_47 (pc' := 50) (pc2 := 55) rfl (by decide) (by decide) (fun (c47 : ¬ (1 : Int32) = (1 : Int32)) => False.elim (by first | omega | exact absurd c47 (by decide))) (fun (c47 : (1 : Int32) = (1 : Int32)) => ?_)
    refine go_iload C X8 52 rfl at_50 rfl ?_
    refine go_goto C X8 at_52 (pc' := 57) (by decide) (by decide) ?_
    refine go_istore C X8 59 rfl at_57 #[iv a, iv b, iv sd, iv od, iv l0, iv l1, iv l2, iv (1 : Int32), iv nd, iv l1, un, un, un, un, un] rfl ?_
    refine go_iload C X8 61 rfl at_59 rfl ?_
    refine go_if_ge C X8 at_61 (pc' := 64) (pc2 := 97) rfl (by decide) (by decide) (fun (c61 : 0 ≤ l1.toInt) => ?_) (fun (c61 : l1.toInt < 0) => ?_)
    · exact J10 l0 l1 l2 l1 (⟨p0, p1, p2, rfl, c61⟩)
    · refine go_iload C X8 66 rfl at_64 rfl ?_
      refine go_istore C X8 68 rfl at_66 #[iv a, iv b, iv sd, iv od, iv l0, iv l1, iv l2, iv (1 : Int32), iv nd, iv nd, un, un, un, un, un] rfl ?_
      refine go_iload C X8 70 rfl at_68 rfl ?_
      refine go_if_ne C X8 at_70 (pc' := 73) (pc2 := 80) rfl (by decide) (by decide) (fun (c70 : ¬ (1 : Int32) = (0 : Int32)) => ?_) (fun (c70 : (1 : Int32) = (0 : Int32)) => False.elim (by first | omega | exact absurd c70 (by decide)))
      refine go_iload C X8 82 rfl at_80 rfl ?_
      refine go_iconst C X8 83 rfl at_82 (z := 1) rfl ?_
      refine go_icmp_ne C X8 at_83 (pc' := 86) (pc2 := 93) rfl (by decide) (by decide) (fun (c83 : ¬ (1 : Int32) = (1 : Int32)) => False.elim (by first | omega | exact absurd c83 (by decide))) (fun (c83 : (1 : Int32) = (1 : Int32)) => ?_)
      refine go_iload C X8 88 rfl at_86 rfl ?_
      refine go_istore C X8 90 rfl at_88 #[iv a, iv b, iv sd, iv od, iv l0, iv nd, iv l2, iv (1 : Int32), iv nd, iv nd, un, un, un, un, un] rfl ?_
      refine go_goto C X8 at_90 (pc' := 97) (by decide) (by decide) ?_
      exact J10 l0 nd l2 nd (⟨p0, pnd', p2, rfl, n0'⟩)
  · refine go_iload C X8 36 rfl at_34 rfl ?_
    refine go_if_ne C X8 at_36 (pc' := 39) (pc2 := 44) rfl (by decide) (by decide) (fun (c36 : ¬ (2 : Int32) = (0 : Int32)) => ?_) (fun (c36 : (2 : Int32) = (0 : Int32)) => False.elim (by first | omega | exact absurd c36 (by decide)))
    refine go_iload C X8 46 rfl at_44 rfl ?_
    refine go_iconst C X8 47 rfl at_46 (z := 1) rfl ?_
    refine go_icmp_ne C X8 at_47 (pc' := 50) (pc2 := 55) rfl (by decide) (by decide) (fun (c47 : ¬ (2 : Int32) = (1 : Int32)) => ?_) (fun (c47 : (2 : Int32) = (1 : Int32)) => False.elim (by first | omega | exact absurd c47 (by decide)))
    refine go_iload C X8 57 rfl at_55 rfl ?_
    refine go_istore C X8 59 rfl at_57 #[iv a, iv b, iv sd, iv od, iv l0, iv l1, iv l2, iv (2 : Int32), iv nd, iv l2, un, un, un, un, un] rfl ?_
    refine go_iload C X8 61 rfl at_59 rfl ?_
    refine go_if_ge C X8 at_61 (pc' := 64) (pc2 := 97) rfl (by decide) (by decide) (fun (c61 : 0 ≤ l2.toInt) => ?_) (fun (c61 : l2.toInt < 0) => ?_)
    · exact J10 l0 l1 l2 l2 (⟨p0, p1, p2, rfl, c61⟩)
    · refine go_iload C X8 66 rfl at_64 rfl ?_
      refine go_istore C X8 68 rfl at_66 #[iv a, iv b, iv sd, iv od, iv l0, iv l1, iv l2, iv (2 : Int32), iv nd, iv nd, un, un, un, un, un] rfl ?_
      refine go_iload C X8 70 rfl at_68 rfl ?_
      refine go_if_ne C X8 at_70 (pc' := 73) (pc2 := 80) rfl (by decide) (by decide) (fun (c70 : ¬ (2 : Int32) = (0 : Int32)) => ?_) (fun (c70 : (2 : Int32) = (0 : Int32)) => False.elim (by first | omega | exact absurd c70 (by decide)))
      refine go_iload C X8 82 rfl at_80 rfl ?_
      refine go_iconst C X8 83 rfl at_82 (z := 1) rfl ?_
      refine go_icmp_ne C X8 at_83 (pc' := 86) (pc2 := 93) rfl (by decide) (by decide) (fun (c83 : ¬ (2 : Int32) = (1 : Int32)) => ?_) (fun (c83 : (2 : Int32) = (1 : Int32)) => False.elim (by first | omega | exact absurd c83 (by decide)))
      refine go_iload C X8 95 rfl at_93 rfl ?_
      refine go_istore C X8 97 rfl at_95 #[iv a, iv b, iv sd, iv od, iv l0, iv l1, iv nd, iv (2 : Int32), iv nd, iv nd, un, un, un, un, un] rfl ?_
      exact J10 l0 l1 nd nd (⟨p0, p1, pnd', rfl, n0'⟩)
set_option maxRecDepth 65536 in
set_option maxHeartbeats 40000000 in
theorem comes_1 {Post : Tables → Env → Array Value → State → Outcome → State → Prop} (hpost : ∀ tb e args s v u, (limb_1_1.after args s (.returned v) u = true ∧ limb_1_2.after args s (.returned v) u = true ∧ True) → FrameEnd s (.returned v) u (Jvm.fieldLocs frame_1_writes args s ++ Jvm.arrayLocs frame_1_arrays args s ++ Jvm.staticLocs frame_1_statics s) 16 128 → Post tb e args s (.returned v) u) :
    ArmFor flags0 classFile x code maxLocals ret World_1 tables_1 room_1 Calls_1 rest_1 Pre_1 Post := by
  intro l hfl _ _ p e ha hc hk s m args below hf hA hF happ hP
  obtain ⟨hcalls, hrest, hpre⟩ := hP
  obtain ⟨-, -, -, hnamed, -, -, -, hat⟩ := (Spec.applies_iff hf).mp happ
  obtain ⟨hg, hn⟩ := and_e (Cond.before_iff.mp (show (Jvm.Cond.and given_1 narrow_1).before args s = true from hpre))
  obtain ⟨g1, g2⟩ := and_e hg
  obtain ⟨g3, g4⟩ := and_e g2
  obtain ⟨g5, g6⟩ := and_e g4
  obtain ⟨g7, g8⟩ := and_e g6
  obtain ⟨w0, w1, w2, w3, rfl⟩ : ∃ w0 w1 w2 w3 : Value, args = #[w0, w1, w2, w3] := by
    have hs : args.size = 4 := by simpa [Cond.value, given_1] using g1
    obtain ⟨L⟩ := args
    match L, hs with
    | [w0, w1, w2, w3], _ => exact ⟨w0, w1, w2, w3, rfl⟩
  have hw := fun d (hd : d ∈ tables_1) => atoms_spec (ws := Jvm.Cond.code x code maxLocals ret :: tables_1) hat d (List.mem_cons_of_mem _ hd)
  have hfit : Fit s := fun {y c} hc i hi => by
    obtain ⟨ha, rfl⟩ := Array.getElem?_eq_some_iff.mp hc
    have q := List.all_eq_true.mp ((Array.all_eq_true_iff_forall_mem.mp hF) _ (Array.getElem_mem ha)) i (List.mem_range.mpr hi)
    simpa [Array.getElem?_eq_getElem hi] using q
  obtain ⟨i0, ei0⟩ := is_v g3
  obtain rfl : w0 = (.int i0) := Option.some.inj ei0
  obtain ⟨i1, ei1⟩ := is_v g5
  obtain rfl : w1 = (.int i1) := Option.some.inj ei1
  obtain ⟨i2, ei2⟩ := is_v g7
  obtain rfl : w2 = (.int i2) := Option.some.inj ei2
  obtain ⟨i3, ei3⟩ := is_v g8
  obtain rfl : w3 = (.int i3) := Option.some.inj ei3
  obtain ⟨n, o, h1, h2, h3, _, L, rfl, ⟨N, rfl⟩, hq⟩ := own_law l s _ hw i0 i1 i2 i3  s.heap s.heap.size (Old.start s)  tables_1 p e ha hc hk s m _ below hf ((Spec.applies_iff_loose hf).mp happ).1 ⟨rfl, State.Warmed39.refl s, rfl⟩ trivial
  refine ⟨n, _, h1, h2, h3, hpost _ _ _ _ _ _ ⟨Cond.after_iff.mpr rfl, Cond.after_iff.mpr (eq_i res_at (Term.int_eval (1)) rfl), trivial⟩ ⟨hq.1, hq.2.1, (hq.2.2.sift fun y hy => Or.inr (N y hy)).mono (by decide) (by decide)⟩⟩
theorem main_1_1 : Claimed_1_1 := comes_1 fun _ _ _ _ _ _ h hF => ⟨h.1, hF⟩
theorem main_1_2 : Claimed_1_2 := comes_1 fun _ _ _ _ _ _ h hF => ⟨h.2.1, hF⟩

end Jvm.Pilot.@@N@@
namespace Jvm.Pilot.@@N@@
open Jvm Jvm.ClassFile Sem Op Lib Jvm.Free Jvm.Stand Jvm.Pilot.@@N@@.Jvm.D
/-! MADE BY PROGRAM (witnessworld.py) out of the Statement's table words and the real class files: 10 classes; the members and pool entries that the words name. The judged class is class 1, her method 4. -/
namespace start1
open Jvm.ClassFile
def u (s : String) : CpInfo := .utf8 (stringToUtf16 s)
/-- a pool by its gaps: so many unusable entries, then the entry; so many at the end -/
def gap : Nat → List CpInfo → List CpInfo
  | 0, r => r
  | n + 1, r => .unusable :: gap n r
def poolList (es : List (Nat × CpInfo)) (last : Nat) : List CpInfo := es.foldr (fun e r => gap e.1 (e.2 :: r)) (gap last [])
def pool (es : List (Nat × CpInfo)) (last : Nat) : Array CpInfo := ⟨poolList es last⟩
def fileOf (pool : Array CpInfo) (this : Nat) (attrs : Array Attribute := #[]) (ms : Array MethodInfo := #[]) (fl : Nat := 33) (sup : Nat := 0) (ifs : Array Nat := #[]) (fds : Array FieldInfo := #[]) : ClassFile where
  minorVersion := 0
  majorVersion := 65
  constantPool := pool
  accessFlags := fl
  thisClass := this
  superClass := sup
  interfaces := ifs
  fields := fds
  methods := ms
  attributes := attrs
def plain (name : String) (sup : Option ClassId) : Class where
  name := name
  kind := .ordinary
  loader := none
  accessFlags := 33
  super := sup
  interfaces := #[]
  cf := none
  fields := #[]
  methods := #[]
  instanceTypes := #[]
  staticTypes := #[]
  resolved := #[]
  callSites := []
  init := .initialized
  statics := none
  mirror := none

def pool0 : Array CpInfo := pool [(5, u "<init>"), (0, u "()V"), (1, .class_ 10), (1, u "java/lang/Object")] 113

def k0c0 : Code := { maxStack := 0, maxLocals := 1, code := object_method_1_code, exceptionTable := #[], attributes := #[] }
def k0m0 : Method := { name := "<init>", desc := "()V", sig := { parameters := [], returnType := none }, accessFlags := 1, code := some k0c0 }
/-- java/lang/Object -/
def k0 : Class := { plain "java/lang/Object" none with
  accessFlags := 33
  interfaces := #[]
  cf := some (fileOf pool0 8 #[] #[{ accessFlags := 1, nameIndex := 5, descriptorIndex := 6, attributes := #[] }] 33 0 #[] #[])
  fields := #[]
  methods := #[k0m0]
  instanceTypes := #[]
  staticTypes := #[]
  resolved := Array.replicate 124 none
  statics := none }

def pool1 : Array CpInfo := pool [(2, .class_ 4), (1, u "java/lang/Object"), (0, u "<init>"), (0, u "()V"), (0, .methodref 8 9), (0, .class_ 10), (0, .nameAndType 11 12), (0, u "com/example/waymarshal/waymarshal/replay/VacantVehiclesRemovePinLaw"), (0, u "place"), (0, u "(II)I"), (0, .integer 2147483647), (0, .class_ 15), (0, u "com/example/waymarshal/waymarshal/replay/VacantVehicles"), (0, .methodref 14 17), (0, .nameAndType 5 18), (0, u "(II)V"), (0, .methodref 14 20), (0, .nameAndType 21 18), (0, u "add"), (0, .methodref 14 23), (0, .nameAndType 24 18), (0, u "remove"), (0, .methodref 14 26), (0, .nameAndType 27 28), (0, u "first"), (0, u "(I)I"), (0, .methodref 8 30), (0, .nameAndType 31 32), (0, u "firstAt"), (0, u "(IIII)I"), (0, .methodref 14 34), (0, .nameAndType 35 28), (0, u "next"), (0, .methodref 8 37), (0, .nameAndType 38 32), (0, u "nextOf"), (3, u "law"), (0, u "(IIII)Z")] 2

def k1m0 : Method := { name := "<init>", desc := "()V", sig := { parameters := [], returnType := none }, accessFlags := 1, code := none }
def k1c1 : Code := { maxStack := 3, maxLocals := 3, code := method_2_code, exceptionTable := #[], attributes := #[] }
def k1m1 : Method := { name := "place", desc := "(II)I", sig := { parameters := [.int, .int], returnType := some .int }, accessFlags := 10, code := some k1c1 }
def k1c2 : Code := { maxStack := 2, maxLocals := 4, code := method_3_code, exceptionTable := #[], attributes := #[] }
def k1m2 : Method := { name := "firstAt", desc := "(IIII)I", sig := { parameters := [.int, .int, .int, .int], returnType := some .int }, accessFlags := 10, code := some k1c2 }
def k1c3 : Code := { maxStack := 2, maxLocals := 4, code := method_4_code, exceptionTable := #[], attributes := #[] }
def k1m3 : Method := { name := "nextOf", desc := "(IIII)I", sig := { parameters := [.int, .int, .int, .int], returnType := some .int }, accessFlags := 10, code := some k1c3 }
def k1c4 : Code := { maxStack := 5, maxLocals := 15, code := code, exceptionTable := #[], attributes := #[] }
def k1m4 : Method := { name := "law", desc := "(IIII)Z", sig := { parameters := [.int, .int, .int, .int], returnType := some .boolean }, accessFlags := 9, code := some k1c4 }
/-- com/example/waymarshal/waymarshal/replay/VacantVehiclesRemovePinLaw -/
def k1 : Class := { plain "com/example/waymarshal/waymarshal/replay/VacantVehiclesRemovePinLaw" (some 0) with
  accessFlags := 49
  interfaces := #[]
  cf := some (fileOf pool1 8 #[] #[{ accessFlags := 1, nameIndex := 5, descriptorIndex := 6, attributes := #[] }, { accessFlags := 10, nameIndex := 11, descriptorIndex := 12, attributes := #[] }, { accessFlags := 10, nameIndex := 31, descriptorIndex := 32, attributes := #[] }, { accessFlags := 10, nameIndex := 38, descriptorIndex := 32, attributes := #[] }, { accessFlags := 9, nameIndex := 42, descriptorIndex := 43, attributes := #[] }] 49 2 #[] #[])
  fields := #[]
  methods := #[k1m0, k1m1, k1m2, k1m3, k1m4]
  instanceTypes := #[]
  staticTypes := #[]
  resolved := Array.replicate 46 none
  statics := none }

def pool2 : Array CpInfo := pool [(1, .methodref 2 3), (0, .class_ 4), (0, .nameAndType 5 6), (0, u "java/lang/Object"), (0, u "<init>"), (0, u "()V"), (0, .fieldref 8 9), (0, .class_ 10), (0, .nameAndType 11 12), (0, u "com/example/waymarshal/waymarshal/replay/VacantVehicles"), (0, u "first"), (0, u "[I"), (0, .fieldref 8 14), (0, .nameAndType 15 12), (0, u "next"), (0, .methodref 17 18), (0, .class_ 19), (0, .nameAndType 20 21), (0, u "java/util/Arrays"), (0, u "fill"), (0, u "([II)V"), (0, u "(II)V"), (2, u "add"), (1, u "remove"), (0, u "(I)I")] 2

def k2c0 : Code := { maxStack := 2, maxLocals := 3, code := prog_68_method_1_code, exceptionTable := #[], attributes := #[] }
def k2m0 : Method := { name := "<init>", desc := "(II)V", sig := { parameters := [.int, .int], returnType := none }, accessFlags := 0, code := some k2c0 }
def k2c1 : Code := { maxStack := 3, maxLocals := 5, code := prog_68_method_2_code, exceptionTable := #[], attributes := #[] }
def k2m1 : Method := { name := "add", desc := "(II)V", sig := { parameters := [.int, .int], returnType := none }, accessFlags := 0, code := some k2c1 }
def k2c2 : Code := { maxStack := 4, maxLocals := 4, code := prog_68_method_3_code, exceptionTable := #[], attributes := #[] }
def k2m2 : Method := { name := "remove", desc := "(II)V", sig := { parameters := [.int, .int], returnType := none }, accessFlags := 0, code := some k2c2 }
def k2c3 : Code := { maxStack := 2, maxLocals := 2, code := prog_68_method_4_code, exceptionTable := #[], attributes := #[] }
def k2m3 : Method := { name := "first", desc := "(I)I", sig := { parameters := [.int], returnType := some .int }, accessFlags := 0, code := some k2c3 }
def k2c4 : Code := { maxStack := 2, maxLocals := 2, code := prog_68_method_5_code, exceptionTable := #[], attributes := #[] }
def k2m4 : Method := { name := "next", desc := "(I)I", sig := { parameters := [.int], returnType := some .int }, accessFlags := 0, code := some k2c4 }
/-- com/example/waymarshal/waymarshal/replay/VacantVehicles -/
def k2 : Class := { plain "com/example/waymarshal/waymarshal/replay/VacantVehicles" (some 0) with
  accessFlags := 48
  interfaces := #[]
  cf := some (fileOf pool2 8 #[] #[{ accessFlags := 0, nameIndex := 5, descriptorIndex := 22, attributes := #[] }, { accessFlags := 0, nameIndex := 25, descriptorIndex := 22, attributes := #[] }, { accessFlags := 0, nameIndex := 27, descriptorIndex := 22, attributes := #[] }, { accessFlags := 0, nameIndex := 11, descriptorIndex := 28, attributes := #[] }, { accessFlags := 0, nameIndex := 15, descriptorIndex := 28, attributes := #[] }] 48 2 #[] #[{ accessFlags := 18, nameIndex := 11, descriptorIndex := 12, attributes := #[] }, { accessFlags := 18, nameIndex := 15, descriptorIndex := 12, attributes := #[] }])
  fields := #[{ name := "first", type := (.array .int), accessFlags := 18, slot := 0, constantValue := 0 }, { name := "next", type := (.array .int), accessFlags := 18, slot := 1, constantValue := 0 }]
  methods := #[k2m0, k2m1, k2m2, k2m3, k2m4]
  instanceTypes := #[(.array .int), (.array .int)]
  staticTypes := #[]
  resolved := Array.replicate 31 none
  statics := none }

def pool3 : Array CpInfo := pool [(2, .class_ 4), (1, u "java/lang/Object"), (0, u "<init>"), (0, u "()V"), (7, .class_ 16), (1, u "java/util/Arrays"), (57, .class_ 76), (1, u "java/util/Arrays$NaturalOrder"), (36, .class_ 115), (1, u "java/util/Arrays$LegacyMergeSort"), (1, u "Z"), (257, .class_ 376), (0, u "java/util/Arrays$ArrayList"), (68, u "$assertionsDisabled"), (269, u "MIN_ARRAY_SORT_GRAN"), (0, u "I"), (2, u "INSERTIONSORT_THRESHOLD"), (120, u "fill"), (4, u "([II)V"), (129, .class_ 976), (0, u "java/util/Arrays$ArrayItr")] 52

def k3m0 : Method := { name := "<init>", desc := "()V", sig := { parameters := [], returnType := none }, accessFlags := 2, code := none }
def k3c1 : Code := { maxStack := 3, maxLocals := 4, code := jdk_65_method_103_code, exceptionTable := #[], attributes := #[] }
def k3m1 : Method := { name := "fill", desc := "([II)V", sig := { parameters := [(.array .int), .int], returnType := none }, accessFlags := 9, code := some k3c1 }
/-- java/util/Arrays -/
def k3 : Class := { plain "java/util/Arrays" (some 0) with
  accessFlags := 49
  interfaces := #[]
  cf := some (fileOf pool3 14 #[.nestMembers #[975, 375, 113, 74]] #[{ accessFlags := 2, nameIndex := 5, descriptorIndex := 6, attributes := #[] }, { accessFlags := 9, nameIndex := 840, descriptorIndex := 845, attributes := #[] }] 49 2 #[] #[{ accessFlags := 26, nameIndex := 715, descriptorIndex := 716, attributes := #[] }, { accessFlags := 26, nameIndex := 719, descriptorIndex := 716, attributes := #[] }, { accessFlags := 4120, nameIndex := 445, descriptorIndex := 117, attributes := #[] }])
  fields := #[{ name := "MIN_ARRAY_SORT_GRAN", type := .int, accessFlags := 26, slot := 0, constantValue := 0 }, { name := "INSERTIONSORT_THRESHOLD", type := .int, accessFlags := 26, slot := 1, constantValue := 0 }, { name := "$assertionsDisabled", type := .boolean, accessFlags := 4120, slot := 2, constantValue := 0 }]
  methods := #[k3m0, k3m1]
  instanceTypes := #[]
  staticTypes := #[.int, .int, .boolean]
  resolved := Array.replicate 1029 none
  statics := none }

def pool4 : Array CpInfo := pool [(1, u "java/lang/Cloneable"), (0, .class_ 1), (0, u "java/lang/Object"), (0, .class_ 3)] 3

/-- java/lang/Cloneable -/
def k4 : Class := { plain "java/lang/Cloneable" (some 0) with
  accessFlags := 1537
  interfaces := #[]
  cf := some (fileOf pool4 2 #[] #[] 1537 4 #[] #[])
  fields := #[]
  methods := #[]
  instanceTypes := #[]
  staticTypes := #[]
  resolved := Array.replicate 8 none
  statics := none }

def pool5 : Array CpInfo := pool [(1, u "java/io/Serializable"), (0, .class_ 1), (0, u "java/lang/Object"), (0, .class_ 3)] 3

/-- java/io/Serializable -/
def k5 : Class := { plain "java/io/Serializable" (some 0) with
  accessFlags := 1537
  interfaces := #[]
  cf := some (fileOf pool5 2 #[] #[] 1537 4 #[] #[])
  fields := #[]
  methods := #[]
  instanceTypes := #[]
  staticTypes := #[]
  resolved := Array.replicate 8 none
  statics := none }

/-- the primitive byte -/
def k6 : Class := { plain "byte" none with kind := .primitive 'B', accessFlags := 0x411 }
/-- [B -/
def k7 : Class := { plain "[B" (some 0) with kind := .array 6 .byte, interfaces := #[4, 5], accessFlags := 1041 }

/-- the primitive int -/
def k8 : Class := { plain "int" none with kind := .primitive 'I', accessFlags := 0x411 }
/-- [I -/
def k9 : Class := { plain "[I" (some 0) with kind := .array 8 .int, interfaces := #[4, 5], accessFlags := 1041 }

def heap : Heap := #[]
def classes : Array Class := #[k0, k1, k2, k3, k4, k5, k6, k7, k8, k9]
def interned : List (Array UInt16 × Addr) := []
def slotsUsed : Nat := 0
def theMethod : MethodId := ⟨1, 4⟩
def args0 : Array Value := #[.int 5, .int 7, .int 1, .int 0]
def aboutOver (below : List Frame) : State where
  vm := { classes := classes, interned := interned.toArray }
  heap := heap
  slotsUsed := slotsUsed
  threads := #[{ frames := .invoking theMethod args0 :: below }]
def below0 : List Frame := [.native { method := ⟨0, 0⟩, args := #[] }]
def about1 : State := aboutOver below0
def p0 : Program := .bare "" "" ""
def e0 : Env := launch0.env 0 0 0
theorem w_frames : about1.frames = Frame.invoking theMethod args0 :: below0 := rfl
set_option maxRecDepth 65536 in
theorem w_args : argsFit about1.vm theMethod args0 = true := by decide +kernel
set_option maxRecDepth 65536 in
theorem w_heap : heapFits about1 = true := by decide +kernel
set_option maxRecDepth 65536 in
theorem w_runnable : about1.curStatus? = some .runnable := by decide +kernel
set_option maxRecDepth 65536 in
theorem w_alone : about1.alone = true := by decide +kernel
set_option maxRecDepth 65536 in
theorem w_named : about1.methodNamed? x = some theMethod := by decide +kernel
set_option maxRecDepth 65536 in
theorem w_hears : about1.hears theMethod below0 = true := by decide +kernel
set_option maxRecDepth 65536 in
theorem w_ripe : about1.ripe theMethod args0 below0 = true := by decide +kernel
theorem w_running : about1.status = .running := rfl
set_option maxRecDepth 65536 in
theorem w_room : about1.hasRoom e0.platform room_1 = true :=
  launch0.hasRoom_least _ room_1 (by decide +kernel) (by decide +kernel) (by decide +kernel) (by decide +kernel) (by decide +kernel) (by decide +kernel)
theorem allAtoms_all (ts : List Jvm.Cond) (a : Array Jvm.Value) (st : Jvm.State) : (allAtoms ts).before a st = ts.all (fun c => c.before a st) := by
  induction ts with
  | nil => rfl
  | cons c t ih =>
    show (Jvm.Cond.and c (allAtoms t)).before a st = _
    rw [Jvm.Cond.before_and, ih, List.all_cons]
def words1 : List Jvm.Cond := Jvm.Cond.code x code maxLocals ret :: tables_1
/-- a 'code' word, met by the world's own term for the bytes: nothing is compared byte by byte -/
theorem code_word {y : MethodName} {bytes : ByteArray} {mx : Nat} {rt : Option FieldType} {a : Array Value} {s : State} {m : MethodId} {meth : Method} {c : Code} (h1 : s.methodNamed? y = some m) (h2 : s.vm.method? m = some meth) (h3 : meth.code = some c) (h4 : c.code = bytes)
    (h5 : (c.maxLocals == mx && c.exceptionTable.isEmpty && decide (c.maxStack ≤ mostOperands) && decide (meth.sig.returnType = rt) && !meth.locks && decide (parseMethodDescriptor y.desc = some meth.sig)) = true) : (Jvm.Cond.code y bytes mx rt).before a s = true := by
  simp only [Bool.and_eq_true, beq_iff_eq, Bool.not_eq_true', decide_eq_true_eq] at h5
  obtain ⟨⟨⟨⟨⟨g1, g2⟩, g3⟩, g4⟩, g5⟩, g6⟩ := h5
  simp [Cond.before, Cond.holds, Cond.value, h1, h2, h3, h4, g1, g2, g3, g4, g5, g6]
def isCode : Jvm.Cond → Bool
  | .code _ _ _ _ => true
  | _ => false
theorem all_split {L : List Jvm.Cond} {P : Jvm.Cond → Bool} (h1 : L.all (fun c => isCode c || P c) = true) (h2 : ∀ c ∈ L.filter isCode, P c = true) : L.all P = true := by
  refine List.all_eq_true.mpr fun c hc => ?_
  have h := List.all_eq_true.mp h1 c hc
  rcases Bool.eq_false_or_eq_true (isCode c) with hi | hi
  · exact h2 c (List.mem_filter.mpr ⟨hc, hi⟩)
  · simpa [hi] using h
set_option maxRecDepth 65536 in
theorem w_c0 : (Jvm.Cond.code x code maxLocals ret).before args0 about1 = true := code_word (m := ⟨1, 4⟩) (meth := k1m4) (c := k1c4) (by decide +kernel) rfl rfl rfl (by decide +kernel)
set_option maxRecDepth 65536 in
theorem w_c1 : (Jvm.Cond.code ({ cls := "com/example/waymarshal/waymarshal/replay/VacantVehiclesRemovePinLaw", name := "place", desc := "(II)I" } : Jvm.MethodName) method_2_code (3 : Nat) (Option.some Jvm.ClassFile.FieldType.int)).before args0 about1 = true := code_word (m := ⟨1, 1⟩) (meth := k1m1) (c := k1c1) (by decide +kernel) rfl rfl rfl (by decide +kernel)
set_option maxRecDepth 65536 in
theorem w_c2 : (Jvm.Cond.code ({ cls := "com/example/waymarshal/waymarshal/replay/VacantVehicles", name := "<init>", desc := "(II)V" } : Jvm.MethodName) prog_68_method_1_code (3 : Nat) (Option.none : Option Jvm.ClassFile.FieldType)).before args0 about1 = true := code_word (m := ⟨2, 0⟩) (meth := k2m0) (c := k2c0) (by decide +kernel) rfl rfl rfl (by decide +kernel)
set_option maxRecDepth 65536 in
theorem w_c3 : (Jvm.Cond.code ({ cls := "java/lang/Object", name := "<init>", desc := "()V" } : Jvm.MethodName) object_method_1_code (1 : Nat) (Option.none : Option Jvm.ClassFile.FieldType)).before args0 about1 = true := code_word (m := ⟨0, 0⟩) (meth := k0m0) (c := k0c0) (by decide +kernel) rfl rfl rfl (by decide +kernel)
set_option maxRecDepth 65536 in
theorem w_c4 : (Jvm.Cond.code ({ cls := "java/util/Arrays", name := "fill", desc := "([II)V" } : Jvm.MethodName) jdk_65_method_103_code (4 : Nat) (Option.none : Option Jvm.ClassFile.FieldType)).before args0 about1 = true := code_word (m := ⟨3, 1⟩) (meth := k3m1) (c := k3c1) (by decide +kernel) rfl rfl rfl (by decide +kernel)
set_option maxRecDepth 65536 in
theorem w_c5 : (Jvm.Cond.code ({ cls := "com/example/waymarshal/waymarshal/replay/VacantVehicles", name := "add", desc := "(II)V" } : Jvm.MethodName) prog_68_method_2_code (5 : Nat) (Option.none : Option Jvm.ClassFile.FieldType)).before args0 about1 = true := code_word (m := ⟨2, 1⟩) (meth := k2m1) (c := k2c1) (by decide +kernel) rfl rfl rfl (by decide +kernel)
set_option maxRecDepth 65536 in
theorem w_c6 : (Jvm.Cond.code ({ cls := "com/example/waymarshal/waymarshal/replay/VacantVehicles", name := "remove", desc := "(II)V" } : Jvm.MethodName) prog_68_method_3_code (4 : Nat) (Option.none : Option Jvm.ClassFile.FieldType)).before args0 about1 = true := code_word (m := ⟨2, 2⟩) (meth := k2m2) (c := k2c2) (by decide +kernel) rfl rfl rfl (by decide +kernel)
set_option maxRecDepth 65536 in
theorem w_c7 : (Jvm.Cond.code ({ cls := "com/example/waymarshal/waymarshal/replay/VacantVehicles", name := "first", desc := "(I)I" } : Jvm.MethodName) prog_68_method_4_code (2 : Nat) (Option.some Jvm.ClassFile.FieldType.int)).before args0 about1 = true := code_word (m := ⟨2, 3⟩) (meth := k2m3) (c := k2c3) (by decide +kernel) rfl rfl rfl (by decide +kernel)
set_option maxRecDepth 65536 in
theorem w_c8 : (Jvm.Cond.code ({ cls := "com/example/waymarshal/waymarshal/replay/VacantVehiclesRemovePinLaw", name := "firstAt", desc := "(IIII)I" } : Jvm.MethodName) method_3_code (4 : Nat) (Option.some Jvm.ClassFile.FieldType.int)).before args0 about1 = true := code_word (m := ⟨1, 2⟩) (meth := k1m2) (c := k1c2) (by decide +kernel) rfl rfl rfl (by decide +kernel)
set_option maxRecDepth 65536 in
theorem w_c9 : (Jvm.Cond.code ({ cls := "com/example/waymarshal/waymarshal/replay/VacantVehicles", name := "next", desc := "(I)I" } : Jvm.MethodName) prog_68_method_5_code (2 : Nat) (Option.some Jvm.ClassFile.FieldType.int)).before args0 about1 = true := code_word (m := ⟨2, 4⟩) (meth := k2m4) (c := k2c4) (by decide +kernel) rfl rfl rfl (by decide +kernel)
set_option maxRecDepth 65536 in
theorem w_c10 : (Jvm.Cond.code ({ cls := "com/example/waymarshal/waymarshal/replay/VacantVehiclesRemovePinLaw", name := "nextOf", desc := "(IIII)I" } : Jvm.MethodName) method_4_code (4 : Nat) (Option.some Jvm.ClassFile.FieldType.int)).before args0 about1 = true := code_word (m := ⟨1, 3⟩) (meth := k1m3) (c := k1c3) (by decide +kernel) rfl rfl rfl (by decide +kernel)
def codes1 : List Jvm.Cond := [Jvm.Cond.code x code maxLocals ret, Jvm.Cond.code ({ cls := "com/example/waymarshal/waymarshal/replay/VacantVehiclesRemovePinLaw", name := "place", desc := "(II)I" } : Jvm.MethodName) method_2_code (3 : Nat) (Option.some Jvm.ClassFile.FieldType.int), Jvm.Cond.code ({ cls := "com/example/waymarshal/waymarshal/replay/VacantVehicles", name := "<init>", desc := "(II)V" } : Jvm.MethodName) prog_68_method_1_code (3 : Nat) (Option.none : Option Jvm.ClassFile.FieldType), Jvm.Cond.code ({ cls := "java/lang/Object", name := "<init>", desc := "()V" } : Jvm.MethodName) object_method_1_code (1 : Nat) (Option.none : Option Jvm.ClassFile.FieldType), Jvm.Cond.code ({ cls := "java/util/Arrays", name := "fill", desc := "([II)V" } : Jvm.MethodName) jdk_65_method_103_code (4 : Nat) (Option.none : Option Jvm.ClassFile.FieldType), Jvm.Cond.code ({ cls := "com/example/waymarshal/waymarshal/replay/VacantVehicles", name := "add", desc := "(II)V" } : Jvm.MethodName) prog_68_method_2_code (5 : Nat) (Option.none : Option Jvm.ClassFile.FieldType), Jvm.Cond.code ({ cls := "com/example/waymarshal/waymarshal/replay/VacantVehicles", name := "remove", desc := "(II)V" } : Jvm.MethodName) prog_68_method_3_code (4 : Nat) (Option.none : Option Jvm.ClassFile.FieldType), Jvm.Cond.code ({ cls := "com/example/waymarshal/waymarshal/replay/VacantVehicles", name := "first", desc := "(I)I" } : Jvm.MethodName) prog_68_method_4_code (2 : Nat) (Option.some Jvm.ClassFile.FieldType.int), Jvm.Cond.code ({ cls := "com/example/waymarshal/waymarshal/replay/VacantVehiclesRemovePinLaw", name := "firstAt", desc := "(IIII)I" } : Jvm.MethodName) method_3_code (4 : Nat) (Option.some Jvm.ClassFile.FieldType.int), Jvm.Cond.code ({ cls := "com/example/waymarshal/waymarshal/replay/VacantVehicles", name := "next", desc := "(I)I" } : Jvm.MethodName) prog_68_method_5_code (2 : Nat) (Option.some Jvm.ClassFile.FieldType.int), Jvm.Cond.code ({ cls := "com/example/waymarshal/waymarshal/replay/VacantVehiclesRemovePinLaw", name := "nextOf", desc := "(IIII)I" } : Jvm.MethodName) method_4_code (4 : Nat) (Option.some Jvm.ClassFile.FieldType.int)]
set_option maxRecDepth 65536 in
theorem codes_eq : words1.filter isCode = codes1 := rfl
theorem w_codes : ∀ c ∈ words1.filter isCode, c.before args0 about1 = true := by
  rw [codes_eq]
  intro c hc
  simp only [codes1, List.mem_cons, List.not_mem_nil, or_false] at hc
  rcases hc with rfl | rfl | rfl | rfl | rfl | rfl | rfl | rfl | rfl | rfl | rfl
  · exact w_c0
  · exact w_c1
  · exact w_c2
  · exact w_c3
  · exact w_c4
  · exact w_c5
  · exact w_c6
  · exact w_c7
  · exact w_c8
  · exact w_c9
  · exact w_c10
set_option maxRecDepth 65536 in
theorem w_t1 : (words1.take 24).all (fun c => isCode c || c.before args0 about1) = true := by decide +kernel
set_option maxRecDepth 65536 in
theorem w_t2 : ((words1.drop 24).take 24).all (fun c => isCode c || c.before args0 about1) = true := by decide +kernel
set_option maxRecDepth 65536 in
theorem w_t3 : ((words1.drop 24).drop 24).all (fun c => isCode c || c.before args0 about1) = true := by decide +kernel
theorem w_tables : (allAtoms (Jvm.Cond.code x code maxLocals ret :: tables_1)).before args0 about1 = true := by
  rw [allAtoms_all]
  show words1.all (fun c => c.before args0 about1) = true
  refine all_split ?_ w_codes
  rw [← List.take_append_drop 24 words1, List.all_append, w_t1, ← List.take_append_drop 24 (words1.drop 24), List.all_append, w_t2, w_t3]
  rfl
set_option maxRecDepth 65536 in
theorem w_case : (Jvm.Cond.and given_1 narrow_1).before args0 about1 = true := by decide +kernel
theorem w_applies : (headSpec (Jvm.Cond.code x code maxLocals ret :: tables_1) room_1).applies x e0.platform about1 = true :=
  (Spec.applies_iff w_frames).mpr ⟨w_running, w_runnable, w_alone, w_named, w_hears, w_ripe, w_room, w_tables⟩
theorem atStart : AtStart classFile x code maxLocals ret World_1 tables_1 room_1 Calls_1 rest_1 Pre_1 launch0 p0 e0 about1 theMethod args0 below0 :=
  ⟨lists_1, trivial, launch0.admits_env _ _ _, launch0.least_env, fairChoices_fair.cas, fairChoices_fair.clock, w_frames, w_args, w_heap, w_applies, trivial, trivial, w_case⟩
end start1
theorem witness_1 : WitnessClaimed_1 := ⟨start1.p0, start1.e0, start1.about1, start1.theMethod, start1.args0, start1.below0, start1.atStart⟩
end Jvm.Pilot.@@N@@
