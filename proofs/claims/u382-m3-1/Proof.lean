import JvmDerived
import JvmDerived.Pilot.@@N@@Statement
import JvmDerived.Pilot.@@N@@Code
set_option linter.unusedVariables false
set_option linter.unusedSimpArgs false
namespace Jvm.Pilot.@@N@@
open Jvm Jvm.ClassFile Sem Op Lib Jvm.Free Jvm.Stand Jvm.LawKit Jvm.RoadKit Bundle Jvm.Pilot.@@N@@.Jvm.D
/-! ## the common layer: a run that comes to an end of which Q speaks, step by step backwards -/
def Go (p : Program) (e : Env) (below : List Frame) (Q : Outcome → State → Prop) (S : State) : Prop :=
  ∃ s₂ o, Steps p.tables e below S s₂ ∧ s₂.status = .running ∧ Ended s₂ below o ∧ Q o s₂
theorem Go.back {p : Program} {e : Env} {below : List Frame} {Q : Outcome → State → Prop} {A B : State} (k : ∀ t, Steps p.tables e below B t → Steps p.tables e below A t) (h : Go p e below Q B) : Go p e below Q A := by
  obtain ⟨t, o, h1, h2⟩ := h
  exact ⟨t, o, k _ h1, h2⟩
theorem Go.cast {p : Program} {e : Env} {below : List Frame} {Q : Outcome → State → Prop} {A B : State} (k : A = B) (h : Go p e below Q B) : Go p e below Q A := k ▸ h
abbrev jv (x : Int64) : Slot := .val (.long x)
abbrev dv (x : UInt64) : Slot := .val (.double x)
abbrev un : Slot := .unset
abbrev sc : Slot := .second
/-- what a body knows of itself -/
def Cx (p : Program) (s : State) (m : MethodId) (meth : Method) (c : Code) (Z : State) (a0 : Array Value) (own : String) (bytes : ByteArray) (maxL : Nat) (ret : Option FieldType) (nm : String) : Prop :=
  p.tables.exec = Jvm.exec ∧ Z.Warmed39 s.vm ∧ (∀ d ∈ tables_1, d.before a0 Z = true) ∧ s.vm.findClass own = some m.cls ∧ c.code = bytes ∧ c.maxLocals = maxL ∧ meth.sig.returnType = ret ∧ meth.locks = false ∧ meth.name = nm
/-- where the run stands: heap h; every write so far lies at or above n0; k cells and n slots made at the most -/
def St (Z : State) (p : Program) (l : Launch) (e : Env) (R : Room) (s : State) (m : MethodId) (args : Array Value) (below : List Frame) (meth : Method) (c : Code) (n0 : Nat) (T : State) (h : Heap) (k n : Nat) : Prop :=
  ∃ locs, Stand p l e R s m args below meth c T locs k n ∧ Fr n0 locs ∧ Old Z n0 s.heap ∧ T.heap = h
def FinQ (s : State) (k n n0 : Nat) (Q : Option Value → Heap → Prop) (o : Outcome) (t : State) : Prop := ∃ v L, o = .returned v ∧ (Fr n0 L ∧ Q v t.heap) ∧ FrameEnd s o t L k n
/-- a body's contract -/
def Con (l : Launch) (Z : State) (y : MethodName) (bytes : ByteArray) (maxL : Nat) (ret : Option FieldType) (rm : Room) (as' : Array Value) (h : Heap) (n0 : Nat) (Q : Option Value → Heap → Prop) : Prop :=
  ∀ ws, MetFree l y (head1 (Jvm.Cond.code y bytes maxL ret :: ws) rm) (fun a U => a = as' ∧ Z.Warmed39 U.vm ∧ U.heap = h) (fun _ _ _ _ _ => True) (fun _ U o U' => ∃ v L, o = .returned v ∧ (Fr n0 L ∧ Q v U'.heap) ∧ FrameEnd U o U' L rm.cells rm.slots)
theorem con_of {l : Launch} {Z : State} {a0 : Array Value} {y : MethodName} {bytes : ByteArray} {maxL : Nat} {ret : Option FieldType} {rm : Room} {as' : Array Value} {h : Heap} {n0 : Nat} {Q : Option Value → Heap → Prop}
    (hw : ∀ d ∈ tables_1, d.before a0 Z = true) (hpl : plainFor y = true) (hn0 : Old Z n0 h)
    (body : ∀ p e s m below meth c T, Cx p s m meth c Z a0 y.cls bytes maxL ret y.name → St Z p l e rm s m as' below meth c n0 T h 0 0 → Go p e below (FinQ s rm.cells rm.slots n0 Q) (T.setTop (entryFrame m as' maxL))) :
    Con l Z y bytes maxL ret rm as' h n0 Q := by
  intro ws
  refine MetFree.of_bodySF hpl hisR ?_
  intro p e s m args below meth c s₁ Bd hml0 hP hK
  obtain ⟨rfl, hZ, hh⟩ := hP
  have e0 : s₁.heap = h := by rw [← hh, Bd.state]; rfl
  exact body p e s m below meth c s₁ ⟨Bd.exec, hZ, hw, findClass_of_methodNamed Bd.named, Bd.bytes, hml0, Bd.returns, Bd.notSynchronized, (name_of_methodNamed Bd.named Bd.method).1⟩ ⟨[], Stand.of_body Bd, Fr.nil n0, by rw [hh]; exact hn0, e0⟩
section Steps1
variable {p : Program} {l : Launch} {e : Env} {R : Room} {s : State} {m : MethodId} {args : Array Value} {below : List Frame} {meth : Method} {c : Code} {Z : State} {a0 : Array Value} {own : String} {bytes : ByteArray} {maxL : Nat} {ret : Option FieldType} {nm : String} {n0 : Nat} {T : State} {h : Heap} {k n : Nat} {Q : Outcome → State → Prop} {pc pc' pc2 : Nat} {Ls Ls' : Array Slot} {st : List Value}
theorem Cx.w (C : Cx p s m meth c Z a0 own bytes maxL ret nm) (i : Nat) {d : Jvm.Cond} (hd : tables_1[i]? = some d) : d.before a0 Z = true := C.2.2.1 _ (List.mem_of_getElem? hd)
theorem Cx.ws (C : Cx p s m meth c Z a0 own bytes maxL ret nm) : ∀ d ∈ tables_1, d.before a0 Z = true := C.2.2.1
theorem Cx.cd (C : Cx p s m meth c Z a0 own bytes maxL ret nm) {r : Except ClassFile.DecodeError (ClassFile.Instr × Nat)} (h2 : decode bytes pc = r) : decode c.code pc = r := hb C.2.2.2.2.1 h2
theorem Cx.ow (C : Cx p s m meth c Z a0 own bytes maxL ret nm) : s.vm.findClass own = some m.cls := C.2.2.2.1
theorem Cx.hZ (C : Cx p s m meth c Z a0 own bytes maxL ret nm) : Z.Warmed39 s.vm := C.2.1
theorem Cx.ml (C : Cx p s m meth c Z a0 own bytes maxL ret nm) : c.maxLocals = maxL := C.2.2.2.2.2.1
theorem Cx.rt (C : Cx p s m meth c Z a0 own bytes maxL ret nm) : meth.sig.returnType = ret := C.2.2.2.2.2.2.1
theorem Cx.lk (C : Cx p s m meth c Z a0 own bytes maxL ret nm) : meth.locks = false := C.2.2.2.2.2.2.2.1
theorem Cx.nmE (C : Cx p s m meth c Z a0 own bytes maxL ret nm) : meth.name = nm := C.2.2.2.2.2.2.2.2
theorem St.sz (X : St Z p l e R s m args below meth c n0 T h k n) : n0 ≤ h.size := by obtain ⟨_, Y, _, q, rfl⟩ := X; exact Nat.le_trans (Nat.le_trans (Nat.le_of_eq q.1.symm) q.2.1) Y.same.2.1
theorem St.old (X : St Z p l e R s m args below meth c n0 T h k n) : Old Z n0 h := by
  obtain ⟨locs, Y, N, o, rfl⟩ := X
  refine ⟨o.1, Nat.le_trans o.2.1 Y.same.2.1, fun a ce hc => ?_⟩
  obtain ⟨c', e1, e2, e3, e4⟩ := Y.same.2.2.2.2.2 a ce (o.2.2 a ce hc)
  have lt := (Array.getElem?_eq_some_iff.mp hc).1
  have hs : c'.slots = ce.slots := Array.ext_getElem? fun i => e4 i fun q => by have := N _ q; have := o.1; simp at *; omega
  rw [hs] at e2
  exact (show c' = ce from e2) ▸ e1
theorem St.more (X : St Z p l e R s m args below meth c n0 T h k n) {k' n' : Nat} (hk : k ≤ k') (hn : n ≤ n') : St Z p l e R s m args below meth c n0 T h k' n' := by
  obtain ⟨locs, Y, r⟩ := X
  exact ⟨locs, Y.more hk hn, r⟩

theorem go_iload (C : Cx p s m meth c Z a0 own bytes maxL ret nm) (X : St Z p l e R s m args below meth c n0 T h k n) {i : Nat} {v : Int32} (pc' : Nat) (hp : pc + 2 = pc') (hd : decode bytes pc = .ok (.iload i, 2)) (hl : Ls[i]? = some (.val (.int v))) (hr : Go p e below Q (T.setTop (mkF m pc' Ls (.int v :: st)))) : Go p e below Q (T.setTop (mkF m pc Ls st)) := by
  subst hp
  obtain ⟨locs, Y, -, -, -⟩ := X
  exact Go.back (fun t kt => Jvm.Free.XS.iload Y.here C.1 rfl (C.cd hd) hl kt) hr
theorem go_iloadN (C : Cx p s m meth c Z a0 own bytes maxL ret nm) (X : St Z p l e R s m args below meth c n0 T h k n) {i : Fin 4} {v : Int32} (pc' : Nat) (hp : pc + 1 = pc') (hd : decode bytes pc = .ok (.iload_n i, 1)) (hl : Ls[i.val]? = some (.val (.int v))) (hr : Go p e below Q (T.setTop (mkF m pc' Ls (.int v :: st)))) : Go p e below Q (T.setTop (mkF m pc Ls st)) := by
  subst hp
  obtain ⟨locs, Y, -, -, -⟩ := X
  exact Go.back (fun t kt => Jvm.Free.XS.iloadN Y.here C.1 rfl (C.cd hd) hl kt) hr
theorem go_istore (C : Cx p s m meth c Z a0 own bytes maxL ret nm) (X : St Z p l e R s m args below meth c n0 T h k n) {i : Nat} {v : Int32} (pc' : Nat) (hp : pc + 2 = pc') (hd : decode bytes pc = .ok (.istore i, 2)) (Ls' : Array Slot) (hl : storeLocals Ls i (.int v) = some Ls') (hr : Go p e below Q (T.setTop (mkF m pc' Ls' st))) : Go p e below Q (T.setTop (mkF m pc Ls (.int v :: st))) := by
  subst hp
  obtain ⟨locs, Y, -, -, -⟩ := X
  exact Go.back (fun t kt => Jvm.Free.XS.istore Y.here C.1 rfl (C.cd hd) rfl hl kt) hr
theorem go_istoreN (C : Cx p s m meth c Z a0 own bytes maxL ret nm) (X : St Z p l e R s m args below meth c n0 T h k n) {i : Fin 4} {v : Int32} (pc' : Nat) (hp : pc + 1 = pc') (hd : decode bytes pc = .ok (.istore_n i, 1)) (Ls' : Array Slot) (hl : storeLocals Ls i.val (.int v) = some Ls') (hr : Go p e below Q (T.setTop (mkF m pc' Ls' st))) : Go p e below Q (T.setTop (mkF m pc Ls (.int v :: st))) := by
  subst hp
  obtain ⟨locs, Y, -, -, -⟩ := X
  exact Go.back (fun t kt => Jvm.Free.XS.istoreN Y.here C.1 rfl (C.cd hd) rfl hl kt) hr
theorem go_lload (C : Cx p s m meth c Z a0 own bytes maxL ret nm) (X : St Z p l e R s m args below meth c n0 T h k n) {i : Nat} {v : Int64} (pc' : Nat) (hp : pc + 2 = pc') (hd : decode bytes pc = .ok (.lload i, 2)) (hl : Ls[i]? = some (.val (.long v))) (hr : Go p e below Q (T.setTop (mkF m pc' Ls (.long v :: st)))) : Go p e below Q (T.setTop (mkF m pc Ls st)) := by
  subst hp
  obtain ⟨locs, Y, -, -, -⟩ := X
  exact Go.back (fun t kt => Jvm.Free.XS.lload Y.here C.1 rfl (C.cd hd) hl kt) hr
theorem go_lloadN (C : Cx p s m meth c Z a0 own bytes maxL ret nm) (X : St Z p l e R s m args below meth c n0 T h k n) {i : Fin 4} {v : Int64} (pc' : Nat) (hp : pc + 1 = pc') (hd : decode bytes pc = .ok (.lload_n i, 1)) (hl : Ls[i.val]? = some (.val (.long v))) (hr : Go p e below Q (T.setTop (mkF m pc' Ls (.long v :: st)))) : Go p e below Q (T.setTop (mkF m pc Ls st)) := by
  subst hp
  obtain ⟨locs, Y, -, -, -⟩ := X
  exact Go.back (fun t kt => Jvm.Free.XS.lloadN Y.here C.1 rfl (C.cd hd) hl kt) hr
theorem go_lstore (C : Cx p s m meth c Z a0 own bytes maxL ret nm) (X : St Z p l e R s m args below meth c n0 T h k n) {i : Nat} {v : Int64} (pc' : Nat) (hp : pc + 2 = pc') (hd : decode bytes pc = .ok (.lstore i, 2)) (Ls' : Array Slot) (hl : storeLocals Ls i (.long v) = some Ls') (hr : Go p e below Q (T.setTop (mkF m pc' Ls' st))) : Go p e below Q (T.setTop (mkF m pc Ls (.long v :: st))) := by
  subst hp
  obtain ⟨locs, Y, -, -, -⟩ := X
  exact Go.back (fun t kt => Jvm.Free.XS.lstore Y.here C.1 rfl (C.cd hd) rfl hl kt) hr
theorem go_lstoreN (C : Cx p s m meth c Z a0 own bytes maxL ret nm) (X : St Z p l e R s m args below meth c n0 T h k n) {i : Fin 4} {v : Int64} (pc' : Nat) (hp : pc + 1 = pc') (hd : decode bytes pc = .ok (.lstore_n i, 1)) (Ls' : Array Slot) (hl : storeLocals Ls i.val (.long v) = some Ls') (hr : Go p e below Q (T.setTop (mkF m pc' Ls' st))) : Go p e below Q (T.setTop (mkF m pc Ls (.long v :: st))) := by
  subst hp
  obtain ⟨locs, Y, -, -, -⟩ := X
  exact Go.back (fun t kt => Jvm.Free.XS.lstoreN Y.here C.1 rfl (C.cd hd) rfl hl kt) hr
theorem go_aload (C : Cx p s m meth c Z a0 own bytes maxL ret nm) (X : St Z p l e R s m args below meth c n0 T h k n) {i : Nat} {v : Value} (pc' : Nat) (hp : pc + 2 = pc') (hd : decode bytes pc = .ok (.aload i, 2)) (hl : Ls[i]? = some (.val v)) (hv : v.isRef = true) (hr : Go p e below Q (T.setTop (mkF m pc' Ls (v :: st)))) : Go p e below Q (T.setTop (mkF m pc Ls st)) := by
  subst hp
  obtain ⟨locs, Y, -, -, -⟩ := X
  exact Go.back (fun t kt => Jvm.Free.XS.aload Y.here C.1 rfl (C.cd hd) hl hv kt) hr
theorem go_aloadN (C : Cx p s m meth c Z a0 own bytes maxL ret nm) (X : St Z p l e R s m args below meth c n0 T h k n) {i : Fin 4} {v : Value} (pc' : Nat) (hp : pc + 1 = pc') (hd : decode bytes pc = .ok (.aload_n i, 1)) (hl : Ls[i.val]? = some (.val v)) (hv : v.isRef = true) (hr : Go p e below Q (T.setTop (mkF m pc' Ls (v :: st)))) : Go p e below Q (T.setTop (mkF m pc Ls st)) := by
  subst hp
  obtain ⟨locs, Y, -, -, -⟩ := X
  exact Go.back (fun t kt => Jvm.Free.XS.aloadN Y.here C.1 rfl (C.cd hd) hl hv kt) hr
theorem go_astore (C : Cx p s m meth c Z a0 own bytes maxL ret nm) (X : St Z p l e R s m args below meth c n0 T h k n) {i : Nat} {v : Value} (pc' : Nat) (hp : pc + 2 = pc') (hd : decode bytes pc = .ok (.astore i, 2)) (hv : v.isRef = true) (Ls' : Array Slot) (hl : storeLocals Ls i v = some Ls') (hr : Go p e below Q (T.setTop (mkF m pc' Ls' st))) : Go p e below Q (T.setTop (mkF m pc Ls (v :: st))) := by
  subst hp
  obtain ⟨locs, Y, -, -, -⟩ := X
  exact Go.back (fun t kt => Jvm.Free.XS.astore Y.here C.1 rfl (C.cd hd) rfl hv hl kt) hr
theorem go_astoreN (C : Cx p s m meth c Z a0 own bytes maxL ret nm) (X : St Z p l e R s m args below meth c n0 T h k n) {i : Fin 4} {v : Value} (pc' : Nat) (hp : pc + 1 = pc') (hd : decode bytes pc = .ok (.astore_n i, 1)) (hv : v.isRef = true) (Ls' : Array Slot) (hl : storeLocals Ls i.val v = some Ls') (hr : Go p e below Q (T.setTop (mkF m pc' Ls' st))) : Go p e below Q (T.setTop (mkF m pc Ls (v :: st))) := by
  subst hp
  obtain ⟨locs, Y, -, -, -⟩ := X
  exact Go.back (fun t kt => Jvm.Free.XS.astoreN Y.here C.1 rfl (C.cd hd) rfl hv hl kt) hr
theorem go_iconst (C : Cx p s m meth c Z a0 own bytes maxL ret nm) (X : St Z p l e R s m args below meth c n0 T h k n) {i : Int} {z : Int32} (pc' : Nat) (hp : pc + 1 = pc') (hd : decode bytes pc = .ok (.iconst i, 1)) (hz : Int32.ofInt i = z) (hr : Go p e below Q (T.setTop (mkF m pc' Ls (.int z :: st)))) : Go p e below Q (T.setTop (mkF m pc Ls st)) := by
  subst hp
  obtain ⟨locs, Y, -, -, -⟩ := X
  exact Go.back (fun t kt => by subst hz; exact Jvm.Free.XS.iconst Y.here C.1 rfl (C.cd hd) kt) hr
theorem go_bipush (C : Cx p s m meth c Z a0 own bytes maxL ret nm) (X : St Z p l e R s m args below meth c n0 T h k n) {i : Int} {z : Int32} (pc' : Nat) (hp : pc + 2 = pc') (hd : decode bytes pc = .ok (.bipush i, 2)) (hz : (Int8.ofInt i).toInt32 = z) (hr : Go p e below Q (T.setTop (mkF m pc' Ls (.int z :: st)))) : Go p e below Q (T.setTop (mkF m pc Ls st)) := by
  subst hp
  obtain ⟨locs, Y, -, -, -⟩ := X
  exact Go.back (fun t kt => by subst hz; exact Jvm.Free.XS.bipush Y.here C.1 rfl (C.cd hd) kt) hr
theorem go_sipush (C : Cx p s m meth c Z a0 own bytes maxL ret nm) (X : St Z p l e R s m args below meth c n0 T h k n) {i : Int} {z : Int32} (pc' : Nat) (hp : pc + 3 = pc') (hd : decode bytes pc = .ok (.sipush i, 3)) (hz : (Int16.ofInt i).toInt32 = z) (hr : Go p e below Q (T.setTop (mkF m pc' Ls (.int z :: st)))) : Go p e below Q (T.setTop (mkF m pc Ls st)) := by
  subst hp
  obtain ⟨locs, Y, -, -, -⟩ := X
  exact Go.back (fun t kt => by subst hz; exact Jvm.Free.XS.sipush Y.here C.1 rfl (C.cd hd) kt) hr
theorem go_lconst (C : Cx p s m meth c Z a0 own bytes maxL ret nm) (X : St Z p l e R s m args below meth c n0 T h k n) {i : Fin 2} {z : Int64} (pc' : Nat) (hp : pc + 1 = pc') (hd : decode bytes pc = .ok (.lconst i, 1)) (hz : Int64.ofNat i = z) (hr : Go p e below Q (T.setTop (mkF m pc' Ls (.long z :: st)))) : Go p e below Q (T.setTop (mkF m pc Ls st)) := by
  subst hp
  obtain ⟨locs, Y, -, -, -⟩ := X
  exact Go.back (fun t kt => by subst hz; exact Jvm.Free.XS.lconst Y.here C.1 rfl (C.cd hd) kt) hr
theorem go_aconstNull (C : Cx p s m meth c Z a0 own bytes maxL ret nm) (X : St Z p l e R s m args below meth c n0 T h k n)  (pc' : Nat) (hp : pc + 1 = pc') (hd : decode bytes pc = .ok (.aconst_null, 1)) (hr : Go p e below Q (T.setTop (mkF m pc' Ls (.null :: st)))) : Go p e below Q (T.setTop (mkF m pc Ls st)) := by
  subst hp
  obtain ⟨locs, Y, -, -, -⟩ := X
  exact Go.back (fun t kt => Jvm.Free.XS.aconstNull Y.here C.1 rfl (C.cd hd) kt) hr
theorem go_iaddL (C : Cx p s m meth c Z a0 own bytes maxL ret nm) (X : St Z p l e R s m args below meth c n0 T h k n) {x y z : Int32} (pc' : Nat) (hp : pc + 1 = pc') (hd : decode bytes pc = .ok (.iadd, 1)) (hz : x + y = z) (hr : Go p e below Q (T.setTop (mkF m pc' Ls (.int z :: st)))) : Go p e below Q (T.setTop (mkF m pc Ls (.int y :: .int x :: st))) := by
  subst hp
  obtain ⟨locs, Y, -, -, -⟩ := X
  exact Go.back (fun t kt => by subst hz; exact Jvm.Free.XS.iadd Y.here C.1 rfl (C.cd hd) rfl kt) hr
theorem go_iadd (C : Cx p s m meth c Z a0 own bytes maxL ret nm) (X : St Z p l e R s m args below meth c n0 T h k n) {x y : Int32} (pc' : Nat) (hp : pc + 1 = pc') (hd : decode bytes pc = .ok (.iadd, 1)) (hr : Go p e below Q (T.setTop (mkF m pc' Ls (.int (x + y) :: st)))) : Go p e below Q (T.setTop (mkF m pc Ls (.int y :: .int x :: st))) := by
  subst hp
  obtain ⟨locs, Y, -, -, -⟩ := X
  exact Go.back (fun t kt => Jvm.Free.XS.iadd Y.here C.1 rfl (C.cd hd) rfl kt) hr
theorem go_isubL (C : Cx p s m meth c Z a0 own bytes maxL ret nm) (X : St Z p l e R s m args below meth c n0 T h k n) {x y z : Int32} (pc' : Nat) (hp : pc + 1 = pc') (hd : decode bytes pc = .ok (.isub, 1)) (hz : x - y = z) (hr : Go p e below Q (T.setTop (mkF m pc' Ls (.int z :: st)))) : Go p e below Q (T.setTop (mkF m pc Ls (.int y :: .int x :: st))) := by
  subst hp
  obtain ⟨locs, Y, -, -, -⟩ := X
  exact Go.back (fun t kt => by subst hz; exact Jvm.Free.XS.isub Y.here C.1 rfl (C.cd hd) rfl kt) hr
theorem go_isub (C : Cx p s m meth c Z a0 own bytes maxL ret nm) (X : St Z p l e R s m args below meth c n0 T h k n) {x y : Int32} (pc' : Nat) (hp : pc + 1 = pc') (hd : decode bytes pc = .ok (.isub, 1)) (hr : Go p e below Q (T.setTop (mkF m pc' Ls (.int (x - y) :: st)))) : Go p e below Q (T.setTop (mkF m pc Ls (.int y :: .int x :: st))) := by
  subst hp
  obtain ⟨locs, Y, -, -, -⟩ := X
  exact Go.back (fun t kt => Jvm.Free.XS.isub Y.here C.1 rfl (C.cd hd) rfl kt) hr
theorem go_imulL (C : Cx p s m meth c Z a0 own bytes maxL ret nm) (X : St Z p l e R s m args below meth c n0 T h k n) {x y z : Int32} (pc' : Nat) (hp : pc + 1 = pc') (hd : decode bytes pc = .ok (.imul, 1)) (hz : x * y = z) (hr : Go p e below Q (T.setTop (mkF m pc' Ls (.int z :: st)))) : Go p e below Q (T.setTop (mkF m pc Ls (.int y :: .int x :: st))) := by
  subst hp
  obtain ⟨locs, Y, -, -, -⟩ := X
  exact Go.back (fun t kt => by subst hz; exact Jvm.Free.XS.imul Y.here C.1 rfl (C.cd hd) rfl kt) hr
theorem go_imul (C : Cx p s m meth c Z a0 own bytes maxL ret nm) (X : St Z p l e R s m args below meth c n0 T h k n) {x y : Int32} (pc' : Nat) (hp : pc + 1 = pc') (hd : decode bytes pc = .ok (.imul, 1)) (hr : Go p e below Q (T.setTop (mkF m pc' Ls (.int (x * y) :: st)))) : Go p e below Q (T.setTop (mkF m pc Ls (.int y :: .int x :: st))) := by
  subst hp
  obtain ⟨locs, Y, -, -, -⟩ := X
  exact Go.back (fun t kt => Jvm.Free.XS.imul Y.here C.1 rfl (C.cd hd) rfl kt) hr
theorem go_iandL (C : Cx p s m meth c Z a0 own bytes maxL ret nm) (X : St Z p l e R s m args below meth c n0 T h k n) {x y z : Int32} (pc' : Nat) (hp : pc + 1 = pc') (hd : decode bytes pc = .ok (.iand, 1)) (hz : x &&& y = z) (hr : Go p e below Q (T.setTop (mkF m pc' Ls (.int z :: st)))) : Go p e below Q (T.setTop (mkF m pc Ls (.int y :: .int x :: st))) := by
  subst hp
  obtain ⟨locs, Y, -, -, -⟩ := X
  exact Go.back (fun t kt => by subst hz; exact Jvm.Free.XS.iand Y.here C.1 rfl (C.cd hd) rfl kt) hr
theorem go_iand (C : Cx p s m meth c Z a0 own bytes maxL ret nm) (X : St Z p l e R s m args below meth c n0 T h k n) {x y : Int32} (pc' : Nat) (hp : pc + 1 = pc') (hd : decode bytes pc = .ok (.iand, 1)) (hr : Go p e below Q (T.setTop (mkF m pc' Ls (.int (x &&& y) :: st)))) : Go p e below Q (T.setTop (mkF m pc Ls (.int y :: .int x :: st))) := by
  subst hp
  obtain ⟨locs, Y, -, -, -⟩ := X
  exact Go.back (fun t kt => Jvm.Free.XS.iand Y.here C.1 rfl (C.cd hd) rfl kt) hr
theorem go_iorL (C : Cx p s m meth c Z a0 own bytes maxL ret nm) (X : St Z p l e R s m args below meth c n0 T h k n) {x y z : Int32} (pc' : Nat) (hp : pc + 1 = pc') (hd : decode bytes pc = .ok (.ior, 1)) (hz : x ||| y = z) (hr : Go p e below Q (T.setTop (mkF m pc' Ls (.int z :: st)))) : Go p e below Q (T.setTop (mkF m pc Ls (.int y :: .int x :: st))) := by
  subst hp
  obtain ⟨locs, Y, -, -, -⟩ := X
  exact Go.back (fun t kt => by subst hz; exact Jvm.Free.XS.ior Y.here C.1 rfl (C.cd hd) rfl kt) hr
theorem go_ior (C : Cx p s m meth c Z a0 own bytes maxL ret nm) (X : St Z p l e R s m args below meth c n0 T h k n) {x y : Int32} (pc' : Nat) (hp : pc + 1 = pc') (hd : decode bytes pc = .ok (.ior, 1)) (hr : Go p e below Q (T.setTop (mkF m pc' Ls (.int (x ||| y) :: st)))) : Go p e below Q (T.setTop (mkF m pc Ls (.int y :: .int x :: st))) := by
  subst hp
  obtain ⟨locs, Y, -, -, -⟩ := X
  exact Go.back (fun t kt => Jvm.Free.XS.ior Y.here C.1 rfl (C.cd hd) rfl kt) hr
theorem go_ixorL (C : Cx p s m meth c Z a0 own bytes maxL ret nm) (X : St Z p l e R s m args below meth c n0 T h k n) {x y z : Int32} (pc' : Nat) (hp : pc + 1 = pc') (hd : decode bytes pc = .ok (.ixor, 1)) (hz : x ^^^ y = z) (hr : Go p e below Q (T.setTop (mkF m pc' Ls (.int z :: st)))) : Go p e below Q (T.setTop (mkF m pc Ls (.int y :: .int x :: st))) := by
  subst hp
  obtain ⟨locs, Y, -, -, -⟩ := X
  exact Go.back (fun t kt => by subst hz; exact Jvm.Free.XS.ixor Y.here C.1 rfl (C.cd hd) rfl kt) hr
theorem go_ixor (C : Cx p s m meth c Z a0 own bytes maxL ret nm) (X : St Z p l e R s m args below meth c n0 T h k n) {x y : Int32} (pc' : Nat) (hp : pc + 1 = pc') (hd : decode bytes pc = .ok (.ixor, 1)) (hr : Go p e below Q (T.setTop (mkF m pc' Ls (.int (x ^^^ y) :: st)))) : Go p e below Q (T.setTop (mkF m pc Ls (.int y :: .int x :: st))) := by
  subst hp
  obtain ⟨locs, Y, -, -, -⟩ := X
  exact Go.back (fun t kt => Jvm.Free.XS.ixor Y.here C.1 rfl (C.cd hd) rfl kt) hr
theorem go_idiv (C : Cx p s m meth c Z a0 own bytes maxL ret nm) (X : St Z p l e R s m args below meth c n0 T h k n) {x y : Int32} (pc' : Nat) (hp : pc + 1 = pc') (hd : decode bytes pc = .ok (.idiv, 1)) (hy : y ≠ 0) (hr : Go p e below Q (T.setTop (mkF m pc' Ls (.int (x / y) :: st)))) : Go p e below Q (T.setTop (mkF m pc Ls (.int y :: .int x :: st))) := by
  subst hp
  obtain ⟨locs, Y, -, -, -⟩ := X
  exact Go.back (fun t kt => Jvm.Free.XS.idiv Y.here C.1 rfl (C.cd hd) rfl hy kt) hr
theorem go_ineg (C : Cx p s m meth c Z a0 own bytes maxL ret nm) (X : St Z p l e R s m args below meth c n0 T h k n) {x : Int32} (pc' : Nat) (hp : pc + 1 = pc') (hd : decode bytes pc = .ok (.ineg, 1)) (hr : Go p e below Q (T.setTop (mkF m pc' Ls (.int (-x) :: st)))) : Go p e below Q (T.setTop (mkF m pc Ls (.int x :: st))) := by
  subst hp
  obtain ⟨locs, Y, -, -, -⟩ := X
  exact Go.back (fun t kt => Jvm.Free.XS.ineg Y.here C.1 rfl (C.cd hd) rfl kt) hr
theorem go_laddL (C : Cx p s m meth c Z a0 own bytes maxL ret nm) (X : St Z p l e R s m args below meth c n0 T h k n) {x y z : Int64} (pc' : Nat) (hp : pc + 1 = pc') (hd : decode bytes pc = .ok (.ladd, 1)) (hz : x + y = z) (hr : Go p e below Q (T.setTop (mkF m pc' Ls (.long z :: st)))) : Go p e below Q (T.setTop (mkF m pc Ls (.long y :: .long x :: st))) := by
  subst hp
  obtain ⟨locs, Y, -, -, -⟩ := X
  exact Go.back (fun t kt => by subst hz; exact Jvm.Free.XS.ladd Y.here C.1 rfl (C.cd hd) rfl kt) hr
theorem go_ladd (C : Cx p s m meth c Z a0 own bytes maxL ret nm) (X : St Z p l e R s m args below meth c n0 T h k n) {x y : Int64} (pc' : Nat) (hp : pc + 1 = pc') (hd : decode bytes pc = .ok (.ladd, 1)) (hr : Go p e below Q (T.setTop (mkF m pc' Ls (.long (x + y) :: st)))) : Go p e below Q (T.setTop (mkF m pc Ls (.long y :: .long x :: st))) := by
  subst hp
  obtain ⟨locs, Y, -, -, -⟩ := X
  exact Go.back (fun t kt => Jvm.Free.XS.ladd Y.here C.1 rfl (C.cd hd) rfl kt) hr
theorem go_lsubL (C : Cx p s m meth c Z a0 own bytes maxL ret nm) (X : St Z p l e R s m args below meth c n0 T h k n) {x y z : Int64} (pc' : Nat) (hp : pc + 1 = pc') (hd : decode bytes pc = .ok (.lsub, 1)) (hz : x - y = z) (hr : Go p e below Q (T.setTop (mkF m pc' Ls (.long z :: st)))) : Go p e below Q (T.setTop (mkF m pc Ls (.long y :: .long x :: st))) := by
  subst hp
  obtain ⟨locs, Y, -, -, -⟩ := X
  exact Go.back (fun t kt => by subst hz; exact Jvm.Free.XS.lsub Y.here C.1 rfl (C.cd hd) rfl kt) hr
theorem go_lsub (C : Cx p s m meth c Z a0 own bytes maxL ret nm) (X : St Z p l e R s m args below meth c n0 T h k n) {x y : Int64} (pc' : Nat) (hp : pc + 1 = pc') (hd : decode bytes pc = .ok (.lsub, 1)) (hr : Go p e below Q (T.setTop (mkF m pc' Ls (.long (x - y) :: st)))) : Go p e below Q (T.setTop (mkF m pc Ls (.long y :: .long x :: st))) := by
  subst hp
  obtain ⟨locs, Y, -, -, -⟩ := X
  exact Go.back (fun t kt => Jvm.Free.XS.lsub Y.here C.1 rfl (C.cd hd) rfl kt) hr
theorem go_lmulL (C : Cx p s m meth c Z a0 own bytes maxL ret nm) (X : St Z p l e R s m args below meth c n0 T h k n) {x y z : Int64} (pc' : Nat) (hp : pc + 1 = pc') (hd : decode bytes pc = .ok (.lmul, 1)) (hz : x * y = z) (hr : Go p e below Q (T.setTop (mkF m pc' Ls (.long z :: st)))) : Go p e below Q (T.setTop (mkF m pc Ls (.long y :: .long x :: st))) := by
  subst hp
  obtain ⟨locs, Y, -, -, -⟩ := X
  exact Go.back (fun t kt => by subst hz; exact Jvm.Free.XS.lmul Y.here C.1 rfl (C.cd hd) rfl kt) hr
theorem go_lmul (C : Cx p s m meth c Z a0 own bytes maxL ret nm) (X : St Z p l e R s m args below meth c n0 T h k n) {x y : Int64} (pc' : Nat) (hp : pc + 1 = pc') (hd : decode bytes pc = .ok (.lmul, 1)) (hr : Go p e below Q (T.setTop (mkF m pc' Ls (.long (x * y) :: st)))) : Go p e below Q (T.setTop (mkF m pc Ls (.long y :: .long x :: st))) := by
  subst hp
  obtain ⟨locs, Y, -, -, -⟩ := X
  exact Go.back (fun t kt => Jvm.Free.XS.lmul Y.here C.1 rfl (C.cd hd) rfl kt) hr
theorem go_landL (C : Cx p s m meth c Z a0 own bytes maxL ret nm) (X : St Z p l e R s m args below meth c n0 T h k n) {x y z : Int64} (pc' : Nat) (hp : pc + 1 = pc') (hd : decode bytes pc = .ok (.land, 1)) (hz : x &&& y = z) (hr : Go p e below Q (T.setTop (mkF m pc' Ls (.long z :: st)))) : Go p e below Q (T.setTop (mkF m pc Ls (.long y :: .long x :: st))) := by
  subst hp
  obtain ⟨locs, Y, -, -, -⟩ := X
  exact Go.back (fun t kt => by subst hz; exact Jvm.Free.XS.land Y.here C.1 rfl (C.cd hd) rfl kt) hr
theorem go_land (C : Cx p s m meth c Z a0 own bytes maxL ret nm) (X : St Z p l e R s m args below meth c n0 T h k n) {x y : Int64} (pc' : Nat) (hp : pc + 1 = pc') (hd : decode bytes pc = .ok (.land, 1)) (hr : Go p e below Q (T.setTop (mkF m pc' Ls (.long (x &&& y) :: st)))) : Go p e below Q (T.setTop (mkF m pc Ls (.long y :: .long x :: st))) := by
  subst hp
  obtain ⟨locs, Y, -, -, -⟩ := X
  exact Go.back (fun t kt => Jvm.Free.XS.land Y.here C.1 rfl (C.cd hd) rfl kt) hr
theorem go_lorL (C : Cx p s m meth c Z a0 own bytes maxL ret nm) (X : St Z p l e R s m args below meth c n0 T h k n) {x y z : Int64} (pc' : Nat) (hp : pc + 1 = pc') (hd : decode bytes pc = .ok (.lor, 1)) (hz : x ||| y = z) (hr : Go p e below Q (T.setTop (mkF m pc' Ls (.long z :: st)))) : Go p e below Q (T.setTop (mkF m pc Ls (.long y :: .long x :: st))) := by
  subst hp
  obtain ⟨locs, Y, -, -, -⟩ := X
  exact Go.back (fun t kt => by subst hz; exact Jvm.Free.XS.lor Y.here C.1 rfl (C.cd hd) rfl kt) hr
theorem go_lor (C : Cx p s m meth c Z a0 own bytes maxL ret nm) (X : St Z p l e R s m args below meth c n0 T h k n) {x y : Int64} (pc' : Nat) (hp : pc + 1 = pc') (hd : decode bytes pc = .ok (.lor, 1)) (hr : Go p e below Q (T.setTop (mkF m pc' Ls (.long (x ||| y) :: st)))) : Go p e below Q (T.setTop (mkF m pc Ls (.long y :: .long x :: st))) := by
  subst hp
  obtain ⟨locs, Y, -, -, -⟩ := X
  exact Go.back (fun t kt => Jvm.Free.XS.lor Y.here C.1 rfl (C.cd hd) rfl kt) hr
theorem go_lxorL (C : Cx p s m meth c Z a0 own bytes maxL ret nm) (X : St Z p l e R s m args below meth c n0 T h k n) {x y z : Int64} (pc' : Nat) (hp : pc + 1 = pc') (hd : decode bytes pc = .ok (.lxor, 1)) (hz : x ^^^ y = z) (hr : Go p e below Q (T.setTop (mkF m pc' Ls (.long z :: st)))) : Go p e below Q (T.setTop (mkF m pc Ls (.long y :: .long x :: st))) := by
  subst hp
  obtain ⟨locs, Y, -, -, -⟩ := X
  exact Go.back (fun t kt => by subst hz; exact Jvm.Free.XS.lxor Y.here C.1 rfl (C.cd hd) rfl kt) hr
theorem go_lxor (C : Cx p s m meth c Z a0 own bytes maxL ret nm) (X : St Z p l e R s m args below meth c n0 T h k n) {x y : Int64} (pc' : Nat) (hp : pc + 1 = pc') (hd : decode bytes pc = .ok (.lxor, 1)) (hr : Go p e below Q (T.setTop (mkF m pc' Ls (.long (x ^^^ y) :: st)))) : Go p e below Q (T.setTop (mkF m pc Ls (.long y :: .long x :: st))) := by
  subst hp
  obtain ⟨locs, Y, -, -, -⟩ := X
  exact Go.back (fun t kt => Jvm.Free.XS.lxor Y.here C.1 rfl (C.cd hd) rfl kt) hr
theorem go_ldiv (C : Cx p s m meth c Z a0 own bytes maxL ret nm) (X : St Z p l e R s m args below meth c n0 T h k n) {x y : Int64} (pc' : Nat) (hp : pc + 1 = pc') (hd : decode bytes pc = .ok (.ldiv, 1)) (hy : y ≠ 0) (hr : Go p e below Q (T.setTop (mkF m pc' Ls (.long (x / y) :: st)))) : Go p e below Q (T.setTop (mkF m pc Ls (.long y :: .long x :: st))) := by
  subst hp
  obtain ⟨locs, Y, -, -, -⟩ := X
  exact Go.back (fun t kt => Jvm.Free.XS.ldiv Y.here C.1 rfl (C.cd hd) rfl hy kt) hr
theorem go_lneg (C : Cx p s m meth c Z a0 own bytes maxL ret nm) (X : St Z p l e R s m args below meth c n0 T h k n) {x : Int64} (pc' : Nat) (hp : pc + 1 = pc') (hd : decode bytes pc = .ok (.lneg, 1)) (hr : Go p e below Q (T.setTop (mkF m pc' Ls (.long (-x) :: st)))) : Go p e below Q (T.setTop (mkF m pc Ls (.long x :: st))) := by
  subst hp
  obtain ⟨locs, Y, -, -, -⟩ := X
  exact Go.back (fun t kt => Jvm.Free.XS.lneg Y.here C.1 rfl (C.cd hd) rfl kt) hr
theorem go_irem (C : Cx p s m meth c Z a0 own bytes maxL ret nm) (X : St Z p l e R s m args below meth c n0 T h k n) {x y : Int32} (pc' : Nat) (hp : pc + 1 = pc') (hd : decode bytes pc = .ok (.irem, 1)) (hy : y ≠ 0) (hr : Go p e below Q (T.setTop (mkF m pc' Ls (.int (x % y) :: st)))) : Go p e below Q (T.setTop (mkF m pc Ls (.int y :: .int x :: st))) := by
  subst hp
  obtain ⟨locs, Y, -, -, -⟩ := X
  exact Go.back (fun t kt => iremM Y C.1 rfl (C.cd hd) rfl hy kt) hr
theorem go_lrem (C : Cx p s m meth c Z a0 own bytes maxL ret nm) (X : St Z p l e R s m args below meth c n0 T h k n) {x y : Int64} (pc' : Nat) (hp : pc + 1 = pc') (hd : decode bytes pc = .ok (.lrem, 1)) (hy : y ≠ 0) (hr : Go p e below Q (T.setTop (mkF m pc' Ls (.long (x % y) :: st)))) : Go p e below Q (T.setTop (mkF m pc Ls (.long y :: .long x :: st))) := by
  subst hp
  obtain ⟨locs, Y, -, -, -⟩ := X
  exact Go.back (fun t kt => by rw [← lrem_mod] at kt; exact Jvm.Free.XS.lrem Y.here C.1 rfl (C.cd hd) rfl hy kt) hr
theorem go_i2l (C : Cx p s m meth c Z a0 own bytes maxL ret nm) (X : St Z p l e R s m args below meth c n0 T h k n) {x : Int32} (pc' : Nat) (hp : pc + 1 = pc') (hd : decode bytes pc = .ok (.i2l, 1)) (hr : Go p e below Q (T.setTop (mkF m pc' Ls (.long (x.toInt64) :: st)))) : Go p e below Q (T.setTop (mkF m pc Ls (.int x :: st))) := by
  subst hp
  obtain ⟨locs, Y, -, -, -⟩ := X
  exact Go.back (fun t kt => Jvm.Free.XS.i2l Y.here C.1 rfl (C.cd hd) rfl kt) hr
theorem go_l2i (C : Cx p s m meth c Z a0 own bytes maxL ret nm) (X : St Z p l e R s m args below meth c n0 T h k n) {x : Int64} (pc' : Nat) (hp : pc + 1 = pc') (hd : decode bytes pc = .ok (.l2i, 1)) (hr : Go p e below Q (T.setTop (mkF m pc' Ls (.int (x.toInt32) :: st)))) : Go p e below Q (T.setTop (mkF m pc Ls (.long x :: st))) := by
  subst hp
  obtain ⟨locs, Y, -, -, -⟩ := X
  exact Go.back (fun t kt => Jvm.Free.XS.l2i Y.here C.1 rfl (C.cd hd) rfl kt) hr
theorem go_i2b (C : Cx p s m meth c Z a0 own bytes maxL ret nm) (X : St Z p l e R s m args below meth c n0 T h k n) {x : Int32} (pc' : Nat) (hp : pc + 1 = pc') (hd : decode bytes pc = .ok (.i2b, 1)) (hr : Go p e below Q (T.setTop (mkF m pc' Ls (.int (x.toInt8.toInt32) :: st)))) : Go p e below Q (T.setTop (mkF m pc Ls (.int x :: st))) := by
  subst hp
  obtain ⟨locs, Y, -, -, -⟩ := X
  exact Go.back (fun t kt => Jvm.Free.XS.i2b Y.here C.1 rfl (C.cd hd) rfl kt) hr
theorem go_i2s (C : Cx p s m meth c Z a0 own bytes maxL ret nm) (X : St Z p l e R s m args below meth c n0 T h k n) {x : Int32} (pc' : Nat) (hp : pc + 1 = pc') (hd : decode bytes pc = .ok (.i2s, 1)) (hr : Go p e below Q (T.setTop (mkF m pc' Ls (.int (x.toInt16.toInt32) :: st)))) : Go p e below Q (T.setTop (mkF m pc Ls (.int x :: st))) := by
  subst hp
  obtain ⟨locs, Y, -, -, -⟩ := X
  exact Go.back (fun t kt => Jvm.Free.XS.i2s Y.here C.1 rfl (C.cd hd) rfl kt) hr
theorem go_i2c (C : Cx p s m meth c Z a0 own bytes maxL ret nm) (X : St Z p l e R s m args below meth c n0 T h k n) {x : Int32} (pc' : Nat) (hp : pc + 1 = pc') (hd : decode bytes pc = .ok (.i2c, 1)) (hr : Go p e below Q (T.setTop (mkF m pc' Ls (.int (x.toUInt32.toUInt16.toUInt32.toInt32) :: st)))) : Go p e below Q (T.setTop (mkF m pc Ls (.int x :: st))) := by
  subst hp
  obtain ⟨locs, Y, -, -, -⟩ := X
  exact Go.back (fun t kt => Jvm.Free.XS.i2c Y.here C.1 rfl (C.cd hd) rfl kt) hr
theorem go_ishl (C : Cx p s m meth c Z a0 own bytes maxL ret nm) (X : St Z p l e R s m args below meth c n0 T h k n) {x : Int32} {y : Int32} (pc' : Nat) (hp : pc + 1 = pc') (hd : decode bytes pc = .ok (.ishl, 1)) (hr : Go p e below Q (T.setTop (mkF m pc' Ls (.int (x <<< (y &&& 31)) :: st)))) : Go p e below Q (T.setTop (mkF m pc Ls (.int y :: .int x :: st))) := by
  subst hp
  obtain ⟨locs, Y, -, -, -⟩ := X
  exact Go.back (fun t kt => Jvm.Free.XS.ishl Y.here C.1 rfl (C.cd hd) rfl kt) hr
theorem go_ishr (C : Cx p s m meth c Z a0 own bytes maxL ret nm) (X : St Z p l e R s m args below meth c n0 T h k n) {x : Int32} {y : Int32} (pc' : Nat) (hp : pc + 1 = pc') (hd : decode bytes pc = .ok (.ishr, 1)) (hr : Go p e below Q (T.setTop (mkF m pc' Ls (.int (x >>> (y &&& 31)) :: st)))) : Go p e below Q (T.setTop (mkF m pc Ls (.int y :: .int x :: st))) := by
  subst hp
  obtain ⟨locs, Y, -, -, -⟩ := X
  exact Go.back (fun t kt => Jvm.Free.XS.ishr Y.here C.1 rfl (C.cd hd) rfl kt) hr
theorem go_iushr (C : Cx p s m meth c Z a0 own bytes maxL ret nm) (X : St Z p l e R s m args below meth c n0 T h k n) {x : Int32} {y : Int32} (pc' : Nat) (hp : pc + 1 = pc') (hd : decode bytes pc = .ok (.iushr, 1)) (hr : Go p e below Q (T.setTop (mkF m pc' Ls (.int ((x.toUInt32 >>> (y &&& 31).toUInt32).toInt32) :: st)))) : Go p e below Q (T.setTop (mkF m pc Ls (.int y :: .int x :: st))) := by
  subst hp
  obtain ⟨locs, Y, -, -, -⟩ := X
  exact Go.back (fun t kt => Jvm.Free.XS.iushr Y.here C.1 rfl (C.cd hd) rfl kt) hr
theorem go_lshl (C : Cx p s m meth c Z a0 own bytes maxL ret nm) (X : St Z p l e R s m args below meth c n0 T h k n) {x : Int64} {y : Int32} (pc' : Nat) (hp : pc + 1 = pc') (hd : decode bytes pc = .ok (.lshl, 1)) (hr : Go p e below Q (T.setTop (mkF m pc' Ls (.long (x <<< (y &&& 0x3f).toInt64) :: st)))) : Go p e below Q (T.setTop (mkF m pc Ls (.int y :: .long x :: st))) := by
  subst hp
  obtain ⟨locs, Y, -, -, -⟩ := X
  exact Go.back (fun t kt => Jvm.Free.XS.lshl Y.here C.1 rfl (C.cd hd) rfl kt) hr
theorem go_lshr (C : Cx p s m meth c Z a0 own bytes maxL ret nm) (X : St Z p l e R s m args below meth c n0 T h k n) {x : Int64} {y : Int32} (pc' : Nat) (hp : pc + 1 = pc') (hd : decode bytes pc = .ok (.lshr, 1)) (hr : Go p e below Q (T.setTop (mkF m pc' Ls (.long (x >>> (y &&& 0x3f).toInt64) :: st)))) : Go p e below Q (T.setTop (mkF m pc Ls (.int y :: .long x :: st))) := by
  subst hp
  obtain ⟨locs, Y, -, -, -⟩ := X
  exact Go.back (fun t kt => Jvm.Free.XS.lshr Y.here C.1 rfl (C.cd hd) rfl kt) hr
theorem go_lushr (C : Cx p s m meth c Z a0 own bytes maxL ret nm) (X : St Z p l e R s m args below meth c n0 T h k n) {x : Int64} {y : Int32} (pc' : Nat) (hp : pc + 1 = pc') (hd : decode bytes pc = .ok (.lushr, 1)) (hr : Go p e below Q (T.setTop (mkF m pc' Ls (.long ((x.toUInt64 >>> (y &&& 0x3f).toInt64.toUInt64).toInt64) :: st)))) : Go p e below Q (T.setTop (mkF m pc Ls (.int y :: .long x :: st))) := by
  subst hp
  obtain ⟨locs, Y, -, -, -⟩ := X
  exact Go.back (fun t kt => Jvm.Free.XS.lushr Y.here C.1 rfl (C.cd hd) rfl kt) hr
theorem go_lcmp (C : Cx p s m meth c Z a0 own bytes maxL ret nm) (X : St Z p l e R s m args below meth c n0 T h k n) {x y : Int64} (pc' : Nat) (hp : pc + 1 = pc') (hd : decode bytes pc = .ok (.lcmp, 1)) (hr : Go p e below Q (T.setTop (mkF m pc' Ls (.int (lcmpW x y) :: st)))) : Go p e below Q (T.setTop (mkF m pc Ls (.long y :: .long x :: st))) := by
  subst hp
  obtain ⟨locs, Y, -, -, -⟩ := X
  exact Go.back (fun t kt => Jvm.Free.XS.lcmp Y.here C.1 rfl (C.cd hd) rfl kt) hr
theorem go_iinc (C : Cx p s m meth c Z a0 own bytes maxL ret nm) (X : St Z p l e R s m args below meth c n0 T h k n) {i : Nat} {cst : Int} {x z : Int32} (pc' : Nat) (hp : pc + 3 = pc') (hd : decode bytes pc = .ok (.iinc i cst, 3)) (hl : Ls[i]? = some (.val (.int x))) (hz : Int32.ofInt cst = z) (Ls' : Array Slot) (hl' : storeLocals Ls i (.int (x + z)) = some Ls') (hr : Go p e below Q (T.setTop (mkF m pc' Ls' st))) : Go p e below Q (T.setTop (mkF m pc Ls st)) := by
  subst hp
  obtain ⟨locs, Y, -, -, -⟩ := X
  exact Go.back (fun t kt => by subst hz; exact Jvm.Free.XS.iinc Y.here C.1 rfl (C.cd hd) hl hl' kt) hr
theorem go_dup (C : Cx p s m meth c Z a0 own bytes maxL ret nm) (X : St Z p l e R s m args below meth c n0 T h k n) {v : Value} (pc' : Nat) (hp : pc + 1 = pc') (hd : decode bytes pc = .ok (.dup, 1)) (hc : v.category = 1) (hr : Go p e below Q (T.setTop (mkF m pc' Ls (v :: v :: st)))) : Go p e below Q (T.setTop (mkF m pc Ls (v :: st))) := by
  subst hp
  obtain ⟨locs, Y, -, -, -⟩ := X
  exact Go.back (fun t kt => Jvm.Free.XS.dup Y.here C.1 rfl (C.cd hd) rfl hc kt) hr
theorem go_pop (C : Cx p s m meth c Z a0 own bytes maxL ret nm) (X : St Z p l e R s m args below meth c n0 T h k n) {v : Value} (pc' : Nat) (hp : pc + 1 = pc') (hd : decode bytes pc = .ok (.pop, 1)) (hc : v.category = 1) (hr : Go p e below Q (T.setTop (mkF m pc' Ls st))) : Go p e below Q (T.setTop (mkF m pc Ls (v :: st))) := by
  subst hp
  obtain ⟨locs, Y, -, -, -⟩ := X
  exact Go.back (fun t kt => Jvm.Free.XS.pop Y.here C.1 rfl (C.cd hd) rfl hc kt) hr
theorem go_dupX1 (C : Cx p s m meth c Z a0 own bytes maxL ret nm) (X : St Z p l e R s m args below meth c n0 T h k n) {v w : Value} (pc' : Nat) (hp : pc + 1 = pc') (hd : decode bytes pc = .ok (.dup_x1, 1)) (hc : v.category = 1) (hc2 : w.category = 1) (hr : Go p e below Q (T.setTop (mkF m pc' Ls (v :: w :: v :: st)))) : Go p e below Q (T.setTop (mkF m pc Ls (v :: w :: st))) := by
  subst hp
  obtain ⟨locs, Y, -, -, -⟩ := X
  exact Go.back (fun t kt => Jvm.Free.XS.dupX1 Y.here C.1 rfl (C.cd hd) rfl hc hc2 kt) hr
theorem go_dup2 (C : Cx p s m meth c Z a0 own bytes maxL ret nm) (X : St Z p l e R s m args below meth c n0 T h k n) {v w : Value} (pc' : Nat) (hp : pc + 1 = pc') (hd : decode bytes pc = .ok (.dup2, 1)) (hc : v.category = 1) (hc2 : w.category = 1) (hr : Go p e below Q (T.setTop (mkF m pc' Ls (v :: w :: v :: w :: st)))) : Go p e below Q (T.setTop (mkF m pc Ls (v :: w :: st))) := by
  subst hp
  obtain ⟨locs, Y, -, -, -⟩ := X
  refine Go.back (fun t kt => ?_) hr
  show Steps p.tables e below (T.setTop { method := m, pc := pc, locals := Ls, stack := v :: w :: st, locked := none }) _
  jvm_step Y.here [Y.here.top, C.1, C.cd hd, hc, hc2]
  exact kt
theorem go_goto (C : Cx p s m meth c Z a0 own bytes maxL ret nm) (X : St Z p l e R s m args below meth c n0 T h k n) {o : Int} (hd : decode bytes pc = .ok (.goto o, 3)) (ho : 0 ≤ (pc : Int) + o) (hp : ((pc : Int) + o).toNat = pc') (hr : Go p e below Q (T.setTop (mkF m pc' Ls st))) : Go p e below Q (T.setTop (mkF m pc Ls st)) := by
  obtain ⟨locs, Y, -, -, -⟩ := X
  exact Go.back (fun t kt => Jvm.Free.XS.goto Y.here C.1 rfl (pc0 := pc) rfl (C.cd hd) ho hp kt) hr
theorem go_icmp (C : Cx p s m meth c Z a0 own bytes maxL ret nm) (X : St Z p l e R s m args below meth c n0 T h k n) {cd : ClassFile.Cond} {o : Int} {x y : Int32} (hd : decode bytes pc = .ok (.if_icmp cd o, 3)) (hp : pc + 3 = pc') (ho : 0 ≤ (pc : Int) + o) (hp2 : ((pc : Int) + o).toNat = pc2) (h1 : if_icmp.holds cd x y = true → Go p e below Q (T.setTop (mkF m pc2 Ls st))) (h2 : if_icmp.holds cd x y = false → Go p e below Q (T.setTop (mkF m pc' Ls st))) : Go p e below Q (T.setTop (mkF m pc Ls (.int y :: .int x :: st))) := by
  subst hp
  obtain ⟨locs, Y, -, -, -⟩ := X
  cases hc : if_icmp.holds cd x y with
  | true => exact Go.back (fun t kt => Jvm.Free.XS.icmpYes Y.here C.1 rfl (pc0 := pc) rfl (C.cd hd) rfl hc ho hp2 kt) (h1 hc)
  | false => exact Go.back (fun t kt => Jvm.Free.XS.icmpNo Y.here C.1 rfl (C.cd hd) rfl hc kt) (h2 hc)
theorem go_if (C : Cx p s m meth c Z a0 own bytes maxL ret nm) (X : St Z p l e R s m args below meth c n0 T h k n) {cd : ClassFile.Cond} {o : Int} {x : Int32} (hd : decode bytes pc = .ok (.ifCond cd o, 3)) (hp : pc + 3 = pc') (ho : 0 ≤ (pc : Int) + o) (hp2 : ((pc : Int) + o).toNat = pc2) (h1 : if_icmp.holds cd x 0 = true → Go p e below Q (T.setTop (mkF m pc2 Ls st))) (h2 : if_icmp.holds cd x 0 = false → Go p e below Q (T.setTop (mkF m pc' Ls st))) : Go p e below Q (T.setTop (mkF m pc Ls (.int x :: st))) := by
  subst hp
  obtain ⟨locs, Y, -, -, -⟩ := X
  cases hc : if_icmp.holds cd x 0 with
  | true => exact Go.back (fun t kt => Jvm.Free.XS.ifYes Y.here C.1 rfl (pc0 := pc) rfl (C.cd hd) rfl ((if0 _ _).trans hc) ho hp2 kt) (h1 hc)
  | false => exact Go.back (fun t kt => Jvm.Free.XS.ifNo Y.here C.1 rfl (C.cd hd) rfl ((if0 _ _).trans hc) kt) (h2 hc)
theorem i32lt {x y : Int32} : x < y ↔ x.toInt < y.toInt := Int32.lt_iff_toInt_lt
theorem ic_lt {x y : Int32} : (if_icmp.holds .lt x y = true ↔ x.toInt < y.toInt) ∧ (if_icmp.holds .lt x y = false ↔ y.toInt ≤ x.toInt) := by
  by_cases q : x < y
  · have := i32lt.mp q; simp [(tlt q).1]; omega
  · have := mt i32lt.mpr q; simp [(flt q).1]; omega
theorem ic_ge {x y : Int32} : (if_icmp.holds .ge x y = true ↔ y.toInt ≤ x.toInt) ∧ (if_icmp.holds .ge x y = false ↔ x.toInt < y.toInt) := by
  by_cases q : x < y
  · have := i32lt.mp q; simp [(tlt q).2.1]; omega
  · have := mt i32lt.mpr q; simp [(flt q).2.1]; omega
theorem ic_gt {x y : Int32} : (if_icmp.holds .gt x y = true ↔ y.toInt < x.toInt) ∧ (if_icmp.holds .gt x y = false ↔ x.toInt ≤ y.toInt) := by
  by_cases q : y < x
  · have := i32lt.mp q; simp [(tlt q).2.2.1]; omega
  · have := mt i32lt.mpr q; simp [(flt q).2.2.1]; omega
theorem ic_le {x y : Int32} : (if_icmp.holds .le x y = true ↔ x.toInt ≤ y.toInt) ∧ (if_icmp.holds .le x y = false ↔ y.toInt < x.toInt) := by
  by_cases q : y < x
  · have := i32lt.mp q; simp [(tlt q).2.2.2]; omega
  · have := mt i32lt.mpr q; simp [(flt q).2.2.2]; omega
theorem ic_eq {x y : Int32} : (if_icmp.holds .eq x y = true ↔ x = y) ∧ (if_icmp.holds .eq x y = false ↔ ¬ x = y) := by
  by_cases q : x = y
  · subst q; exact ⟨⟨fun _ => rfl, fun _ => (teq rfl).1⟩, ⟨fun h => (by rw [(teq rfl).1] at h; cases h), fun h => absurd rfl h⟩⟩
  · exact ⟨⟨fun h => (by rw [(feq q).1] at h; cases h), fun h => absurd h q⟩, ⟨fun _ => q, fun _ => (feq q).1⟩⟩
theorem ic_ne {x y : Int32} : (if_icmp.holds .ne x y = true ↔ ¬ x = y) ∧ (if_icmp.holds .ne x y = false ↔ x = y) := by
  by_cases q : x = y
  · subst q; exact ⟨⟨fun h => (by rw [(teq rfl).2] at h; cases h), fun h => absurd rfl h⟩, ⟨fun _ => rfl, fun _ => (teq rfl).2⟩⟩
  · exact ⟨⟨fun _ => q, fun _ => (feq q).2⟩, ⟨fun h => (by rw [(feq q).2] at h; cases h), fun h => absurd h q⟩⟩
theorem lc_i (x y : Int64) : ((lcmpW x y).toInt < 0 ↔ x.toInt < y.toInt) ∧ (0 < (lcmpW x y).toInt ↔ y.toInt < x.toInt) ∧ (lcmpW x y = 0 ↔ x = y) := by
  obtain ⟨a, b, c⟩ := c_lcmp x y
  refine ⟨?_, ?_, lw_eq x y⟩ <;> rcases Int.lt_trichotomy x.toInt y.toInt with q | q | q <;> (first | have := a q | have := b q | have := c q) <;> omega
theorem go_icmp_lt (C : Cx p s m meth c Z a0 own bytes maxL ret nm) (X : St Z p l e R s m args below meth c n0 T h k n) {o : Int} {x y : Int32} (hd : decode bytes pc = .ok (.if_icmp .lt o, 3)) (hp : pc + 3 = pc') (ho : 0 ≤ (pc : Int) + o) (hp2 : ((pc : Int) + o).toNat = pc2) (h1 : x.toInt < y.toInt → Go p e below Q (T.setTop (mkF m pc2 Ls st))) (h2 : y.toInt ≤ x.toInt → Go p e below Q (T.setTop (mkF m pc' Ls st))) : Go p e below Q (T.setTop (mkF m pc Ls (.int y :: .int x :: st))) := go_icmp C X hd hp ho hp2 (fun q => h1 (ic_lt.1.mp q)) (fun q => h2 (ic_lt.2.mp q))
theorem go_if_lt (C : Cx p s m meth c Z a0 own bytes maxL ret nm) (X : St Z p l e R s m args below meth c n0 T h k n) {o : Int} {x : Int32} (hd : decode bytes pc = .ok (.ifCond .lt o, 3)) (hp : pc + 3 = pc') (ho : 0 ≤ (pc : Int) + o) (hp2 : ((pc : Int) + o).toNat = pc2) (h1 : x.toInt < 0 → Go p e below Q (T.setTop (mkF m pc2 Ls st))) (h2 : 0 ≤ x.toInt → Go p e below Q (T.setTop (mkF m pc' Ls st))) : Go p e below Q (T.setTop (mkF m pc Ls (.int x :: st))) := go_if C X hd hp ho hp2 (fun q => h1 (ic_lt.1.mp q)) (fun q => h2 (ic_lt.2.mp q))
theorem go_lif_lt (C : Cx p s m meth c Z a0 own bytes maxL ret nm) (X : St Z p l e R s m args below meth c n0 T h k n) {o : Int} {x y : Int64} {pc1 : Nat} (hp1 : pc + 1 = pc1) (hd1 : decode bytes pc = .ok (.lcmp, 1)) (hd : decode bytes pc1 = .ok (.ifCond .lt o, 3)) (hp : pc1 + 3 = pc') (ho : 0 ≤ (pc1 : Int) + o) (hp2 : ((pc1 : Int) + o).toNat = pc2) (h1 : x.toInt < y.toInt → Go p e below Q (T.setTop (mkF m pc2 Ls st))) (h2 : y.toInt ≤ x.toInt → Go p e below Q (T.setTop (mkF m pc' Ls st))) : Go p e below Q (T.setTop (mkF m pc Ls (.long y :: .long x :: st))) := go_lcmp C X _ hp1 hd1 (go_if_lt C X hd hp ho hp2 (fun q => h1 ((lc_i x y).1.mp q)) (fun q => h2 (by have := mt (lc_i x y).1.mpr (by omega); omega)))
theorem go_icmp_ge (C : Cx p s m meth c Z a0 own bytes maxL ret nm) (X : St Z p l e R s m args below meth c n0 T h k n) {o : Int} {x y : Int32} (hd : decode bytes pc = .ok (.if_icmp .ge o, 3)) (hp : pc + 3 = pc') (ho : 0 ≤ (pc : Int) + o) (hp2 : ((pc : Int) + o).toNat = pc2) (h1 : y.toInt ≤ x.toInt → Go p e below Q (T.setTop (mkF m pc2 Ls st))) (h2 : x.toInt < y.toInt → Go p e below Q (T.setTop (mkF m pc' Ls st))) : Go p e below Q (T.setTop (mkF m pc Ls (.int y :: .int x :: st))) := go_icmp C X hd hp ho hp2 (fun q => h1 (ic_ge.1.mp q)) (fun q => h2 (ic_ge.2.mp q))
theorem go_if_ge (C : Cx p s m meth c Z a0 own bytes maxL ret nm) (X : St Z p l e R s m args below meth c n0 T h k n) {o : Int} {x : Int32} (hd : decode bytes pc = .ok (.ifCond .ge o, 3)) (hp : pc + 3 = pc') (ho : 0 ≤ (pc : Int) + o) (hp2 : ((pc : Int) + o).toNat = pc2) (h1 : 0 ≤ x.toInt → Go p e below Q (T.setTop (mkF m pc2 Ls st))) (h2 : x.toInt < 0 → Go p e below Q (T.setTop (mkF m pc' Ls st))) : Go p e below Q (T.setTop (mkF m pc Ls (.int x :: st))) := go_if C X hd hp ho hp2 (fun q => h1 (ic_ge.1.mp q)) (fun q => h2 (ic_ge.2.mp q))
theorem go_lif_ge (C : Cx p s m meth c Z a0 own bytes maxL ret nm) (X : St Z p l e R s m args below meth c n0 T h k n) {o : Int} {x y : Int64} {pc1 : Nat} (hp1 : pc + 1 = pc1) (hd1 : decode bytes pc = .ok (.lcmp, 1)) (hd : decode bytes pc1 = .ok (.ifCond .ge o, 3)) (hp : pc1 + 3 = pc') (ho : 0 ≤ (pc1 : Int) + o) (hp2 : ((pc1 : Int) + o).toNat = pc2) (h1 : y.toInt ≤ x.toInt → Go p e below Q (T.setTop (mkF m pc2 Ls st))) (h2 : x.toInt < y.toInt → Go p e below Q (T.setTop (mkF m pc' Ls st))) : Go p e below Q (T.setTop (mkF m pc Ls (.long y :: .long x :: st))) := go_lcmp C X _ hp1 hd1 (go_if_ge C X hd hp ho hp2 (fun q => h1 (by have := mt (lc_i x y).1.mpr (by omega); omega)) (fun q => h2 ((lc_i x y).1.mp q)))
theorem go_icmp_gt (C : Cx p s m meth c Z a0 own bytes maxL ret nm) (X : St Z p l e R s m args below meth c n0 T h k n) {o : Int} {x y : Int32} (hd : decode bytes pc = .ok (.if_icmp .gt o, 3)) (hp : pc + 3 = pc') (ho : 0 ≤ (pc : Int) + o) (hp2 : ((pc : Int) + o).toNat = pc2) (h1 : y.toInt < x.toInt → Go p e below Q (T.setTop (mkF m pc2 Ls st))) (h2 : x.toInt ≤ y.toInt → Go p e below Q (T.setTop (mkF m pc' Ls st))) : Go p e below Q (T.setTop (mkF m pc Ls (.int y :: .int x :: st))) := go_icmp C X hd hp ho hp2 (fun q => h1 (ic_gt.1.mp q)) (fun q => h2 (ic_gt.2.mp q))
theorem go_if_gt (C : Cx p s m meth c Z a0 own bytes maxL ret nm) (X : St Z p l e R s m args below meth c n0 T h k n) {o : Int} {x : Int32} (hd : decode bytes pc = .ok (.ifCond .gt o, 3)) (hp : pc + 3 = pc') (ho : 0 ≤ (pc : Int) + o) (hp2 : ((pc : Int) + o).toNat = pc2) (h1 : 0 < x.toInt → Go p e below Q (T.setTop (mkF m pc2 Ls st))) (h2 : x.toInt ≤ 0 → Go p e below Q (T.setTop (mkF m pc' Ls st))) : Go p e below Q (T.setTop (mkF m pc Ls (.int x :: st))) := go_if C X hd hp ho hp2 (fun q => h1 (ic_gt.1.mp q)) (fun q => h2 (ic_gt.2.mp q))
theorem go_lif_gt (C : Cx p s m meth c Z a0 own bytes maxL ret nm) (X : St Z p l e R s m args below meth c n0 T h k n) {o : Int} {x y : Int64} {pc1 : Nat} (hp1 : pc + 1 = pc1) (hd1 : decode bytes pc = .ok (.lcmp, 1)) (hd : decode bytes pc1 = .ok (.ifCond .gt o, 3)) (hp : pc1 + 3 = pc') (ho : 0 ≤ (pc1 : Int) + o) (hp2 : ((pc1 : Int) + o).toNat = pc2) (h1 : y.toInt < x.toInt → Go p e below Q (T.setTop (mkF m pc2 Ls st))) (h2 : x.toInt ≤ y.toInt → Go p e below Q (T.setTop (mkF m pc' Ls st))) : Go p e below Q (T.setTop (mkF m pc Ls (.long y :: .long x :: st))) := go_lcmp C X _ hp1 hd1 (go_if_gt C X hd hp ho hp2 (fun q => h1 ((lc_i x y).2.1.mp q)) (fun q => h2 (by have := mt (lc_i x y).2.1.mpr (by omega); omega)))
theorem go_icmp_le (C : Cx p s m meth c Z a0 own bytes maxL ret nm) (X : St Z p l e R s m args below meth c n0 T h k n) {o : Int} {x y : Int32} (hd : decode bytes pc = .ok (.if_icmp .le o, 3)) (hp : pc + 3 = pc') (ho : 0 ≤ (pc : Int) + o) (hp2 : ((pc : Int) + o).toNat = pc2) (h1 : x.toInt ≤ y.toInt → Go p e below Q (T.setTop (mkF m pc2 Ls st))) (h2 : y.toInt < x.toInt → Go p e below Q (T.setTop (mkF m pc' Ls st))) : Go p e below Q (T.setTop (mkF m pc Ls (.int y :: .int x :: st))) := go_icmp C X hd hp ho hp2 (fun q => h1 (ic_le.1.mp q)) (fun q => h2 (ic_le.2.mp q))
theorem go_if_le (C : Cx p s m meth c Z a0 own bytes maxL ret nm) (X : St Z p l e R s m args below meth c n0 T h k n) {o : Int} {x : Int32} (hd : decode bytes pc = .ok (.ifCond .le o, 3)) (hp : pc + 3 = pc') (ho : 0 ≤ (pc : Int) + o) (hp2 : ((pc : Int) + o).toNat = pc2) (h1 : x.toInt ≤ 0 → Go p e below Q (T.setTop (mkF m pc2 Ls st))) (h2 : 0 < x.toInt → Go p e below Q (T.setTop (mkF m pc' Ls st))) : Go p e below Q (T.setTop (mkF m pc Ls (.int x :: st))) := go_if C X hd hp ho hp2 (fun q => h1 (ic_le.1.mp q)) (fun q => h2 (ic_le.2.mp q))
theorem go_lif_le (C : Cx p s m meth c Z a0 own bytes maxL ret nm) (X : St Z p l e R s m args below meth c n0 T h k n) {o : Int} {x y : Int64} {pc1 : Nat} (hp1 : pc + 1 = pc1) (hd1 : decode bytes pc = .ok (.lcmp, 1)) (hd : decode bytes pc1 = .ok (.ifCond .le o, 3)) (hp : pc1 + 3 = pc') (ho : 0 ≤ (pc1 : Int) + o) (hp2 : ((pc1 : Int) + o).toNat = pc2) (h1 : x.toInt ≤ y.toInt → Go p e below Q (T.setTop (mkF m pc2 Ls st))) (h2 : y.toInt < x.toInt → Go p e below Q (T.setTop (mkF m pc' Ls st))) : Go p e below Q (T.setTop (mkF m pc Ls (.long y :: .long x :: st))) := go_lcmp C X _ hp1 hd1 (go_if_le C X hd hp ho hp2 (fun q => h1 (by have := mt (lc_i x y).2.1.mpr (by omega); omega)) (fun q => h2 ((lc_i x y).2.1.mp q)))
theorem go_icmp_eq (C : Cx p s m meth c Z a0 own bytes maxL ret nm) (X : St Z p l e R s m args below meth c n0 T h k n) {o : Int} {x y : Int32} (hd : decode bytes pc = .ok (.if_icmp .eq o, 3)) (hp : pc + 3 = pc') (ho : 0 ≤ (pc : Int) + o) (hp2 : ((pc : Int) + o).toNat = pc2) (h1 : x = y → Go p e below Q (T.setTop (mkF m pc2 Ls st))) (h2 : ¬ x = y → Go p e below Q (T.setTop (mkF m pc' Ls st))) : Go p e below Q (T.setTop (mkF m pc Ls (.int y :: .int x :: st))) := go_icmp C X hd hp ho hp2 (fun q => h1 (ic_eq.1.mp q)) (fun q => h2 (ic_eq.2.mp q))
theorem go_if_eq (C : Cx p s m meth c Z a0 own bytes maxL ret nm) (X : St Z p l e R s m args below meth c n0 T h k n) {o : Int} {x : Int32} (hd : decode bytes pc = .ok (.ifCond .eq o, 3)) (hp : pc + 3 = pc') (ho : 0 ≤ (pc : Int) + o) (hp2 : ((pc : Int) + o).toNat = pc2) (h1 : x = 0 → Go p e below Q (T.setTop (mkF m pc2 Ls st))) (h2 : ¬ x = 0 → Go p e below Q (T.setTop (mkF m pc' Ls st))) : Go p e below Q (T.setTop (mkF m pc Ls (.int x :: st))) := go_if C X hd hp ho hp2 (fun q => h1 (ic_eq.1.mp q)) (fun q => h2 (ic_eq.2.mp q))
theorem go_lif_eq (C : Cx p s m meth c Z a0 own bytes maxL ret nm) (X : St Z p l e R s m args below meth c n0 T h k n) {o : Int} {x y : Int64} {pc1 : Nat} (hp1 : pc + 1 = pc1) (hd1 : decode bytes pc = .ok (.lcmp, 1)) (hd : decode bytes pc1 = .ok (.ifCond .eq o, 3)) (hp : pc1 + 3 = pc') (ho : 0 ≤ (pc1 : Int) + o) (hp2 : ((pc1 : Int) + o).toNat = pc2) (h1 : x = y → Go p e below Q (T.setTop (mkF m pc2 Ls st))) (h2 : ¬ x = y → Go p e below Q (T.setTop (mkF m pc' Ls st))) : Go p e below Q (T.setTop (mkF m pc Ls (.long y :: .long x :: st))) := go_lcmp C X _ hp1 hd1 (go_if_eq C X hd hp ho hp2 (fun q => h1 ((lc_i x y).2.2.mp q)) (fun q => h2 (mt (lc_i x y).2.2.mpr q)))
theorem go_icmp_ne (C : Cx p s m meth c Z a0 own bytes maxL ret nm) (X : St Z p l e R s m args below meth c n0 T h k n) {o : Int} {x y : Int32} (hd : decode bytes pc = .ok (.if_icmp .ne o, 3)) (hp : pc + 3 = pc') (ho : 0 ≤ (pc : Int) + o) (hp2 : ((pc : Int) + o).toNat = pc2) (h1 : ¬ x = y → Go p e below Q (T.setTop (mkF m pc2 Ls st))) (h2 : x = y → Go p e below Q (T.setTop (mkF m pc' Ls st))) : Go p e below Q (T.setTop (mkF m pc Ls (.int y :: .int x :: st))) := go_icmp C X hd hp ho hp2 (fun q => h1 (ic_ne.1.mp q)) (fun q => h2 (ic_ne.2.mp q))
theorem go_if_ne (C : Cx p s m meth c Z a0 own bytes maxL ret nm) (X : St Z p l e R s m args below meth c n0 T h k n) {o : Int} {x : Int32} (hd : decode bytes pc = .ok (.ifCond .ne o, 3)) (hp : pc + 3 = pc') (ho : 0 ≤ (pc : Int) + o) (hp2 : ((pc : Int) + o).toNat = pc2) (h1 : ¬ x = 0 → Go p e below Q (T.setTop (mkF m pc2 Ls st))) (h2 : x = 0 → Go p e below Q (T.setTop (mkF m pc' Ls st))) : Go p e below Q (T.setTop (mkF m pc Ls (.int x :: st))) := go_if C X hd hp ho hp2 (fun q => h1 (ic_ne.1.mp q)) (fun q => h2 (ic_ne.2.mp q))
theorem go_lif_ne (C : Cx p s m meth c Z a0 own bytes maxL ret nm) (X : St Z p l e R s m args below meth c n0 T h k n) {o : Int} {x y : Int64} {pc1 : Nat} (hp1 : pc + 1 = pc1) (hd1 : decode bytes pc = .ok (.lcmp, 1)) (hd : decode bytes pc1 = .ok (.ifCond .ne o, 3)) (hp : pc1 + 3 = pc') (ho : 0 ≤ (pc1 : Int) + o) (hp2 : ((pc1 : Int) + o).toNat = pc2) (h1 : ¬ x = y → Go p e below Q (T.setTop (mkF m pc2 Ls st))) (h2 : x = y → Go p e below Q (T.setTop (mkF m pc' Ls st))) : Go p e below Q (T.setTop (mkF m pc Ls (.long y :: .long x :: st))) := go_lcmp C X _ hp1 hd1 (go_if_ne C X hd hp ho hp2 (fun q => h1 (mt (lc_i x y).2.2.mpr q)) (fun q => h2 ((lc_i x y).2.2.mp q)))
theorem go_dload (C : Cx p s m meth c Z a0 own bytes maxL ret nm) (X : St Z p l e R s m args below meth c n0 T h k n) {i : Nat} {v : UInt64} (pc' : Nat) (hp : pc + 2 = pc') (hd : decode bytes pc = .ok (.dload i, 2)) (hl : Ls[i]? = some (.val (.double v))) (hr : Go p e below Q (T.setTop (mkF m pc' Ls (.double v :: st)))) : Go p e below Q (T.setTop (mkF m pc Ls st)) := by
  subst hp
  obtain ⟨locs, Y, -, -, -⟩ := X
  exact Go.back (fun t kt => Jvm.Free.XS.dload Y.here C.1 rfl (C.cd hd) hl kt) hr
theorem go_dloadN (C : Cx p s m meth c Z a0 own bytes maxL ret nm) (X : St Z p l e R s m args below meth c n0 T h k n) {i : Fin 4} {v : UInt64} (pc' : Nat) (hp : pc + 1 = pc') (hd : decode bytes pc = .ok (.dload_n i, 1)) (hl : Ls[i.val]? = some (.val (.double v))) (hr : Go p e below Q (T.setTop (mkF m pc' Ls (.double v :: st)))) : Go p e below Q (T.setTop (mkF m pc Ls st)) := by
  subst hp
  obtain ⟨locs, Y, -, -, -⟩ := X
  exact Go.back (fun t kt => Jvm.Free.XS.dloadN Y.here C.1 rfl (C.cd hd) hl kt) hr
theorem go_dstore (C : Cx p s m meth c Z a0 own bytes maxL ret nm) (X : St Z p l e R s m args below meth c n0 T h k n) {i : Nat} {v : UInt64} (pc' : Nat) (hp : pc + 2 = pc') (hd : decode bytes pc = .ok (.dstore i, 2)) (Ls' : Array Slot) (hl : storeLocals Ls i (.double v) = some Ls') (hr : Go p e below Q (T.setTop (mkF m pc' Ls' st))) : Go p e below Q (T.setTop (mkF m pc Ls (.double v :: st))) := by
  subst hp
  obtain ⟨locs, Y, -, -, -⟩ := X
  exact Go.back (fun t kt => Jvm.Free.XS.dstore Y.here C.1 rfl (C.cd hd) rfl hl kt) hr
theorem go_dstoreN (C : Cx p s m meth c Z a0 own bytes maxL ret nm) (X : St Z p l e R s m args below meth c n0 T h k n) {i : Fin 4} {v : UInt64} (pc' : Nat) (hp : pc + 1 = pc') (hd : decode bytes pc = .ok (.dstore_n i, 1)) (Ls' : Array Slot) (hl : storeLocals Ls i.val (.double v) = some Ls') (hr : Go p e below Q (T.setTop (mkF m pc' Ls' st))) : Go p e below Q (T.setTop (mkF m pc Ls (.double v :: st))) := by
  subst hp
  obtain ⟨locs, Y, -, -, -⟩ := X
  exact Go.back (fun t kt => Jvm.Free.XS.dstoreN Y.here C.1 rfl (C.cd hd) rfl hl kt) hr
theorem go_dconst0 (C : Cx p s m meth c Z a0 own bytes maxL ret nm) (X : St Z p l e R s m args below meth c n0 T h k n)  (pc' : Nat) (hp : pc + 1 = pc') (hd : decode bytes pc = .ok (.dconst 0, 1)) (hr : Go p e below Q (T.setTop (mkF m pc' Ls (.double (FP.l2d 0) :: st)))) : Go p e below Q (T.setTop (mkF m pc Ls st)) := by
  subst hp
  obtain ⟨locs, Y, -, -, -⟩ := X
  exact Go.back (fun t kt => Jvm.Free.XS.dconst0 Y.here C.1 rfl (C.cd hd) (by decide +kernel) kt) hr
theorem go_i2d (C : Cx p s m meth c Z a0 own bytes maxL ret nm) (X : St Z p l e R s m args below meth c n0 T h k n) {x : Int32} (pc' : Nat) (hp : pc + 1 = pc') (hd : decode bytes pc = .ok (.i2d, 1)) (hr : Go p e below Q (T.setTop (mkF m pc' Ls (.double (FP.l2d x.toInt64) :: st)))) : Go p e below Q (T.setTop (mkF m pc Ls (.int x :: st))) := by
  subst hp
  obtain ⟨locs, Y, -, -, -⟩ := X
  exact Go.back (fun t kt => Jvm.Free.XS.i2dS Y.here C.1 rfl (C.cd hd) rfl (i2d_w x) kt) hr
theorem go_l2d (C : Cx p s m meth c Z a0 own bytes maxL ret nm) (X : St Z p l e R s m args below meth c n0 T h k n) {x : Int64} (pc' : Nat) (hp : pc + 1 = pc') (hd : decode bytes pc = .ok (.l2d, 1)) (hr : Go p e below Q (T.setTop (mkF m pc' Ls (.double (FP.l2d x) :: st)))) : Go p e below Q (T.setTop (mkF m pc Ls (.long x :: st))) := by
  subst hp
  obtain ⟨locs, Y, -, -, -⟩ := X
  exact Go.back (fun t kt => Jvm.Free.XS.l2dS Y.here C.1 rfl (C.cd hd) rfl rfl kt) hr
theorem go_dadd (C : Cx p s m meth c Z a0 own bytes maxL ret nm) (X : St Z p l e R s m args below meth c n0 T h k n) {x y : Int64} (pc' : Nat) (hp : pc + 1 = pc') (hd : decode bytes pc = .ok (.dadd, 1)) (ha : B53 x) (hb : B53 y) (hr : Go p e below Q (T.setTop (mkF m pc' Ls (.double (FP.l2d (x + y)) :: st)))) : Go p e below Q (T.setTop (mkF m pc Ls (.double (FP.l2d y) :: .double (FP.l2d x) :: st))) := by
  subst hp
  obtain ⟨locs, Y, -, -, -⟩ := X
  exact Go.back (fun t kt => Jvm.Free.XS.daddS Y.here C.1 rfl (C.cd hd) rfl (nn_w (dadd_w ha hb)) (dadd_w ha hb) kt) hr
theorem go_dcmp (C : Cx p s m meth c Z a0 own bytes maxL ret nm) (X : St Z p l e R s m args below meth c n0 T h k n) {o : CmpOp} {x y : Int64} (pc' : Nat) (hp : pc + 1 = pc') (hd : decode bytes pc = .ok (.dcmp o, 1)) (ha : B53 x) (hb : B53 y) (hr : Go p e below Q (T.setTop (mkF m pc' Ls (.int (lcmpW x y) :: st)))) : Go p e below Q (T.setTop (mkF m pc Ls (.double (FP.l2d y) :: .double (FP.l2d x) :: st))) := by
  subst hp
  obtain ⟨locs, Y, -, -, -⟩ := X
  exact Go.back (fun t kt => Jvm.Free.XS.dcmpS Y.here C.1 rfl (C.cd hd) rfl (dcmpV_w ha hb o) kt) hr
theorem go_ldcInt (C : Cx p s m meth c Z a0 own bytes maxL ret nm) (X : St Z p l e R s m args below meth c n0 T h k n) {idx : Nat} {v : Int32} (w : (Jvm.Cond.constant own idx v).before a0 Z = true) (hp : pc + 2 = pc') (hd : decode bytes pc = .ok (.ldc idx, 2)) (hr : Go p e below Q (T.setTop (mkF m pc' Ls (.int v :: st)))) : Go p e below Q (T.setTop (mkF m pc Ls st)) := by
  subst hp
  obtain ⟨locs, Y, -, -, -⟩ := X
  exact Go.back (fun t kt => Y.ldcInt C.1 C.ow (mvT C.hZ w) (g := mkF m pc Ls st) rfl (C.cd hd) t kt) hr
theorem go_ldcwInt (C : Cx p s m meth c Z a0 own bytes maxL ret nm) (X : St Z p l e R s m args below meth c n0 T h k n) {idx : Nat} {v : Int32} (w : (Jvm.Cond.constant own idx v).before a0 Z = true) (hp : pc + 3 = pc') (hd : decode bytes pc = .ok (.ldc_w idx, 3)) (hr : Go p e below Q (T.setTop (mkF m pc' Ls (.int v :: st)))) : Go p e below Q (T.setTop (mkF m pc Ls st)) := by
  subst hp
  obtain ⟨locs, Y, -, -, -⟩ := X
  exact Go.back (fun t kt => Y.ldcwInt C.1 C.ow (mvT C.hZ w) (g := mkF m pc Ls st) rfl (C.cd hd) t kt) hr
theorem go_ldc2Long (C : Cx p s m meth c Z a0 own bytes maxL ret nm) (X : St Z p l e R s m args below meth c n0 T h k n) {idx : Nat} {v : Int64} (w : (Jvm.Cond.constantLong own idx v).before a0 Z = true) (hp : pc + 3 = pc') (hd : decode bytes pc = .ok (.ldc2_w idx, 3)) (hr : Go p e below Q (T.setTop (mkF m pc' Ls (.long v :: st)))) : Go p e below Q (T.setTop (mkF m pc Ls st)) := by
  subst hp
  obtain ⟨locs, Y, -, -, -⟩ := X
  exact Go.back (fun t kt => Y.ldc2Long C.1 C.ow (mvT C.hZ w) (g := mkF m pc Ls st) rfl (C.cd hd) t kt) hr
variable {kc kn : Nat} {Qy : Option Value → Heap → Prop}
theorem go_leave (C : Cx p s m meth c Z a0 own bytes maxL ret nm) (X : St Z p l e R s m args below meth c n0 T h k n) {v : Option Value} {f : JFrame} (hv : meth.sig.returnType = none → v = none) (hQ : Qy v h) (hk : k ≤ kc) (hn : n ≤ kn)
    (go : ∀ {locs : List Loc} (Y : Stand p l e R s m args below meth c T locs k n) {fs : List Frame}, (∀ (f : JFrame) (acts : List Action), f.method = m → f.locked = none → f.entered = [] → (doReturn e (T.setTop f) acts v).1 = T.setFrames fs) → Steps p.tables e below (T.setTop f) (T.setFrames fs)) :
    Go p e below (FinQ s kc kn n0 Qy) (T.setTop f) := by
  obtain ⟨locs, Y, N, -, rfl⟩ := X
  obtain ⟨fs, hr, hrun, hended, hW, hsame⟩ := Y.leave hv C.lk
  exact ⟨_, _, go Y hr, hrun, hended, _, _, rfl, ⟨N, hQ⟩, ⟨_, rfl⟩, hW, hsame.mono hk hn⟩
theorem go_ret0 (C : Cx p s m meth c Z a0 own bytes maxL none nm) (X : St Z p l e R s m args below meth c n0 T h k n) (hd : decode bytes pc = .ok (.return_, 1)) (hQ : Qy none h) (hk : k ≤ kc) (hn : n ≤ kn) : Go p e below (FinQ s kc kn n0 Qy) (T.setTop (mkF m pc Ls [])) :=
  go_leave C X (fun _ => rfl) hQ hk hn fun Y _ hr => Y.returnOut C.1 C.rt (C.cd hd) hr
theorem go_retI (C : Cx p s m meth c Z a0 own bytes maxL (some .int) nm) (X : St Z p l e R s m args below meth c n0 T h k n) {z : Int32} (hd : decode bytes pc = .ok (.ireturn, 1)) (hQ : Qy (some (.int z)) h) (hk : k ≤ kc) (hn : n ≤ kn) : Go p e below (FinQ s kc kn n0 Qy) (T.setTop (mkF m pc Ls (.int z :: st))) :=
  go_leave C X (fun q => by rw [C.rt] at q; cases q) hQ hk hn fun Y _ hr => retOut Y C.1 C.rt rfl (Or.inl ⟨rfl, Or.inl rfl, _, rfl⟩) (C.cd hd) hr
theorem go_retJ (C : Cx p s m meth c Z a0 own bytes maxL (some .long) nm) (X : St Z p l e R s m args below meth c n0 T h k n) {z : Int64} (hd : decode bytes pc = .ok (.lreturn, 1)) (hQ : Qy (some (.long z)) h) (hk : k ≤ kc) (hn : n ≤ kn) : Go p e below (FinQ s kc kn n0 Qy) (T.setTop (mkF m pc Ls (.long z :: st))) :=
  go_leave C X (fun q => by rw [C.rt] at q; cases q) hQ hk hn fun Y _ hr => retOut Y C.1 C.rt rfl (Or.inr (Or.inl ⟨rfl, rfl, _, rfl⟩)) (C.cd hd) hr
theorem go_retD (C : Cx p s m meth c Z a0 own bytes maxL (some .double) nm) (X : St Z p l e R s m args below meth c n0 T h k n) {z : UInt64} (hd : decode bytes pc = .ok (.dreturn, 1)) (hQ : Qy (some (.double z)) h) (hk : k ≤ kc) (hn : n ≤ kn) : Go p e below (FinQ s kc kn n0 Qy) (T.setTop (mkF m pc Ls (.double z :: st))) :=
  go_leave C X (fun q => by rw [C.rt] at q; cases q) hQ hk hn fun Y _ hr => retOut Y C.1 C.rt rfl (Or.inr (Or.inr (Or.inl ⟨rfl, rfl, _, rfl⟩))) (C.cd hd) hr
theorem go_retA {ty : FieldType} (C : Cx p s m meth c Z a0 own bytes maxL (some ty) nm) (X : St Z p l e R s m args below meth c n0 T h k n) {v : Value} (hd : decode bytes pc = .ok (.areturn, 1)) (ht : ty.isReference = true) (hv : v.isRef = true) (hQ : Qy (some v) h) (hk : k ≤ kc) (hn : n ≤ kn) : Go p e below (FinQ s kc kn n0 Qy) (T.setTop (mkF m pc Ls (v :: st))) :=
  go_leave C X (fun q => by rw [C.rt] at q; cases q) hQ hk hn fun Y _ hr => retOut Y C.1 C.rt (by cases ty <;> first | (cases ht; done) | rfl) (Or.inr (Or.inr (Or.inr (Or.inr ⟨rfl, ht, hv⟩)))) (C.cd hd) hr
theorem go_retN {ty : FieldType} (C : Cx p s m meth c Z a0 own bytes maxL (some ty) nm) (X : St Z p l e R s m args below meth c n0 T h k n) {z z' : Int32} (ht : ty = .boolean ∨ ty = .byte ∨ ty = .char ∨ ty = .short) (hz : nar ty z = z') (hd : decode bytes pc = .ok (.ireturn, 1)) (hQ : Qy (some (.int z')) h) (hk : k ≤ kc) (hn : n ≤ kn) : Go p e below (FinQ s kc kn n0 Qy) (T.setTop (mkF m pc Ls (.int z :: st))) := by
  subst hz
  exact go_leave C X (fun q => by rw [C.rt] at q; cases q) hQ hk hn fun Y _ hr => retN Y C.1 C.rt ht (C.cd hd) hr
/-! calls by the callee's contract -/
variable {idx : Nat} {y : MethodName} {yb : ByteArray} {yl : Nat} {yr : Option FieldType} {rm : Room} {as' : Array Value} {QY : Option Value → Heap → Prop} {argsL rest : List Value}
theorem con_back (C : Cx p s m meth c Z a0 own bytes maxL ret nm) (hM : Con l Z y yb yl yr rm as' h n0 QY) {W : Nat} (wc : (Jvm.Cond.code y yb yl yr).before a0 Z = true) (wz : (Jvm.Cond.initialized y.cls).before a0 Z = true) (hf : rm.frames + 1 ≤ R.frames) (hl : W + (yl + 11) + rm.locals ≤ R.locals) :
    Back l R p e below s args y 3 W (fun A a => a = as' ∧ A.U.heap = h ∧ A.cells + rm.cells ≤ R.cells ∧ A.slots + rm.slots ≤ R.slots) (fun A _ v B => ∃ L, (Fr n0 L ∧ QY v B.U.heap) ∧ B.locs = A.locs ++ L ∧ B.cells = A.cells + rm.cells ∧ B.slots = A.slots + rm.slots) :=
  backOf (Q := fun v h' L => Fr n0 L ∧ QY v h') (hM []) C.hZ wc wz hf hl
theorem go_callS (C : Cx p s m meth c Z a0 own bytes maxL ret nm) (X : St Z p l e R s m args below meth c n0 T h k n) (wl : (Jvm.Cond.methodLink own idx y).before a0 Z = true) (ws : (Jvm.Cond.static y).before a0 Z = true) (wi : (Jvm.Cond.initialized y.cls).before a0 Z = true) (wc : (Jvm.Cond.code y yb yl yr).before a0 Z = true)
    (hM : Con l Z y yb yl yr rm as' h n0 QY) (hlen : ∀ sig, parseMethodDescriptor y.desc = some sig → argsL.length = sig.parameters.length) (ha : argsL.toArray = as') (hy : y.cls ≠ "java/lang/invoke/MethodHandle" ∧ y.cls ≠ "java/lang/invoke/VarHandle")
    (hf : rm.frames + 1 ≤ R.frames) (hl : (rest.map fun v => v.category).sum + (yl + 11) + rm.locals ≤ R.locals) (hc : k + rm.cells ≤ R.cells) (hn : n + rm.slots ≤ R.slots) (hst : st = argsL.reverse ++ rest) (hsz : Ls.size = maxL) (hp : pc + 3 = pc') (hd : decode bytes pc = .ok (.invokestatic idx, 3))
    (hr : ∀ T' h' v, QY v h' → St Z p l e R s m args below meth c n0 T' h' (k + rm.cells) (n + rm.slots) → Go p e below Q (T'.setTop (mkF m pc' Ls (v.toList ++ rest)))) : Go p e below Q (T.setTop (mkF m pc Ls st)) := by
  subst hp; subst ha; subst hst
  obtain ⟨locs, Y, N, zs, eT⟩ := X
  obtain ⟨v, _, ⟨T', L', k', n'⟩, -, X', ⟨Lc, ⟨N', hQ⟩, l1, y1, z1⟩, stp⟩ := Jvm.LawKit.callS Y C.1 C.ow (mvT C.hZ wl) (mvT C.hZ ws) (mvT C.hZ wi) (mvT C.hZ wc) hy (con_back C hM (W := (rest.map fun v => v.category).sum) wc wi hf hl) (g := mkF m pc Ls (argsL.reverse ++ rest)) rfl (hsz.trans C.ml.symm) (argsL := argsL) (rest := rest) hlen rfl (by show 2 * 0 + _ ≤ _; omega) (C.cd hd) (fun _ _ => ⟨rfl, eT, hc, hn⟩)
  dsimp only [Pt.U, Pt.locs, Pt.cells, Pt.slots] at X' l1 y1 z1 stp hQ
  subst l1 y1 z1
  exact Go.back stp (hr T' T'.heap v hQ ⟨_, X', N.app N', zs, rfl⟩)
theorem go_special (C : Cx p s m meth c Z a0 own bytes maxL ret nm) (X : St Z p l e R s m args below meth c n0 T h k n) {a : Addr} (wl : (Jvm.Cond.methodLink own idx y).before a0 Z = true) (ws : (Jvm.Cond.instanceMethod y).before a0 Z = true) (wi : (Jvm.Cond.initialized y.cls).before a0 Z = true) (wc : (Jvm.Cond.code y yb yl none).before a0 Z = true) (hy1 : y.name = "<init>")
    (hM : Con l Z y yb yl none rm as' h n0 QY) (hlen : ∀ sig, parseMethodDescriptor y.desc = some sig → argsL.length = sig.parameters.length) (ha : (.ref a :: argsL).toArray = as') (hy : y.cls ≠ "java/lang/invoke/MethodHandle" ∧ y.cls ≠ "java/lang/invoke/VarHandle")
    (hf : rm.frames + 1 ≤ R.frames) (hl : (rest.map fun v => v.category).sum + (yl + 11) + rm.locals ≤ R.locals) (hc : k + rm.cells ≤ R.cells) (hn : n + rm.slots ≤ R.slots) (hst : st = argsL.reverse ++ .ref a :: rest) (hsz : Ls.size = maxL) (hp : pc + 3 = pc') (hd : decode bytes pc = .ok (.invokespecial idx, 3))
    (hr : ∀ T' h' v, QY v h' → St Z p l e R s m args below meth c n0 T' h' (k + rm.cells) (n + rm.slots) → Go p e below Q (T'.setTop (mkF m pc' Ls (v.toList ++ rest)))) : Go p e below Q (T.setTop (mkF m pc Ls st)) := by
  subst hp; subst ha; subst hst
  obtain ⟨locs, Y, N, zs, eT⟩ := X
  obtain ⟨v, _, ⟨T', L', k', n'⟩, -, X', ⟨Lc, ⟨N', hQ⟩, l1, y1, z1⟩, stp⟩ := Y.specialBack C.1 hy1 C.ow (mvT C.hZ wl) (mvT C.hZ ws) (mvT C.hZ wc) hy (con_back C hM (W := (rest.map fun v => v.category).sum) wc wi hf hl) (g := mkF m pc Ls (argsL.reverse ++ .ref a :: rest)) rfl (hsz.trans C.ml.symm) (Steps.refl _) (a := a) (argsL := argsL) (rest := rest) hlen rfl (by show 2 * 0 + _ ≤ _; omega) (C.cd hd) (fun _ _ => ⟨rfl, eT, hc, hn⟩)
  dsimp only [Pt.U, Pt.locs, Pt.cells, Pt.slots] at X' l1 y1 z1 stp hQ
  subst l1 y1 z1
  exact Go.back (fun t kt => stp.trans kt) (hr T' T'.heap v hQ ⟨_, X', N.app N', zs, rfl⟩)
theorem go_virtual (C : Cx p s m meth c Z a0 own bytes maxL ret nm) (X : St Z p l e R s m args below meth c n0 T h k n) {a : Addr} {cn : String} {y0 : MethodName} (E : Exa Z h a cn) (wl : (Jvm.Cond.methodLink own idx y0).before a0 Z = true) (wd : (Jvm.Cond.declares y0).before a0 Z = true) (hnf : NotFace s y0) (wsel : (Jvm.Cond.selects cn y0 y).before a0 Z = true) (ws : (Jvm.Cond.instanceMethod y).before a0 Z = true) (wi : (Jvm.Cond.initialized y.cls).before a0 Z = true) (wc : (Jvm.Cond.code y yb yl yr).before a0 Z = true)
    (hM : Con l Z y yb yl yr rm as' h n0 QY) (hlen : ∀ sig, parseMethodDescriptor y0.desc = some sig → argsL.length = sig.parameters.length) (ha : (.ref a :: argsL).toArray = as') (hy : y0.cls ≠ "java/lang/invoke/MethodHandle" ∧ y0.cls ≠ "java/lang/invoke/VarHandle")
    (hf : rm.frames + 1 ≤ R.frames) (hl : (rest.map fun v => v.category).sum + (yl + 11) + rm.locals ≤ R.locals) (hc : k + rm.cells ≤ R.cells) (hn : n + rm.slots ≤ R.slots) (hst : st = argsL.reverse ++ .ref a :: rest) (hsz : Ls.size = maxL) (hp : pc + 3 = pc') (hd : decode bytes pc = .ok (.invokevirtual idx, 3))
    (hr : ∀ T' h' v, QY v h' → St Z p l e R s m args below meth c n0 T' h' (k + rm.cells) (n + rm.slots) → Go p e below Q (T'.setTop (mkF m pc' Ls (v.toList ++ rest)))) : Go p e below Q (T.setTop (mkF m pc Ls st)) := by
  subst hp; subst ha; subst hst
  obtain ⟨locs, Y, N, zs, eT⟩ := X
  obtain ⟨cq, kq, qa, qb, qc⟩ := isOf C.hZ eT E
  obtain ⟨v, _, ⟨T', L', k', n'⟩, -, X', ⟨Lc, ⟨N', hQ⟩, l1, y1, z1⟩, stp⟩ := Y.virtualBack C.1 C.ow (mvT C.hZ wl) (mvT C.hZ wd) hnf (mvT C.hZ wsel) (mvT C.hZ ws) hy (con_back C hM (W := (rest.map fun v => v.category).sum) wc wi hf hl) qa qc (g := mkF m pc Ls (argsL.reverse ++ .ref a :: rest)) rfl (hsz.trans C.ml.symm) (Steps.refl _) (argsL := argsL) (rest := rest) hlen rfl (by show 2 * 0 + _ ≤ _; omega) (C.cd hd) (fun _ _ => ⟨rfl, eT, hc, hn⟩)
  dsimp only [Pt.U, Pt.locs, Pt.cells, Pt.slots] at X' l1 y1 z1 stp hQ
  subst l1 y1 z1
  exact Go.back (fun t kt => stp.trans kt) (hr T' T'.heap v hQ ⟨_, X', N.app N', zs, rfl⟩)
theorem go_private (C : Cx p s m meth c Z a0 own bytes maxL ret nm) (X : St Z p l e R s m args below meth c n0 T h k n) {a : Addr} {cn : String} (E : Exa Z h a cn) (wl : (Jvm.Cond.methodLink own idx y).before a0 Z = true) (ws : (Jvm.Cond.instanceMethod y).before a0 Z = true) (wsel : (Jvm.Cond.selects y.cls y y).before a0 Z = true) (wp : (Jvm.Cond.privateMethod y).before a0 Z = true) (wi : (Jvm.Cond.initialized y.cls).before a0 Z = true) (wc : (Jvm.Cond.code y yb yl yr).before a0 Z = true)
    (hM : Con l Z y yb yl yr rm as' h n0 QY) (hlen : ∀ sig, parseMethodDescriptor y.desc = some sig → argsL.length = sig.parameters.length) (ha : (.ref a :: argsL).toArray = as') (hy : y.cls ≠ "java/lang/invoke/MethodHandle" ∧ y.cls ≠ "java/lang/invoke/VarHandle")
    (hf : rm.frames + 1 ≤ R.frames) (hl : (rest.map fun v => v.category).sum + (yl + 11) + rm.locals ≤ R.locals) (hc : k + rm.cells ≤ R.cells) (hn : n + rm.slots ≤ R.slots) (hst : st = argsL.reverse ++ .ref a :: rest) (hsz : Ls.size = maxL) (hp : pc + 3 = pc') (hd : decode bytes pc = .ok (.invokevirtual idx, 3))
    (hr : ∀ T' h' v, QY v h' → St Z p l e R s m args below meth c n0 T' h' (k + rm.cells) (n + rm.slots) → Go p e below Q (T'.setTop (mkF m pc' Ls (v.toList ++ rest)))) : Go p e below Q (T.setTop (mkF m pc Ls st)) := by
  subst hp; subst ha; subst hst
  obtain ⟨locs, Y, N, zs, eT⟩ := X
  obtain ⟨cq, q1, q2⟩ := E.cell
  obtain ⟨v, _, ⟨T', L', k', n'⟩, -, X', ⟨Lc, ⟨N', hQ⟩, l1, y1, z1⟩, stp⟩ := Y.privateBack C.1 C.ow (mvT C.hZ wl) (mvT C.hZ ws) (mvT C.hZ wsel) (Cond.privateMethod_at (mvP C.hZ wp (args := #[]))) (mvT C.hZ wc) hy (con_back C hM (W := (rest.map fun v => v.category).sum) wc wi hf hl) (g := mkF m pc Ls (argsL.reverse ++ .ref a :: rest)) rfl (hsz.trans C.ml.symm) (Steps.refl _) (a := a) (by rw [eT]; exact q1) q2 (argsL := argsL) (rest := rest) hlen rfl (by show 2 * 0 + _ ≤ _; omega) (C.cd hd) (fun _ _ => ⟨rfl, eT, hc, hn⟩)
  dsimp only [Pt.U, Pt.locs, Pt.cells, Pt.slots] at X' l1 y1 z1 stp hQ
  subst l1 y1 z1
  exact Go.back (fun t kt => stp.trans kt) (hr T' T'.heap v hQ ⟨_, X', N.app N', zs, rfl⟩)
theorem go_initO (C : Cx p s m meth c Z a0 own bytes maxL ret nm) (X : St Z p l e R s m args below meth c n0 T h k n) {a : Addr} (w1 : (Jvm.Cond.methodLink own idx Lib.objectInit).before a0 Z = true) (w2 : (Jvm.Cond.instanceMethod Lib.objectInit).before a0 Z = true) (w3 : (Jvm.Cond.code Lib.objectInit ⟨#[0xb1]⟩ 1 none).before a0 Z = true)
    (hf : 1 ≤ R.frames) (hl : (st.map fun v => v.category).sum + 12 ≤ R.locals) (hsz : Ls.size = maxL) (hp : pc + 3 = pc') (hd : decode bytes pc = .ok (.invokespecial idx, 3))
    (hr : ∀ T', St Z p l e R s m args below meth c n0 T' h k n → Go p e below Q (T'.setTop (mkF m pc' Ls st))) : Go p e below Q (T.setTop (mkF m pc Ls (.ref a :: st))) := by
  subst hp
  obtain ⟨locs, Y, N, zs, eT⟩ := X
  obtain ⟨T', X', e', stp⟩ := initO Y C.1 C.hZ C.ow w1 w2 w3 eT (g := mkF m pc Ls (.ref a :: st)) rfl (hsz.trans C.ml.symm) rfl (C.cd hd) hf (W := (st.map fun v => v.category).sum) (by show 2 * 0 + _ ≤ _; omega) hl
  exact Go.back stp (hr T' ⟨_, X', N, zs, e'⟩)
/-! fields, new objects, arrays -/
theorem go_getF (C : Cx p s m meth c Z a0 own bytes maxL ret nm) (X : St Z p l e R s m args below meth c n0 T h k n) {R0 O fn d : String} {a : Addr} {v : Value} (w : (Jvm.Cond.fieldLink own idx R0 fn d).before a0 Z = true) (via : Via Z R0 O fn d) (F : Fld Z h a O fn d v) (hp : pc + 3 = pc') (hd : decode bytes pc = .ok (.getfield idx, 3))
    (hr : ∀ T', St Z p l e R s m args below meth c n0 T' h k n → Go p e below Q (T'.setTop (mkF m pc' Ls (v :: st)))) : Go p e below Q (T.setTop (mkF m pc Ls (.ref a :: st))) := by
  subst hp
  obtain ⟨locs, Y, N, zs, eT⟩ := X
  obtain ⟨T', X', e', stp⟩ := getF Y C.1 C.hZ C.ow (host := "") (Or.inl w) via eT F (g := mkF m pc Ls (.ref a :: st)) rfl rfl (C.cd hd)
  exact Go.back stp (hr T' ⟨_, X', N, zs, e'⟩)
theorem go_getFN (C : Cx p s m meth c Z a0 own bytes maxL ret nm) (X : St Z p l e R s m args below meth c n0 T h k n) {R0 O fn d host : String} {a : Addr} {v : Value} (w : (Jvm.Cond.fieldLinkNest own idx R0 fn d host).before a0 Z = true) (via : Via Z R0 O fn d) (F : Fld Z h a O fn d v) (hp : pc + 3 = pc') (hd : decode bytes pc = .ok (.getfield idx, 3))
    (hr : ∀ T', St Z p l e R s m args below meth c n0 T' h k n → Go p e below Q (T'.setTop (mkF m pc' Ls (v :: st)))) : Go p e below Q (T.setTop (mkF m pc Ls (.ref a :: st))) := by
  subst hp
  obtain ⟨locs, Y, N, zs, eT⟩ := X
  obtain ⟨T', X', e', stp⟩ := getF Y C.1 C.hZ C.ow (host := host) (Or.inr w) via eT F (g := mkF m pc Ls (.ref a :: st)) rfl rfl (C.cd hd)
  exact Go.back stp (hr T' ⟨_, X', N, zs, e'⟩)
theorem go_getS (C : Cx p s m meth c Z a0 own bytes maxL ret nm) (X : St Z p l e R s m args below meth c n0 T h k n) {O fn d : String} {v : Value} (w : (Jvm.Cond.fieldLink own idx O fn d).before a0 Z = true) (F : Sta Z h O fn d v) (hp : pc + 3 = pc') (hd : decode bytes pc = .ok (.getstatic idx, 3))
    (hr : ∀ T', St Z p l e R s m args below meth c n0 T' h k n → Go p e below Q (T'.setTop (mkF m pc' Ls (v :: st)))) : Go p e below Q (T.setTop (mkF m pc Ls st)) := by
  subst hp
  obtain ⟨locs, Y, N, zs, eT⟩ := X
  obtain ⟨T', X', e', stp⟩ := getS2 Y C.1 C.hZ C.ow (host := "") (Or.inl w) Via.refl eT F (g := mkF m pc Ls st) rfl (C.cd hd)
  exact Go.back stp (hr T' ⟨_, X', N, zs, e'⟩)
theorem go_putF (C : Cx p s m meth c Z a0 own bytes maxL ret nm) (X : St Z p l e R s m args below meth c n0 T h k n) {R0 O fn d cn : String} {kk : Nat} {ty : FieldType} {a : Addr} {v old : Value} (w : (Jvm.Cond.fieldLink own idx R0 fn d).before a0 Z = true) (via : Via Z R0 O fn d) (F : Fld Z h a O fn d old) (E : Exa Z h a cn) (L : (Jvm.Cond.lays cn O fn d).before a0 Z = true ∨ ((Jvm.Cond.laysFinal cn O fn d).before a0 Z = true ∧ own = O ∧ meth.name = "<init>")) (wi : (Jvm.Cond.instantiable cn kk).before a0 Z = true) (ga : n0 ≤ a)
    (hty : parseFieldDescriptor d = some ty) (hn : narrow ty v = v) (hf : fits ty v = true) (hp : pc + 3 = pc') (hd : decode bytes pc = .ok (.putfield idx, 3))
    (hr : ∀ T' h', Wr h h' a (Jvm.RoadKit.slotOf Z O fn d) v → St Z p l e R s m args below meth c n0 T' h' k n → Go p e below Q (T'.setTop (mkF m pc' Ls st))) : Go p e below Q (T.setTop (mkF m pc Ls (v :: .ref a :: st))) := by
  subst hp
  obtain ⟨locs, Y, N, zs, eT⟩ := X
  obtain ⟨T', h', X', e', W, stp⟩ := putF Y C.1 C.hZ C.ow (host := "") (Or.inl w) via eT F E L wi hty hn hf (g := mkF m pc Ls (v :: .ref a :: st)) rfl rfl (C.cd hd)
  exact Go.back stp (hr T' h' W ⟨_, X', Fr.snoc X' N ga, zs, e'⟩)
theorem go_putFN (C : Cx p s m meth c Z a0 own bytes maxL ret nm) (X : St Z p l e R s m args below meth c n0 T h k n) {R0 O fn d cn : String} {kk : Nat} {ty : FieldType} {a : Addr} {v v' old : Value} (w : (Jvm.Cond.fieldLink own idx R0 fn d).before a0 Z = true) (via : Via Z R0 O fn d) (F : Fld Z h a O fn d old) (E : Exa Z h a cn) (L : (Jvm.Cond.lays cn O fn d).before a0 Z = true ∨ ((Jvm.Cond.laysFinal cn O fn d).before a0 Z = true ∧ own = O ∧ meth.name = "<init>")) (wi : (Jvm.Cond.instantiable cn kk).before a0 Z = true) (ga : n0 ≤ a)
    (hty : parseFieldDescriptor d = some ty) (hn : narrow ty v = v') (hf : fits ty v' = true) (hp : pc + 3 = pc') (hd : decode bytes pc = .ok (.putfield idx, 3))
    (hr : ∀ T' h', Wr h h' a (Jvm.RoadKit.slotOf Z O fn d) v' → St Z p l e R s m args below meth c n0 T' h' k n → Go p e below Q (T'.setTop (mkF m pc' Ls st))) : Go p e below Q (T.setTop (mkF m pc Ls (v :: .ref a :: st))) := by
  subst hp
  obtain ⟨locs, Y, N, zs, eT⟩ := X
  obtain ⟨T', h', X', e', W, stp⟩ := putFN Y C.1 C.hZ C.ow w via eT F E L wi hty hn hf (g := mkF m pc Ls (v :: .ref a :: st)) rfl rfl (C.cd hd)
  exact Go.back stp (hr T' h' W ⟨_, X', Fr.snoc X' N ga, zs, e'⟩)
theorem go_new (C : Cx p s m meth c Z a0 own bytes maxL ret nm) (X : St Z p l e R s m args below meth c n0 T h k n) {cn : String} {kk : Nat} (w : (Jvm.Cond.classLink own idx cn).before a0 Z = true) (wi : (Jvm.Cond.instantiable cn kk).before a0 Z = true) (wz : (Jvm.Cond.initialized cn).before a0 Z = true) (hc : k + 1 ≤ R.cells) (hl : n + kk ≤ R.slots) (hp : pc + 3 = pc') (hd : decode bytes pc = .ok (.new idx, 3))
    (hr : ∀ T' h' a, a = h.size → n0 ≤ a → Ext h h' → Exa Z h' a cn → (∀ {O fn d : String} {ty : FieldType}, Laid Z a0 cn O fn d → parseFieldDescriptor d = some ty → Fld Z h' a O fn d (defaultValue ty)) → St Z p l e R s m args below meth c n0 T' h' (k + 1) (n + kk) → Go p e below Q (T'.setTop (mkF m pc' Ls (.ref a :: st)))) : Go p e below Q (T.setTop (mkF m pc Ls st)) := by
  subst hp
  have hsz := X.sz
  obtain ⟨locs, Y, N, zs, eT⟩ := X
  obtain ⟨T', h', X', e', E, A, D, -, stp⟩ := newO Y C.1 C.hZ C.ow w wi wz eT (g := mkF m pc Ls st) rfl (C.cd hd) hc hl
  exact Go.back stp (hr T' h' _ rfl hsz E A D ⟨_, X', N, zs, e'⟩)
/-- an array whose components are vs -/
def La (Z : State) (h : Heap) (a : Addr) (ty : FieldType) (vs : List Value) : Prop := ∃ c : Cell, Arr Z h a c ty ∧ c.slots = vs.toArray ∧ vs.length < 2 ^ 31 ∧ ∀ v ∈ vs, fits ty v = true
theorem La.lt {a : Addr} {ty : FieldType} {vs : List Value} (F : La Z h a ty vs) : a < h.size := by obtain ⟨c, A, -⟩ := F; exact A.lt
theorem La.len {a : Addr} {ty : FieldType} {vs : List Value} (F : La Z h a ty vs) : vs.length < 2 ^ 31 := by obtain ⟨c, A, -, q, -⟩ := F; exact q
theorem La.ext {h' : Heap} {a : Addr} {ty : FieldType} {vs : List Value} (F : La Z h a ty vs) (E : Ext h h') : La Z h' a ty vs := by obtain ⟨c, A, r⟩ := F; exact ⟨c, A.ext E, r⟩
theorem La.other {h' : Heap} {a b : Addr} {sl : Nat} {v : Value} {ty : FieldType} {vs : List Value} (F : La Z h b ty vs) (W : Wr h h' a sl v) (q : b ≠ a) : La Z h' b ty vs := by obtain ⟨c, A, r⟩ := F; exact ⟨c, A.other W q, r⟩
theorem La.keep {h' : Heap} {a : Addr} {ws : List Addr} {ty : FieldType} {vs : List Value} (F : La Z h a ty vs) (K : Keep h h' ws) (q : a ∉ ws) : La Z h' a ty vs := by obtain ⟨c, A, r⟩ := F; exact ⟨c, ⟨K.2.1 a c A.1 q, A.2⟩, r⟩
theorem La.set {h' : Heap} {a : Addr} {j : Nat} {v : Value} {ty : FieldType} {vs : List Value} (F : La Z h a ty vs) (W : Wr h h' a j v) (hv : fits ty v = true) : La Z h' a ty (vs.set j v) := by
  obtain ⟨c, A, e1, e2, e3⟩ := F
  refine ⟨_, A.same W, ?_, by simpa using e2, fun w hw => ?_⟩
  · simp [Cell.setSlot, e1]
  · rcases List.mem_or_eq_of_mem_set hw with q | q
    · exact e3 w q
    · subst q; exact hv
theorem clamp_eq {j : Int32} (q : 0 ≤ j.toInt) : (j.toNatClampNeg : Int) = j.toInt := by show ((j.toInt.toNat : Nat) : Int) = _; omega
theorem neg_not {j : Int32} (q : 0 ≤ j.toInt) : ¬ j < 0 := by rw [Int32.lt_iff_toInt_lt]; have : (0 : Int32).toInt = 0 := rfl; omega
theorem La.inb {c : Cell} {vs : List Value} {j : Int32} {v : Value} (e : c.slots = vs.toArray) (q : 0 ≤ j.toInt) (hv : vs[j.toNatClampNeg]? = some v) : ¬ (j < 0 ∨ c.slots.size ≤ j.toNatClampNeg) ∧ c.slots[j.toNatClampNeg]? = some v := by
  obtain ⟨hl, -⟩ := List.getElem?_eq_some_iff.mp hv
  refine ⟨fun r => r.elim (neg_not q) fun r => ?_, by rw [e]; simpa using hv⟩
  rw [e] at r; simp at r; omega
theorem go_alen (C : Cx p s m meth c Z a0 own bytes maxL ret nm) (X : St Z p l e R s m args below meth c n0 T h k n) {a : Addr} {ty : FieldType} {vs : List Value} {z : Int32} (A : La Z h a ty vs) (hz : vs.length.toInt32 = z) (hp : pc + 1 = pc') (hd : decode bytes pc = .ok (.arraylength, 1)) (hr : Go p e below Q (T.setTop (mkF m pc' Ls (.int z :: st)))) : Go p e below Q (T.setTop (mkF m pc Ls (.ref a :: st))) := by
  subst hp
  obtain ⟨locs, Y, N, zs, eT⟩ := X
  obtain ⟨cl, B, e1, e2, e3⟩ := A
  have ez : cl.slots.size.toInt32 = z := by rw [e1]; simpa using hz
  subst ez
  exact Go.back (fun t kt => Y.arraylength C.1 (by rw [eT]; exact B.1) (State.isArrayOf_alike C.hZ.alike B.2.1) (g := mkF m pc Ls (.ref a :: st)) rfl rfl (C.cd hd) t kt) hr

theorem go_iaload (C : Cx p s m meth c Z a0 own bytes maxL ret nm) (X : St Z p l e R s m args below meth c n0 T h k n) {a : Addr} {vs : List Value} {j : Int32} {v : Value} (A : La Z h a .int vs) (q : 0 ≤ j.toInt) (hv : vs[j.toNatClampNeg]? = some v) (hp : pc + 1 = pc') (hd : decode bytes pc = .ok (.iaload, 1)) (hr : Go p e below Q (T.setTop (mkF m pc' Ls (v :: st)))) : Go p e below Q (T.setTop (mkF m pc Ls (.int j :: .ref a :: st))) := by
  subst hp
  obtain ⟨locs, Y, N, zs, eT⟩ := X
  obtain ⟨cl, B, e1, e2, e3⟩ := A
  obtain ⟨i1, i2⟩ := La.inb e1 q hv
  exact Go.back (fun t kt => Y.iaload C.1 (by rw [eT]; exact B.1) (State.isArrayOf_alike C.hZ.alike B.2.1) B.2.2 i1 i2 (g := mkF m pc Ls (.int j :: .ref a :: st)) rfl rfl (C.cd hd) t kt) hr
theorem go_laload (C : Cx p s m meth c Z a0 own bytes maxL ret nm) (X : St Z p l e R s m args below meth c n0 T h k n) {a : Addr} {vs : List Value} {j : Int32} {v : Value} (A : La Z h a .long vs) (q : 0 ≤ j.toInt) (hv : vs[j.toNatClampNeg]? = some v) (hp : pc + 1 = pc') (hd : decode bytes pc = .ok (.laload, 1)) (hr : Go p e below Q (T.setTop (mkF m pc' Ls (v :: st)))) : Go p e below Q (T.setTop (mkF m pc Ls (.int j :: .ref a :: st))) := by
  subst hp
  obtain ⟨locs, Y, N, zs, eT⟩ := X
  obtain ⟨cl, B, e1, e2, e3⟩ := A
  obtain ⟨i1, i2⟩ := La.inb e1 q hv
  exact Go.back (fun t kt => Y.laload C.1 (by rw [eT]; exact B.1) (State.isArrayOf_alike C.hZ.alike B.2.1) B.2.2 i1 i2 (g := mkF m pc Ls (.int j :: .ref a :: st)) rfl rfl (C.cd hd) t kt) hr
theorem go_caload (C : Cx p s m meth c Z a0 own bytes maxL ret nm) (X : St Z p l e R s m args below meth c n0 T h k n) {a : Addr} {vs : List Value} {j : Int32} {v : Value} (A : La Z h a .char vs) (q : 0 ≤ j.toInt) (hv : vs[j.toNatClampNeg]? = some v) (hp : pc + 1 = pc') (hd : decode bytes pc = .ok (.caload, 1)) (hr : Go p e below Q (T.setTop (mkF m pc' Ls (v :: st)))) : Go p e below Q (T.setTop (mkF m pc Ls (.int j :: .ref a :: st))) := by
  subst hp
  obtain ⟨locs, Y, N, zs, eT⟩ := X
  obtain ⟨cl, B, e1, e2, e3⟩ := A
  obtain ⟨i1, i2⟩ := La.inb e1 q hv
  exact Go.back (fun t kt => Y.caload C.1 (by rw [eT]; exact B.1) (State.isArrayOf_alike C.hZ.alike B.2.1) B.2.2 i1 i2 (g := mkF m pc Ls (.int j :: .ref a :: st)) rfl rfl (C.cd hd) t kt) hr
theorem go_saload (C : Cx p s m meth c Z a0 own bytes maxL ret nm) (X : St Z p l e R s m args below meth c n0 T h k n) {a : Addr} {vs : List Value} {j : Int32} {v : Value} (A : La Z h a .short vs) (q : 0 ≤ j.toInt) (hv : vs[j.toNatClampNeg]? = some v) (hp : pc + 1 = pc') (hd : decode bytes pc = .ok (.saload, 1)) (hr : Go p e below Q (T.setTop (mkF m pc' Ls (v :: st)))) : Go p e below Q (T.setTop (mkF m pc Ls (.int j :: .ref a :: st))) := by
  subst hp
  obtain ⟨locs, Y, N, zs, eT⟩ := X
  obtain ⟨cl, B, e1, e2, e3⟩ := A
  obtain ⟨i1, i2⟩ := La.inb e1 q hv
  exact Go.back (fun t kt => Y.saload C.1 (by rw [eT]; exact B.1) (State.isArrayOf_alike C.hZ.alike B.2.1) B.2.2 i1 i2 (g := mkF m pc Ls (.int j :: .ref a :: st)) rfl rfl (C.cd hd) t kt) hr
theorem go_daload (C : Cx p s m meth c Z a0 own bytes maxL ret nm) (X : St Z p l e R s m args below meth c n0 T h k n) {a : Addr} {vs : List Value} {j : Int32} {v : Value} (A : La Z h a .double vs) (q : 0 ≤ j.toInt) (hv : vs[j.toNatClampNeg]? = some v) (hp : pc + 1 = pc') (hd : decode bytes pc = .ok (.daload, 1)) (hr : Go p e below Q (T.setTop (mkF m pc' Ls (v :: st)))) : Go p e below Q (T.setTop (mkF m pc Ls (.int j :: .ref a :: st))) := by
  subst hp
  obtain ⟨locs, Y, N, zs, eT⟩ := X
  obtain ⟨cl, B, e1, e2, e3⟩ := A
  obtain ⟨i1, i2⟩ := La.inb e1 q hv
  exact Go.back (fun t kt => Y.daload C.1 (by rw [eT]; exact B.1) (State.isArrayOf_alike C.hZ.alike B.2.1) B.2.2 i1 i2 (g := mkF m pc Ls (.int j :: .ref a :: st)) rfl rfl (C.cd hd) t kt) hr
theorem go_baloadBytes (C : Cx p s m meth c Z a0 own bytes maxL ret nm) (X : St Z p l e R s m args below meth c n0 T h k n) {a : Addr} {vs : List Value} {j : Int32} {v : Value} (A : La Z h a .byte vs) (q : 0 ≤ j.toInt) (hv : vs[j.toNatClampNeg]? = some v) (hp : pc + 1 = pc') (hd : decode bytes pc = .ok (.baload, 1)) (hr : Go p e below Q (T.setTop (mkF m pc' Ls (v :: st)))) : Go p e below Q (T.setTop (mkF m pc Ls (.int j :: .ref a :: st))) := by
  subst hp
  obtain ⟨locs, Y, N, zs, eT⟩ := X
  obtain ⟨cl, B, e1, e2, e3⟩ := A
  obtain ⟨i1, i2⟩ := La.inb e1 q hv
  exact Go.back (fun t kt => Y.baloadBytes C.1 (by rw [eT]; exact B.1) (State.isArrayOf_alike C.hZ.alike B.2.1) B.2.2 i1 i2 (g := mkF m pc Ls (.int j :: .ref a :: st)) rfl rfl (C.cd hd) t kt) hr
theorem go_baloadBooleans (C : Cx p s m meth c Z a0 own bytes maxL ret nm) (X : St Z p l e R s m args below meth c n0 T h k n) {a : Addr} {vs : List Value} {j : Int32} {v : Value} (A : La Z h a .boolean vs) (q : 0 ≤ j.toInt) (hv : vs[j.toNatClampNeg]? = some v) (hp : pc + 1 = pc') (hd : decode bytes pc = .ok (.baload, 1)) (hr : Go p e below Q (T.setTop (mkF m pc' Ls (v :: st)))) : Go p e below Q (T.setTop (mkF m pc Ls (.int j :: .ref a :: st))) := by
  subst hp
  obtain ⟨locs, Y, N, zs, eT⟩ := X
  obtain ⟨cl, B, e1, e2, e3⟩ := A
  obtain ⟨i1, i2⟩ := La.inb e1 q hv
  exact Go.back (fun t kt => Y.baloadBooleans C.1 (by rw [eT]; exact B.1) (State.isArrayOf_alike C.hZ.alike B.2.1) B.2.2 i1 i2 (g := mkF m pc Ls (.int j :: .ref a :: st)) rfl rfl (C.cd hd) t kt) hr
theorem go_aaload (C : Cx p s m meth c Z a0 own bytes maxL ret nm) (X : St Z p l e R s m args below meth c n0 T h k n) {a : Addr} {vs : List Value} {ty : FieldType} {j : Int32} {v : Value} (A : La Z h a ty vs) (ht : ty.isReference = true) (q : 0 ≤ j.toInt) (hv : vs[j.toNatClampNeg]? = some v) (hp : pc + 1 = pc') (hd : decode bytes pc = .ok (.aaload, 1)) (hr : Go p e below Q (T.setTop (mkF m pc' Ls (v :: st)))) : Go p e below Q (T.setTop (mkF m pc Ls (.int j :: .ref a :: st))) := by
  subst hp
  obtain ⟨locs, Y, N, zs, eT⟩ := X
  obtain ⟨cl, B, e1, e2, e3⟩ := A
  obtain ⟨i1, i2⟩ := La.inb e1 q hv
  exact Go.back (fun t kt => Y.aaload C.1 (by rw [eT]; exact B.1) (State.isArrayOf_alike C.hZ.alike B.2.1) ht B.2.2 i1 i2 (g := mkF m pc Ls (.int j :: .ref a :: st)) rfl rfl (C.cd hd) t kt) hr
theorem go_iastore (C : Cx p s m meth c Z a0 own bytes maxL ret nm) (X : St Z p l e R s m args below meth c n0 T h k n) {a : Addr} {vs : List Value} {j : Int32} {x : Int32} (A : La Z h a .int vs) (q : 0 ≤ j.toInt) (hj : j.toInt < vs.length) (ga : n0 ≤ a) (hp : pc + 1 = pc') (hd : decode bytes pc = .ok (.iastore, 1))
    (hr : ∀ T' h', Wr h h' a j.toNatClampNeg (.int x) → La Z h' a .int (vs.set j.toNatClampNeg (.int x)) → St Z p l e R s m args below meth c n0 T' h' k n → Go p e below Q (T'.setTop (mkF m pc' Ls st))) : Go p e below Q (T.setTop (mkF m pc Ls (.int x :: .int j :: .ref a :: st))) := by
  subst hp
  obtain ⟨locs, Y, N, zs, eT⟩ := X
  have A' := A
  obtain ⟨cl, B, e1, e2, e3⟩ := A
  have i1 : ¬ (j < 0 ∨ cl.slots.size ≤ j.toNatClampNeg) := fun r => r.elim (neg_not q) fun r => by
    rw [e1] at r; simp at r; have := clamp_eq q; omega
  obtain ⟨T', h', X', e', W, stp⟩ := stI Y C.1 C.hZ eT B i1 (g := mkF m pc Ls (.int x :: .int j :: .ref a :: st)) rfl rfl (C.cd hd)
  exact Go.back stp (hr T' h' W (A'.set W rfl) ⟨_, X', Fr.snoc X' N ga, zs, e'⟩)
theorem go_lastore (C : Cx p s m meth c Z a0 own bytes maxL ret nm) (X : St Z p l e R s m args below meth c n0 T h k n) {a : Addr} {vs : List Value} {j : Int32} {x : Int64} (A : La Z h a .long vs) (q : 0 ≤ j.toInt) (hj : j.toInt < vs.length) (ga : n0 ≤ a) (hp : pc + 1 = pc') (hd : decode bytes pc = .ok (.lastore, 1))
    (hr : ∀ T' h', Wr h h' a j.toNatClampNeg (.long x) → La Z h' a .long (vs.set j.toNatClampNeg (.long x)) → St Z p l e R s m args below meth c n0 T' h' k n → Go p e below Q (T'.setTop (mkF m pc' Ls st))) : Go p e below Q (T.setTop (mkF m pc Ls (.long x :: .int j :: .ref a :: st))) := by
  subst hp
  obtain ⟨locs, Y, N, zs, eT⟩ := X
  have A' := A
  obtain ⟨cl, B, e1, e2, e3⟩ := A
  have i1 : ¬ (j < 0 ∨ cl.slots.size ≤ j.toNatClampNeg) := fun r => r.elim (neg_not q) fun r => by
    rw [e1] at r; simp at r; have := clamp_eq q; omega
  obtain ⟨T', h', X', e', W, stp⟩ := stJ Y C.1 C.hZ eT B i1 (g := mkF m pc Ls (.long x :: .int j :: .ref a :: st)) rfl rfl (C.cd hd)
  exact Go.back stp (hr T' h' W (A'.set W rfl) ⟨_, X', Fr.snoc X' N ga, zs, e'⟩)
theorem go_dastore (C : Cx p s m meth c Z a0 own bytes maxL ret nm) (X : St Z p l e R s m args below meth c n0 T h k n) {a : Addr} {vs : List Value} {j : Int32} {x : UInt64} (A : La Z h a .double vs) (q : 0 ≤ j.toInt) (hj : j.toInt < vs.length) (ga : n0 ≤ a) (hp : pc + 1 = pc') (hd : decode bytes pc = .ok (.dastore, 1))
    (hr : ∀ T' h', Wr h h' a j.toNatClampNeg (.double x) → La Z h' a .double (vs.set j.toNatClampNeg (.double x)) → St Z p l e R s m args below meth c n0 T' h' k n → Go p e below Q (T'.setTop (mkF m pc' Ls st))) : Go p e below Q (T.setTop (mkF m pc Ls (.double x :: .int j :: .ref a :: st))) := by
  subst hp
  obtain ⟨locs, Y, N, zs, eT⟩ := X
  have A' := A
  obtain ⟨cl, B, e1, e2, e3⟩ := A
  have i1 : ¬ (j < 0 ∨ cl.slots.size ≤ j.toNatClampNeg) := fun r => r.elim (neg_not q) fun r => by
    rw [e1] at r; simp at r; have := clamp_eq q; omega
  obtain ⟨T', h', X', e', W, stp⟩ := stD Y C.1 C.hZ eT B i1 (g := mkF m pc Ls (.double x :: .int j :: .ref a :: st)) rfl rfl (C.cd hd)
  exact Go.back stp (hr T' h' W (A'.set W rfl) ⟨_, X', Fr.snoc X' N ga, zs, e'⟩)
theorem go_newarr (C : Cx p s m meth c Z a0 own bytes maxL ret nm) (X : St Z p l e R s m args below meth c n0 T h k n) {aty : ArrayType} (w : (Jvm.Cond.arrayClass (newarray.typeOf aty)).before a0 Z = true) {z : Int32} {cap : Nat} (hz : 0 ≤ z.toInt) (hcap : z.toInt ≤ cap) (hb8 : cap * 8 ≤ 536870912) (hc : k + 1 ≤ R.cells) (hl : n + cap ≤ R.slots) (hp : pc + 2 = pc') (hd : decode bytes pc = .ok (.newarray aty, 2))
    (hr : ∀ T' h' a, a = h.size → n0 ≤ a → Ext h h' → La Z h' a (newarray.typeOf aty) (List.replicate z.toNatClampNeg (defaultValue (newarray.typeOf aty))) → St Z p l e R s m args below meth c n0 T' h' (k + 1) (n + cap) → Go p e below Q (T'.setTop (mkF m pc' Ls (.ref a :: st)))) : Go p e below Q (T.setTop (mkF m pc Ls (.int z :: st))) := by
  subst hp
  have hsz := X.sz
  obtain ⟨locs, Y, N, zs, eT⟩ := X
  have hzc := clamp_eq hz
  obtain ⟨T', h', cA, X', e', E, A, stp⟩ := newP Y C.1 C.hZ w eT (g := mkF m pc Ls (.int z :: st)) rfl (C.cd hd) rfl (neg_not hz) (cap := cap) (by omega) hb8 hc hl
  refine Go.back stp (hr T' h' _ rfl hsz E ⟨_, A, by simp [newA], ?_, fun v hv => ?_⟩ ⟨_, X', N, zs, e'⟩)
  · have := z.toInt_lt; simp; omega
  · obtain ⟨-, rfl⟩ := List.mem_replicate.mp hv; cases aty <;> rfl
theorem go_newarrE (C : Cx p s m meth c Z a0 own bytes maxL ret nm) (X : St Z p l e R s m args below meth c n0 T h k n) {aty : ArrayType} (w : (Jvm.Cond.arrayClass (newarray.typeOf aty)).before a0 Z = true) {z : Int32} {cap : Nat} {ad : String} (had : "[" ++ (newarray.typeOf aty).toString = ad) (hz : 0 ≤ z.toInt) (hcap : z.toInt ≤ cap) (hb8 : cap * 8 ≤ 536870912) (hc : k + 1 ≤ R.cells) (hl : n + cap ≤ R.slots) (hp : pc + 2 = pc') (hd : decode bytes pc = .ok (.newarray aty, 2))
    (hr : ∀ T' h' a, a = h.size → n0 ≤ a → Ext h h' → La Z h' a (newarray.typeOf aty) (List.replicate z.toNatClampNeg (defaultValue (newarray.typeOf aty))) → Exa Z h' a ad → St Z p l e R s m args below meth c n0 T' h' (k + 1) (n + cap) → Go p e below Q (T'.setTop (mkF m pc' Ls (.ref a :: st)))) : Go p e below Q (T.setTop (mkF m pc Ls (.int z :: st))) := by
  subst hp
  have hsz := X.sz
  obtain ⟨locs, Y, N, zs, eT⟩ := X
  have hzc := clamp_eq hz
  obtain ⟨T', h', cA, X', e', E, A, EX, stp⟩ := newPE Y C.1 C.hZ w eT (g := mkF m pc Ls (.int z :: st)) rfl (C.cd hd) rfl (neg_not hz) (cap := cap) (by omega) hb8 hc hl had
  refine Go.back stp (hr T' h' _ rfl hsz E ⟨_, A, by simp [newA], ?_, fun v hv => ?_⟩ EX ⟨_, X', N, zs, e'⟩)
  · have := z.toInt_lt; simp; omega
  · obtain ⟨-, rfl⟩ := List.mem_replicate.mp hv; cases aty <;> rfl
theorem go_ifnull_n (C : Cx p s m meth c Z a0 own bytes maxL ret nm) (X : St Z p l e R s m args below meth c n0 T h k n) {o : Int} (hd : decode bytes pc = .ok (.ifnull o, 3)) (ho : 0 ≤ (pc : Int) + o) (hp2 : ((pc : Int) + o).toNat = pc2) (hr : Go p e below Q (T.setTop (mkF m pc2 Ls st))) : Go p e below Q (T.setTop (mkF m pc Ls (.null :: st))) := by
  obtain ⟨locs, Y, -, -, -⟩ := X
  exact Go.back (fun t kt => Jvm.Free.XS.ifnullYes Y.here C.1 rfl (pc0 := pc) rfl (C.cd hd) rfl ho hp2 kt) hr
theorem go_ifnull_r (C : Cx p s m meth c Z a0 own bytes maxL ret nm) (X : St Z p l e R s m args below meth c n0 T h k n) {o : Int} {b : Addr} (hp : pc + 3 = pc') (hd : decode bytes pc = .ok (.ifnull o, 3)) (hr : Go p e below Q (T.setTop (mkF m pc' Ls st))) : Go p e below Q (T.setTop (mkF m pc Ls (.ref b :: st))) := by
  subst hp
  obtain ⟨locs, Y, -, -, -⟩ := X
  exact Go.back (fun t kt => Jvm.Free.XS.ifnullNo Y.here C.1 rfl (C.cd hd) rfl kt) hr
theorem go_ifnonnull_r (C : Cx p s m meth c Z a0 own bytes maxL ret nm) (X : St Z p l e R s m args below meth c n0 T h k n) {o : Int} {b : Addr} (hd : decode bytes pc = .ok (.ifnonnull o, 3)) (ho : 0 ≤ (pc : Int) + o) (hp2 : ((pc : Int) + o).toNat = pc2) (hr : Go p e below Q (T.setTop (mkF m pc2 Ls st))) : Go p e below Q (T.setTop (mkF m pc Ls (.ref b :: st))) := by
  obtain ⟨locs, Y, -, -, -⟩ := X
  exact Go.back (fun t kt => Jvm.Free.XS.ifnonnullYes Y.here C.1 rfl (pc0 := pc) rfl (C.cd hd) rfl ho hp2 kt) hr
theorem go_ifnonnull_n (C : Cx p s m meth c Z a0 own bytes maxL ret nm) (X : St Z p l e R s m args below meth c n0 T h k n) {o : Int} (hp : pc + 3 = pc') (hd : decode bytes pc = .ok (.ifnonnull o, 3)) (hr : Go p e below Q (T.setTop (mkF m pc' Ls st))) : Go p e below Q (T.setTop (mkF m pc Ls (.null :: st))) := by
  subst hp
  obtain ⟨locs, Y, -, -, -⟩ := X
  exact Go.back (fun t kt => Jvm.Free.XS.ifnonnullNo Y.here C.1 rfl (C.cd hd) rfl kt) hr
theorem go_acmp_eq (C : Cx p s m meth c Z a0 own bytes maxL ret nm) (X : St Z p l e R s m args below meth c n0 T h k n) {o : Int} {x y : Value} (hx : x.isRef = true) (hy : y.isRef = true) (hd : decode bytes pc = .ok (.if_acmp .eq o, 3)) (hp : pc + 3 = pc') (ho : 0 ≤ (pc : Int) + o) (hp2 : ((pc : Int) + o).toNat = pc2) (h1 : x = y → Go p e below Q (T.setTop (mkF m pc2 Ls st))) (h2 : ¬ x = y → Go p e below Q (T.setTop (mkF m pc' Ls st))) : Go p e below Q (T.setTop (mkF m pc Ls (y :: x :: st))) := by
  obtain ⟨locs, Y, -, -, -⟩ := X
  by_cases q : x = y
  · exact Go.back (fun t kt => acmp (g := mkF m pc Ls (y :: x :: st)) Y C.1 rfl hx hy (pc0 := pc) (pc' := pc2) (same := true) rfl (C.cd hd) rfl (decide_eq_true q) ho (by simp [acV, hp2]) kt) (h1 q)
  · exact Go.back (fun t kt => acmp (g := mkF m pc Ls (y :: x :: st)) Y C.1 rfl hx hy (pc0 := pc) (pc' := pc') (same := false) rfl (C.cd hd) rfl (decide_eq_false q) ho (by simp [acV, hp]) kt) (h2 q)
theorem go_acmp_ne (C : Cx p s m meth c Z a0 own bytes maxL ret nm) (X : St Z p l e R s m args below meth c n0 T h k n) {o : Int} {x y : Value} (hx : x.isRef = true) (hy : y.isRef = true) (hd : decode bytes pc = .ok (.if_acmp .ne o, 3)) (hp : pc + 3 = pc') (ho : 0 ≤ (pc : Int) + o) (hp2 : ((pc : Int) + o).toNat = pc2) (h1 : ¬ x = y → Go p e below Q (T.setTop (mkF m pc2 Ls st))) (h2 : x = y → Go p e below Q (T.setTop (mkF m pc' Ls st))) : Go p e below Q (T.setTop (mkF m pc Ls (y :: x :: st))) := by
  obtain ⟨locs, Y, -, -, -⟩ := X
  by_cases q : x = y
  · exact Go.back (fun t kt => acmp (g := mkF m pc Ls (y :: x :: st)) Y C.1 rfl hx hy (pc0 := pc) (pc' := pc') (same := true) rfl (C.cd hd) rfl (decide_eq_true q) ho (by simp [acV, hp]) kt) (h2 q)
  · exact Go.back (fun t kt => acmp (g := mkF m pc Ls (y :: x :: st)) Y C.1 rfl hx hy (pc0 := pc) (pc' := pc2) (same := false) rfl (C.cd hd) rfl (decide_eq_false q) ho (by simp [acV, hp2]) kt) (h1 q)
theorem go_cast (C : Cx p s m meth c Z a0 own bytes maxL ret nm) (X : St Z p l e R s m args below meth c n0 T h k n) {cn : String} {a : Addr} (w : (Jvm.Cond.classLink own idx cn).before a0 Z = true) (F : Ins Z h a cn true) (hp : pc + 3 = pc') (hd : decode bytes pc = .ok (.checkcast idx, 3)) (hr : ∀ T', St Z p l e R s m args below meth c n0 T' h k n → Go p e below Q (T'.setTop (mkF m pc' Ls (.ref a :: st)))) : Go p e below Q (T.setTop (mkF m pc Ls (.ref a :: st))) := by
  subst hp
  obtain ⟨locs, Y, N, zs, eT⟩ := X
  obtain ⟨T', X', e', stp⟩ := castY Y C.1 C.hZ C.ow w eT F (g := mkF m pc Ls (.ref a :: st)) rfl rfl (C.cd hd)
  exact Go.back stp (hr T' ⟨_, X', N, zs, e'⟩)
theorem go_clone (C : Cx p s m meth c Z a0 own bytes maxL ret nm) (X : St Z p l e R s m args below meth c n0 T h k n) {ad : String} {a : Addr} {ty : FieldType} {vs : List Value} {cap : Nat} (w1 : (Jvm.Cond.methodLink own idx ⟨ad, "clone", "()Ljava/lang/Object;"⟩).before a0 Z = true) (w2 : (Jvm.Cond.sameMethod ad "java/lang/Object" "clone" "()Ljava/lang/Object;").before a0 Z = true) (w3 : (Jvm.Cond.native ⟨"java/lang/Object", "clone", "()Ljava/lang/Object;"⟩).before a0 Z = true)
    (w4 : (Jvm.Cond.instanceMethod ⟨"java/lang/Object", "clone", "()Ljava/lang/Object;"⟩).before a0 Z = true) (w5 : (Jvm.Cond.selects ad ⟨ad, "clone", "()Ljava/lang/Object;"⟩ ⟨"java/lang/Object", "clone", "()Ljava/lang/Object;"⟩).before a0 Z = true) (w6 : (Jvm.Cond.castable ad "java/lang/Cloneable").before a0 Z = true)
    (A : La Z h a ty vs) (E : Exa Z h a ad) (hf : 1 ≤ R.frames) (hl : (st.map fun v => v.category).sum + 14 ≤ R.locals) (hcap : vs.length ≤ cap) (hc : k + 1 ≤ R.cells) (hsl : n + cap ≤ R.slots) (hsz : Ls.size = maxL) (hp : pc + 3 = pc') (hd : decode bytes pc = .ok (.invokevirtual idx, 3))
    (hr : ∀ T' h' b, b = h.size → n0 ≤ b → Ext h h' → La Z h' b ty vs → Exa Z h' b ad → St Z p l e R s m args below meth c n0 T' h' (k + 1) (n + cap) → Go p e below Q (T'.setTop (mkF m pc' Ls (.ref b :: st)))) : Go p e below Q (T.setTop (mkF m pc Ls (.ref a :: st))) := by
  subst hp
  have hs0 := X.sz
  obtain ⟨locs, Y, N, zs, eT⟩ := X
  obtain ⟨cl, B, e1, e2, e3⟩ := A
  have FC : FitC Z cl := fitC_of B fun i hi v hv => e3 v (by rw [e1] at hv; simp at hv; exact List.mem_of_getElem? hv)
  obtain ⟨T', h', X', e', ex, A', E', stp⟩ := cloneA Y C.1 C.hZ C.ow w1 w2 w3 w4 w5 w6 eT B E FC (g := mkF m pc Ls (.ref a :: st)) rfl (hsz.trans C.ml.symm) rfl (C.cd hd) hf (W := (st.map fun v => v.category).sum) (cap := cap) (by show 2 * 0 + _ ≤ _; omega) hl (by rw [e1]; simpa using hcap) hc hsl
  exact Go.back stp (hr T' h' _ rfl hs0 ex ⟨_, A', e1, e2, e3⟩ E' ⟨_, X', N, zs, e'⟩)

theorem Laid.of {cn O fn d : String} (w : (Jvm.Cond.lays cn O fn d).before a0 Z = true) : Laid Z a0 cn O fn d := Or.inl w
theorem Laid.ofF {cn O fn d : String} (w : (Jvm.Cond.laysFinal cn O fn d).before a0 Z = true) : Laid Z a0 cn O fn d := Or.inr w
end Steps1
/-! numbers -/
theorem i_add {a b : Int32} {x y : Int} (ha : a.toInt = x) (hb : b.toInt = y) (h1 : -2147483648 ≤ x + y) (h2 : x + y < 2147483648) : (a + b).toInt = x + y := by have := c_iadd a b; have := rng32 (a + b); omega
theorem i_sub {a b : Int32} {x y : Int} (ha : a.toInt = x) (hb : b.toInt = y) (h1 : -2147483648 ≤ x - y) (h2 : x - y < 2147483648) : (a - b).toInt = x - y := by have := c_isub a b; have := rng32 (a - b); omega
theorem i_mul {a b : Int32} {x y : Int} (ha : a.toInt = x) (hb : b.toInt = y) (h1 : -2147483648 ≤ x * y) (h2 : x * y < 2147483648) : (a * b).toInt = x * y := by have := c_imul a b; have := rng32 (a * b); rw [ha, hb] at *; generalize x * y = z at *; omega
theorem l_add {a b : Int64} {x y : Int} (ha : a.toInt = x) (hb : b.toInt = y) (h1 : -9223372036854775808 ≤ x + y) (h2 : x + y < 9223372036854775808) : (a + b).toInt = x + y := by have := c_ladd a b; have := rng64 (a + b); omega
theorem l_sub {a b : Int64} {x y : Int} (ha : a.toInt = x) (hb : b.toInt = y) (h1 : -9223372036854775808 ≤ x - y) (h2 : x - y < 9223372036854775808) : (a - b).toInt = x - y := by have := c_lsub a b; have := rng64 (a - b); omega
theorem l_mul {a b : Int64} {x y : Int} (ha : a.toInt = x) (hb : b.toInt = y) (h1 : -9223372036854775808 ≤ x * y) (h2 : x * y < 9223372036854775808) : (a * b).toInt = x * y := by have := c_lmul a b; have := rng64 (a * b); rw [ha, hb] at *; generalize x * y = z at *; omega
theorem i_div {a b : Int32} {x y : Int} (ha : a.toInt = x) (hb : b.toInt = y) (h1 : 0 ≤ x) (h2 : 0 < y) : (a / b).toInt = x / y := by
  have := (c_idiv a b y hb (fun q => by subst q; have : (-1 : Int32).toInt = -1 := rfl; omega)).1 (by omega); rw [this, ha]
theorem l_div {a b : Int64} {x y : Int} (ha : a.toInt = x) (hb : b.toInt = y) (h1 : 0 ≤ x) (h2 : 0 < y) : (a / b).toInt = x / y := by
  have := (c_ldiv a b y hb (fun q => by subst q; have : (-1 : Int64).toInt = -1 := rfl; omega)).1 (by omega); rw [this, ha]
theorem i_rem {a b : Int32} {x y : Int} (ha : a.toInt = x) (hb : b.toInt = y) (h1 : 0 ≤ x) : (a % b).toInt = x % y := by
  have := (c_irem a b y hb).1 (by omega); rw [this, ha]
theorem l_rem {a b : Int64} {x y : Int} (ha : a.toInt = x) (hb : b.toInt = y) (h1 : 0 ≤ x) : (a % b).toInt = x % y := by
  rw [← lrem_mod]; have := (c_lrem a b y hb).1 (by omega); rw [this, ha]
/-- arrays of ints and longs as lists -/
def ia (xs : List Int32) : List Value := xs.map Value.int
def ja (xs : List Int64) : List Value := xs.map Value.long
def at32 (xs : List Int32) (i : Int32) : Int32 := xs.getD i.toNatClampNeg 0
def at64 (xs : List Int64) (i : Int32) : Int64 := xs.getD i.toNatClampNeg 0
def put32 (xs : List Int32) (i y : Int32) : List Int32 := xs.set i.toNatClampNeg y
def put64 (xs : List Int64) (i : Int32) (y : Int64) : List Int64 := xs.set i.toNatClampNeg y
theorem clamp_lt {i : Int32} {n : Nat} (h0 : 0 ≤ i.toInt) (h1 : i.toInt < n) : i.toNatClampNeg < n := by
  have := clamp_eq h0
  omega
theorem ia_at {xs : List Int32} {i : Int32} (h0 : 0 ≤ i.toInt) (h1 : i.toInt < xs.length) : (ia xs)[i.toNatClampNeg]? = some (.int (at32 xs i)) := by
  have := clamp_lt h0 h1; simp [ia, at32, this]
theorem ja_at {xs : List Int64} {i : Int32} (h0 : 0 ≤ i.toInt) (h1 : i.toInt < xs.length) : (ja xs)[i.toNatClampNeg]? = some (.long (at64 xs i)) := by
  have := clamp_lt h0 h1; simp [ja, at64, this]
theorem ia_put (xs : List Int32) (i y : Int32) : (ia xs).set i.toNatClampNeg (.int y) = ia (put32 xs i y) := by simp [ia, put32, List.map_set]
theorem ja_put (xs : List Int64) (i : Int32) (y : Int64) : (ja xs).set i.toNatClampNeg (.long y) = ja (put64 xs i y) := by simp [ja, put64, List.map_set]
theorem ia_len (xs : List Int32) : (ia xs).length = xs.length := by simp [ia]
theorem ja_len (xs : List Int64) : (ja xs).length = xs.length := by simp [ja]
theorem put32_len (xs : List Int32) (i y : Int32) : (put32 xs i y).length = xs.length := by simp [put32]
theorem put64_len (xs : List Int64) (i : Int32) (y : Int64) : (put64 xs i y).length = xs.length := by simp [put64]
theorem La.of {Z : State} {h : Heap} {a : Addr} {ty : FieldType} {c : Cell} (A : Arr Z h a c ty) (vs : List Value) (hl : c.slots.size = vs.length) (h31 : vs.length < 2 ^ 31) (H : ∀ i, i < vs.length → c.slots[i]? = vs[i]?) (G : ∀ v ∈ vs, fits ty v = true) : La Z h a ty vs := by
  refine ⟨c, A, Array.ext_getElem? fun i => ?_, h31, G⟩
  by_cases q : i < vs.length
  · rw [H i q]; simp
  · rw [Array.getElem?_eq_none (by omega)]; simp; omega
theorem eqv_r {Z : State} {args : Array Value} {X F : Term} {idx : List Nat} {y : Addr} (hF : F.eval args Z none idx Z = some (.ref y)) (h : (Jvm.Cond.eq X F).value args Z none Z idx = some true) : X.eval args Z none idx Z = some (.ref y) := by
  simp only [Jvm.Cond.value, hF] at h
  cases hx : X.eval args Z none idx Z with
  | none => simp [hx] at h
  | some v => cases v <;> simp [hx] at h ⊢; exact h
theorem i_eq {a b : Int32} (h : a.toInt = b.toInt) : a = b := Int32.toInt_inj.mp h
theorem l_eq {a b : Int64} (h : a.toInt = b.toInt) : a = b := Int64.toInt_inj.mp h
theorem i_ne {a b : Int32} (h : ¬ a = b) : ¬ a.toInt = b.toInt := fun q => h (i_eq q)
theorem l_ne {a b : Int64} (h : ¬ a = b) : ¬ a.toInt = b.toInt := fun q => h (l_eq q)

theorem own_b {x : Int64} (h0 : 0 ≤ x.toInt) (h1 : x.toInt < 9000000000000000) : B53 x := ⟨by omega, by omega⟩
theorem own_m20 (x : Int32) : 0 ≤ (x &&& 1048575).toInt64.toInt ∧ (x &&& 1048575).toInt64.toInt < 1048576 := by have := c_mask x 1048575 20 (by decide) (by decide); rw [c_i2l]; omega
theorem own_z : FP.l2d 0 = 0 := l2d_zero
theorem d1_0 : decode method_2_code 0 = .ok (.iload_n 0, 1) := by decide +kernel
theorem d1_1 : decode method_2_code 1 = .ok (.ifCond .ne 7, 3) := by decide +kernel
theorem d1_4 : decode method_2_code 4 = .ok (.iconst 0, 1) := by decide +kernel
theorem d1_5 : decode method_2_code 5 = .ok (.newarray .double, 2) := by decide +kernel
theorem d1_7 : decode method_2_code 7 = .ok (.areturn, 1) := by decide +kernel
theorem pn_com_example_waymarshal_waymarshal_ranks_WindowSumPinLaw : plainName "com/example/waymarshal/waymarshal/ranks/WindowSumPinLaw" = true := by first | (simp [plainName, overriddenIn]; done) | decide +kernel
theorem ef_own_make_0 (m : MethodId) (x0 : Int32) (x1 : Int32) (x2 : Int32) (x3 : Int32) : entryFrame m #[(.int (0 : Int32)), (.int x0), (.int x1), (.int x2), (.int x3)] 5 = mkF m 0 #[iv (0 : Int32), iv x0, iv x1, iv x2, iv x3] [] := by first | (simp [entryFrame, mkF, argsToLocals, Value.category]; done) | rfl
set_option maxRecDepth 65536 in
set_option maxHeartbeats 40000000 in
theorem own_make_0 (l : Launch) (Z : State) (a0 : Array Value) (hw : ∀ d ∈ tables_1, d.before a0 Z = true) (x0 : Int32) (x1 : Int32) (x2 : Int32) (x3 : Int32)  (h : Heap) (n0 : Nat) (hn0 : Old Z n0 h)  :
    Con l Z (⟨"com/example/waymarshal/waymarshal/ranks/WindowSumPinLaw", "make", "(IIIII)[D"⟩ : MethodName) method_2_code 5 (some (.array .double)) ({ frames := 0, cells := 1, slots := 4, locals := 0 } : Room) #[(.int (0 : Int32)), (.int x0), (.int x1), (.int x2), (.int x3)] h n0 (fun v h' => ∃ b : Addr, v = some (.ref b) ∧ h.size ≤ b ∧ Keep h h' [] ∧ La Z h' b .double []) := by
  refine con_of hw (plainFor_of_name pn_com_example_waymarshal_waymarshal_ranks_WindowSumPinLaw) hn0 ?_
  intro p e s m below meth c T0 C X0
  refine Go.cast (congrArg T0.setTop (ef_own_make_0 m x0 x1 x2 x3)) ?_
  refine go_iloadN C X0 1 rfl d1_0 rfl ?_
  refine go_if_ne C X0 d1_1 (pc' := 4) (pc2 := 8) rfl (by decide) (by decide) (fun (c1 : ¬ (0 : Int32) = (0 : Int32)) => False.elim (by first | omega | exact absurd c1 (by decide))) (fun (c1 : (0 : Int32) = (0 : Int32)) => ?_)
  refine go_iconst C X0 5 rfl d1_4 (z := 0) rfl ?_
  refine go_newarr C X0 (C.w 5 rfl) (cap := 0) (by decide) (by decide) (by decide) (by decide) (by decide) (pc' := 7) rfl d1_5 (fun T1 h3 b ha_b ga_b E4 A5  X2 => ?_)
  have sz_b : h.size ≤ b := Nat.le_trans (Keep.refl h []).1 (Nat.le_of_eq ha_b.symm)
  have K6 := (Keep.refl h []).ext E4
  replace A5 : La Z h3 b .double ([]) := A5
  exact go_retA C X2 d1_7 rfl rfl ⟨b, rfl, Nat.le_of_eq ha_b.symm, K6, A5⟩ (by decide) (by decide)
theorem d1_8 : decode method_2_code 8 = .ok (.iload_n 0, 1) := by decide +kernel
theorem d1_9 : decode method_2_code 9 = .ok (.iconst 1, 1) := by decide +kernel
theorem d1_10 : decode method_2_code 10 = .ok (.if_icmp .ne 12, 3) := by decide +kernel
theorem d1_13 : decode method_2_code 13 = .ok (.iconst 1, 1) := by decide +kernel
theorem d1_14 : decode method_2_code 14 = .ok (.newarray .double, 2) := by decide +kernel
theorem d1_16 : decode method_2_code 16 = .ok (.dup, 1) := by decide +kernel
theorem d1_17 : decode method_2_code 17 = .ok (.iconst 0, 1) := by decide +kernel
theorem d1_18 : decode method_2_code 18 = .ok (.iload_n 1, 1) := by decide +kernel
theorem d1_19 : decode method_2_code 19 = .ok (.i2d, 1) := by decide +kernel
theorem d1_20 : decode method_2_code 20 = .ok (.dastore, 1) := by decide +kernel
theorem d1_21 : decode method_2_code 21 = .ok (.areturn, 1) := by decide +kernel
theorem ef_own_make_1 (m : MethodId) (x0 : Int32) (x1 : Int32) (x2 : Int32) (x3 : Int32) : entryFrame m #[(.int (1 : Int32)), (.int x0), (.int x1), (.int x2), (.int x3)] 5 = mkF m 0 #[iv (1 : Int32), iv x0, iv x1, iv x2, iv x3] [] := by first | (simp [entryFrame, mkF, argsToLocals, Value.category]; done) | rfl
set_option maxRecDepth 65536 in
set_option maxHeartbeats 40000000 in
theorem own_make_1 (l : Launch) (Z : State) (a0 : Array Value) (hw : ∀ d ∈ tables_1, d.before a0 Z = true) (x0 : Int32) (x1 : Int32) (x2 : Int32) (x3 : Int32)  (h : Heap) (n0 : Nat) (hn0 : Old Z n0 h)  :
    Con l Z (⟨"com/example/waymarshal/waymarshal/ranks/WindowSumPinLaw", "make", "(IIIII)[D"⟩ : MethodName) method_2_code 5 (some (.array .double)) ({ frames := 0, cells := 1, slots := 4, locals := 0 } : Room) #[(.int (1 : Int32)), (.int x0), (.int x1), (.int x2), (.int x3)] h n0 (fun v h' => ∃ b : Addr, v = some (.ref b) ∧ h.size ≤ b ∧ Keep h h' [] ∧ La Z h' b .double [.double (FP.l2d x0.toInt64)]) := by
  refine con_of hw (plainFor_of_name pn_com_example_waymarshal_waymarshal_ranks_WindowSumPinLaw) hn0 ?_
  intro p e s m below meth c T0 C X0
  refine Go.cast (congrArg T0.setTop (ef_own_make_1 m x0 x1 x2 x3)) ?_
  refine go_iloadN C X0 1 rfl d1_0 rfl ?_
  refine go_if_ne C X0 d1_1 (pc' := 4) (pc2 := 8) rfl (by decide) (by decide) (fun (c1 : ¬ (1 : Int32) = (0 : Int32)) => ?_) (fun (c1 : (1 : Int32) = (0 : Int32)) => False.elim (by first | omega | exact absurd c1 (by decide)))
  refine go_iloadN C X0 9 rfl d1_8 rfl ?_
  refine go_iconst C X0 10 rfl d1_9 (z := 1) rfl ?_
  refine go_icmp_ne C X0 d1_10 (pc' := 13) (pc2 := 22) rfl (by decide) (by decide) (fun (c10 : ¬ (1 : Int32) = (1 : Int32)) => False.elim (by first | omega | exact absurd c10 (by decide))) (fun (c10 : (1 : Int32) = (1 : Int32)) => ?_)
  refine go_iconst C X0 14 rfl d1_13 (z := 1) rfl ?_
  refine go_newarr C X0 (C.w 5 rfl) (cap := 1) (by decide) (by decide) (by decide) (by decide) (by decide) (pc' := 16) rfl d1_14 (fun T1 h3 b ha_b ga_b E4 A5  X2 => ?_)
  have sz_b : h.size ≤ b := Nat.le_trans (Keep.refl h []).1 (Nat.le_of_eq ha_b.symm)
  have K6 := (Keep.refl h []).ext E4
  replace A5 : La Z h3 b .double ([(.double (0 : UInt64))]) := A5
  refine go_dup C X2 17 rfl d1_16 rfl ?_
  refine go_iconst C X2 18 rfl d1_17 (z := 0) rfl ?_
  refine go_iloadN C X2 19 rfl d1_18 rfl ?_
  refine go_i2d C X2 20 rfl d1_19 ?_
  refine go_dastore C X2 A5 (by decide) (by show _ < (1 : Int); decide) ga_b (pc' := 21) rfl d1_20 (fun T7 h9 W10 A11 X8 => ?_)
  have K12 := K6.wr W10 (Or.inr sz_b)
  replace A11 : La Z h9 b .double ([(.double (FP.l2d x0.toInt64))]) := A11
  exact go_retA C X8 d1_21 rfl rfl ⟨b, rfl, Nat.le_of_eq ha_b.symm, K12, A11⟩ (by decide) (by decide)
theorem d1_22 : decode method_2_code 22 = .ok (.iload_n 0, 1) := by decide +kernel
theorem d1_23 : decode method_2_code 23 = .ok (.iconst 2, 1) := by decide +kernel
theorem d1_24 : decode method_2_code 24 = .ok (.if_icmp .ne 17, 3) := by decide +kernel
theorem d1_27 : decode method_2_code 27 = .ok (.iconst 2, 1) := by decide +kernel
theorem d1_28 : decode method_2_code 28 = .ok (.newarray .double, 2) := by decide +kernel
theorem d1_30 : decode method_2_code 30 = .ok (.dup, 1) := by decide +kernel
theorem d1_31 : decode method_2_code 31 = .ok (.iconst 0, 1) := by decide +kernel
theorem d1_32 : decode method_2_code 32 = .ok (.iload_n 1, 1) := by decide +kernel
theorem d1_33 : decode method_2_code 33 = .ok (.i2d, 1) := by decide +kernel
theorem d1_34 : decode method_2_code 34 = .ok (.dastore, 1) := by decide +kernel
theorem d1_35 : decode method_2_code 35 = .ok (.dup, 1) := by decide +kernel
theorem d1_36 : decode method_2_code 36 = .ok (.iconst 1, 1) := by decide +kernel
theorem d1_37 : decode method_2_code 37 = .ok (.iload_n 2, 1) := by decide +kernel
theorem d1_38 : decode method_2_code 38 = .ok (.i2d, 1) := by decide +kernel
theorem d1_39 : decode method_2_code 39 = .ok (.dastore, 1) := by decide +kernel
theorem d1_40 : decode method_2_code 40 = .ok (.areturn, 1) := by decide +kernel
theorem ef_own_make_2 (m : MethodId) (x0 : Int32) (x1 : Int32) (x2 : Int32) (x3 : Int32) : entryFrame m #[(.int (2 : Int32)), (.int x0), (.int x1), (.int x2), (.int x3)] 5 = mkF m 0 #[iv (2 : Int32), iv x0, iv x1, iv x2, iv x3] [] := by first | (simp [entryFrame, mkF, argsToLocals, Value.category]; done) | rfl
set_option maxRecDepth 65536 in
set_option maxHeartbeats 40000000 in
theorem own_make_2 (l : Launch) (Z : State) (a0 : Array Value) (hw : ∀ d ∈ tables_1, d.before a0 Z = true) (x0 : Int32) (x1 : Int32) (x2 : Int32) (x3 : Int32)  (h : Heap) (n0 : Nat) (hn0 : Old Z n0 h)  :
    Con l Z (⟨"com/example/waymarshal/waymarshal/ranks/WindowSumPinLaw", "make", "(IIIII)[D"⟩ : MethodName) method_2_code 5 (some (.array .double)) ({ frames := 0, cells := 1, slots := 4, locals := 0 } : Room) #[(.int (2 : Int32)), (.int x0), (.int x1), (.int x2), (.int x3)] h n0 (fun v h' => ∃ b : Addr, v = some (.ref b) ∧ h.size ≤ b ∧ Keep h h' [] ∧ La Z h' b .double [.double (FP.l2d x0.toInt64), .double (FP.l2d x1.toInt64)]) := by
  refine con_of hw (plainFor_of_name pn_com_example_waymarshal_waymarshal_ranks_WindowSumPinLaw) hn0 ?_
  intro p e s m below meth c T0 C X0
  refine Go.cast (congrArg T0.setTop (ef_own_make_2 m x0 x1 x2 x3)) ?_
  refine go_iloadN C X0 1 rfl d1_0 rfl ?_
  refine go_if_ne C X0 d1_1 (pc' := 4) (pc2 := 8) rfl (by decide) (by decide) (fun (c1 : ¬ (2 : Int32) = (0 : Int32)) => ?_) (fun (c1 : (2 : Int32) = (0 : Int32)) => False.elim (by first | omega | exact absurd c1 (by decide)))
  refine go_iloadN C X0 9 rfl d1_8 rfl ?_
  refine go_iconst C X0 10 rfl d1_9 (z := 1) rfl ?_
  refine go_icmp_ne C X0 d1_10 (pc' := 13) (pc2 := 22) rfl (by decide) (by decide) (fun (c10 : ¬ (2 : Int32) = (1 : Int32)) => ?_) (fun (c10 : (2 : Int32) = (1 : Int32)) => False.elim (by first | omega | exact absurd c10 (by decide)))
  refine go_iloadN C X0 23 rfl d1_22 rfl ?_
  refine go_iconst C X0 24 rfl d1_23 (z := 2) rfl ?_
  refine go_icmp_ne C X0 d1_24 (pc' := 27) (pc2 := 41) rfl (by decide) (by decide) (fun (c24 : ¬ (2 : Int32) = (2 : Int32)) => False.elim (by first | omega | exact absurd c24 (by decide))) (fun (c24 : (2 : Int32) = (2 : Int32)) => ?_)
  refine go_iconst C X0 28 rfl d1_27 (z := 2) rfl ?_
  refine go_newarr C X0 (C.w 5 rfl) (cap := 2) (by decide) (by decide) (by decide) (by decide) (by decide) (pc' := 30) rfl d1_28 (fun T1 h3 b ha_b ga_b E4 A5  X2 => ?_)
  have sz_b : h.size ≤ b := Nat.le_trans (Keep.refl h []).1 (Nat.le_of_eq ha_b.symm)
  have K6 := (Keep.refl h []).ext E4
  replace A5 : La Z h3 b .double ([(.double (0 : UInt64)), (.double (0 : UInt64))]) := A5
  refine go_dup C X2 31 rfl d1_30 rfl ?_
  refine go_iconst C X2 32 rfl d1_31 (z := 0) rfl ?_
  refine go_iloadN C X2 33 rfl d1_32 rfl ?_
  refine go_i2d C X2 34 rfl d1_33 ?_
  refine go_dastore C X2 A5 (by decide) (by show _ < (2 : Int); decide) ga_b (pc' := 35) rfl d1_34 (fun T7 h9 W10 A11 X8 => ?_)
  have K12 := K6.wr W10 (Or.inr sz_b)
  replace A11 : La Z h9 b .double ([(.double (FP.l2d x0.toInt64)), (.double (0 : UInt64))]) := A11
  refine go_dup C X8 36 rfl d1_35 rfl ?_
  refine go_iconst C X8 37 rfl d1_36 (z := 1) rfl ?_
  refine go_iloadN C X8 38 rfl d1_37 rfl ?_
  refine go_i2d C X8 39 rfl d1_38 ?_
  refine go_dastore C X8 A11 (by decide) (by show _ < (2 : Int); decide) ga_b (pc' := 40) rfl d1_39 (fun T13 h15 W16 A17 X14 => ?_)
  have K18 := K12.wr W16 (Or.inr sz_b)
  replace A17 : La Z h15 b .double ([(.double (FP.l2d x0.toInt64)), (.double (FP.l2d x1.toInt64))]) := A17
  exact go_retA C X14 d1_40 rfl rfl ⟨b, rfl, Nat.le_of_eq ha_b.symm, K18, A17⟩ (by decide) (by decide)
theorem d1_41 : decode method_2_code 41 = .ok (.iload_n 0, 1) := by decide +kernel
theorem d1_42 : decode method_2_code 42 = .ok (.iconst 3, 1) := by decide +kernel
theorem d1_43 : decode method_2_code 43 = .ok (.if_icmp .ne 22, 3) := by decide +kernel
theorem d1_46 : decode method_2_code 46 = .ok (.iconst 3, 1) := by decide +kernel
theorem d1_47 : decode method_2_code 47 = .ok (.newarray .double, 2) := by decide +kernel
theorem d1_49 : decode method_2_code 49 = .ok (.dup, 1) := by decide +kernel
theorem d1_50 : decode method_2_code 50 = .ok (.iconst 0, 1) := by decide +kernel
theorem d1_51 : decode method_2_code 51 = .ok (.iload_n 1, 1) := by decide +kernel
theorem d1_52 : decode method_2_code 52 = .ok (.i2d, 1) := by decide +kernel
theorem d1_53 : decode method_2_code 53 = .ok (.dastore, 1) := by decide +kernel
theorem d1_54 : decode method_2_code 54 = .ok (.dup, 1) := by decide +kernel
theorem d1_55 : decode method_2_code 55 = .ok (.iconst 1, 1) := by decide +kernel
theorem d1_56 : decode method_2_code 56 = .ok (.iload_n 2, 1) := by decide +kernel
theorem d1_57 : decode method_2_code 57 = .ok (.i2d, 1) := by decide +kernel
theorem d1_58 : decode method_2_code 58 = .ok (.dastore, 1) := by decide +kernel
theorem d1_59 : decode method_2_code 59 = .ok (.dup, 1) := by decide +kernel
theorem d1_60 : decode method_2_code 60 = .ok (.iconst 2, 1) := by decide +kernel
theorem d1_61 : decode method_2_code 61 = .ok (.iload_n 3, 1) := by decide +kernel
theorem d1_62 : decode method_2_code 62 = .ok (.i2d, 1) := by decide +kernel
theorem d1_63 : decode method_2_code 63 = .ok (.dastore, 1) := by decide +kernel
theorem d1_64 : decode method_2_code 64 = .ok (.areturn, 1) := by decide +kernel
theorem ef_own_make_3 (m : MethodId) (x0 : Int32) (x1 : Int32) (x2 : Int32) (x3 : Int32) : entryFrame m #[(.int (3 : Int32)), (.int x0), (.int x1), (.int x2), (.int x3)] 5 = mkF m 0 #[iv (3 : Int32), iv x0, iv x1, iv x2, iv x3] [] := by first | (simp [entryFrame, mkF, argsToLocals, Value.category]; done) | rfl
set_option maxRecDepth 65536 in
set_option maxHeartbeats 40000000 in
theorem own_make_3 (l : Launch) (Z : State) (a0 : Array Value) (hw : ∀ d ∈ tables_1, d.before a0 Z = true) (x0 : Int32) (x1 : Int32) (x2 : Int32) (x3 : Int32)  (h : Heap) (n0 : Nat) (hn0 : Old Z n0 h)  :
    Con l Z (⟨"com/example/waymarshal/waymarshal/ranks/WindowSumPinLaw", "make", "(IIIII)[D"⟩ : MethodName) method_2_code 5 (some (.array .double)) ({ frames := 0, cells := 1, slots := 4, locals := 0 } : Room) #[(.int (3 : Int32)), (.int x0), (.int x1), (.int x2), (.int x3)] h n0 (fun v h' => ∃ b : Addr, v = some (.ref b) ∧ h.size ≤ b ∧ Keep h h' [] ∧ La Z h' b .double [.double (FP.l2d x0.toInt64), .double (FP.l2d x1.toInt64), .double (FP.l2d x2.toInt64)]) := by
  refine con_of hw (plainFor_of_name pn_com_example_waymarshal_waymarshal_ranks_WindowSumPinLaw) hn0 ?_
  intro p e s m below meth c T0 C X0
  refine Go.cast (congrArg T0.setTop (ef_own_make_3 m x0 x1 x2 x3)) ?_
  refine go_iloadN C X0 1 rfl d1_0 rfl ?_
  refine go_if_ne C X0 d1_1 (pc' := 4) (pc2 := 8) rfl (by decide) (by decide) (fun (c1 : ¬ (3 : Int32) = (0 : Int32)) => ?_) (fun (c1 : (3 : Int32) = (0 : Int32)) => False.elim (by first | omega | exact absurd c1 (by decide)))
  refine go_iloadN C X0 9 rfl d1_8 rfl ?_
  refine go_iconst C X0 10 rfl d1_9 (z := 1) rfl ?_
  refine go_icmp_ne C X0 d1_10 (pc' := 13) (pc2 := 22) rfl (by decide) (by decide) (fun (c10 : ¬ (3 : Int32) = (1 : Int32)) => ?_) (fun (c10 : (3 : Int32) = (1 : Int32)) => False.elim (by first | omega | exact absurd c10 (by decide)))
  refine go_iloadN C X0 23 rfl d1_22 rfl ?_
  refine go_iconst C X0 24 rfl d1_23 (z := 2) rfl ?_
  refine go_icmp_ne C X0 d1_24 (pc' := 27) (pc2 := 41) rfl (by decide) (by decide) (fun (c24 : ¬ (3 : Int32) = (2 : Int32)) => ?_) (fun (c24 : (3 : Int32) = (2 : Int32)) => False.elim (by first | omega | exact absurd c24 (by decide)))
  refine go_iloadN C X0 42 rfl d1_41 rfl ?_
  refine go_iconst C X0 43 rfl d1_42 (z := 3) rfl ?_
  refine go_icmp_ne C X0 d1_43 (pc' := 46) (pc2 := 65) rfl (by decide) (by decide) (fun (c43 : ¬ (3 : Int32) = (3 : Int32)) => False.elim (by first | omega | exact absurd c43 (by decide))) (fun (c43 : (3 : Int32) = (3 : Int32)) => ?_)
  refine go_iconst C X0 47 rfl d1_46 (z := 3) rfl ?_
  refine go_newarr C X0 (C.w 5 rfl) (cap := 3) (by decide) (by decide) (by decide) (by decide) (by decide) (pc' := 49) rfl d1_47 (fun T1 h3 b ha_b ga_b E4 A5  X2 => ?_)
  have sz_b : h.size ≤ b := Nat.le_trans (Keep.refl h []).1 (Nat.le_of_eq ha_b.symm)
  have K6 := (Keep.refl h []).ext E4
  replace A5 : La Z h3 b .double ([(.double (0 : UInt64)), (.double (0 : UInt64)), (.double (0 : UInt64))]) := A5
  refine go_dup C X2 50 rfl d1_49 rfl ?_
  refine go_iconst C X2 51 rfl d1_50 (z := 0) rfl ?_
  refine go_iloadN C X2 52 rfl d1_51 rfl ?_
  refine go_i2d C X2 53 rfl d1_52 ?_
  refine go_dastore C X2 A5 (by decide) (by show _ < (3 : Int); decide) ga_b (pc' := 54) rfl d1_53 (fun T7 h9 W10 A11 X8 => ?_)
  have K12 := K6.wr W10 (Or.inr sz_b)
  replace A11 : La Z h9 b .double ([(.double (FP.l2d x0.toInt64)), (.double (0 : UInt64)), (.double (0 : UInt64))]) := A11
  refine go_dup C X8 55 rfl d1_54 rfl ?_
  refine go_iconst C X8 56 rfl d1_55 (z := 1) rfl ?_
  refine go_iloadN C X8 57 rfl d1_56 rfl ?_
  refine go_i2d C X8 58 rfl d1_57 ?_
  refine go_dastore C X8 A11 (by decide) (by show _ < (3 : Int); decide) ga_b (pc' := 59) rfl d1_58 (fun T13 h15 W16 A17 X14 => ?_)
  have K18 := K12.wr W16 (Or.inr sz_b)
  replace A17 : La Z h15 b .double ([(.double (FP.l2d x0.toInt64)), (.double (FP.l2d x1.toInt64)), (.double (0 : UInt64))]) := A17
  refine go_dup C X14 60 rfl d1_59 rfl ?_
  refine go_iconst C X14 61 rfl d1_60 (z := 2) rfl ?_
  refine go_iloadN C X14 62 rfl d1_61 rfl ?_
  refine go_i2d C X14 63 rfl d1_62 ?_
  refine go_dastore C X14 A17 (by decide) (by show _ < (3 : Int); decide) ga_b (pc' := 64) rfl d1_63 (fun T19 h21 W22 A23 X20 => ?_)
  have K24 := K18.wr W22 (Or.inr sz_b)
  replace A23 : La Z h21 b .double ([(.double (FP.l2d x0.toInt64)), (.double (FP.l2d x1.toInt64)), (.double (FP.l2d x2.toInt64))]) := A23
  exact go_retA C X20 d1_64 rfl rfl ⟨b, rfl, Nat.le_of_eq ha_b.symm, K24, A23⟩ (by decide) (by decide)
theorem d1_65 : decode method_2_code 65 = .ok (.iconst 4, 1) := by decide +kernel
theorem d1_66 : decode method_2_code 66 = .ok (.newarray .double, 2) := by decide +kernel
theorem d1_68 : decode method_2_code 68 = .ok (.dup, 1) := by decide +kernel
theorem d1_69 : decode method_2_code 69 = .ok (.iconst 0, 1) := by decide +kernel
theorem d1_70 : decode method_2_code 70 = .ok (.iload_n 1, 1) := by decide +kernel
theorem d1_71 : decode method_2_code 71 = .ok (.i2d, 1) := by decide +kernel
theorem d1_72 : decode method_2_code 72 = .ok (.dastore, 1) := by decide +kernel
theorem d1_73 : decode method_2_code 73 = .ok (.dup, 1) := by decide +kernel
theorem d1_74 : decode method_2_code 74 = .ok (.iconst 1, 1) := by decide +kernel
theorem d1_75 : decode method_2_code 75 = .ok (.iload_n 2, 1) := by decide +kernel
theorem d1_76 : decode method_2_code 76 = .ok (.i2d, 1) := by decide +kernel
theorem d1_77 : decode method_2_code 77 = .ok (.dastore, 1) := by decide +kernel
theorem d1_78 : decode method_2_code 78 = .ok (.dup, 1) := by decide +kernel
theorem d1_79 : decode method_2_code 79 = .ok (.iconst 2, 1) := by decide +kernel
theorem d1_80 : decode method_2_code 80 = .ok (.iload_n 3, 1) := by decide +kernel
theorem d1_81 : decode method_2_code 81 = .ok (.i2d, 1) := by decide +kernel
theorem d1_82 : decode method_2_code 82 = .ok (.dastore, 1) := by decide +kernel
theorem d1_83 : decode method_2_code 83 = .ok (.dup, 1) := by decide +kernel
theorem d1_84 : decode method_2_code 84 = .ok (.iconst 3, 1) := by decide +kernel
theorem d1_85 : decode method_2_code 85 = .ok (.iload 4, 2) := by decide +kernel
theorem d1_87 : decode method_2_code 87 = .ok (.i2d, 1) := by decide +kernel
theorem d1_88 : decode method_2_code 88 = .ok (.dastore, 1) := by decide +kernel
theorem d1_89 : decode method_2_code 89 = .ok (.areturn, 1) := by decide +kernel
theorem ef_own_make_4 (m : MethodId) (x0 : Int32) (x1 : Int32) (x2 : Int32) (x3 : Int32) : entryFrame m #[(.int (4 : Int32)), (.int x0), (.int x1), (.int x2), (.int x3)] 5 = mkF m 0 #[iv (4 : Int32), iv x0, iv x1, iv x2, iv x3] [] := by first | (simp [entryFrame, mkF, argsToLocals, Value.category]; done) | rfl
set_option maxRecDepth 65536 in
set_option maxHeartbeats 40000000 in
theorem own_make_4 (l : Launch) (Z : State) (a0 : Array Value) (hw : ∀ d ∈ tables_1, d.before a0 Z = true) (x0 : Int32) (x1 : Int32) (x2 : Int32) (x3 : Int32)  (h : Heap) (n0 : Nat) (hn0 : Old Z n0 h)  :
    Con l Z (⟨"com/example/waymarshal/waymarshal/ranks/WindowSumPinLaw", "make", "(IIIII)[D"⟩ : MethodName) method_2_code 5 (some (.array .double)) ({ frames := 0, cells := 1, slots := 4, locals := 0 } : Room) #[(.int (4 : Int32)), (.int x0), (.int x1), (.int x2), (.int x3)] h n0 (fun v h' => ∃ b : Addr, v = some (.ref b) ∧ h.size ≤ b ∧ Keep h h' [] ∧ La Z h' b .double [.double (FP.l2d x0.toInt64), .double (FP.l2d x1.toInt64), .double (FP.l2d x2.toInt64), .double (FP.l2d x3.toInt64)]) := by
  refine con_of hw (plainFor_of_name pn_com_example_waymarshal_waymarshal_ranks_WindowSumPinLaw) hn0 ?_
  intro p e s m below meth c T0 C X0
  refine Go.cast (congrArg T0.setTop (ef_own_make_4 m x0 x1 x2 x3)) ?_
  refine go_iloadN C X0 1 rfl d1_0 rfl ?_
  refine go_if_ne C X0 d1_1 (pc' := 4) (pc2 := 8) rfl (by decide) (by decide) (fun (c1 : ¬ (4 : Int32) = (0 : Int32)) => ?_) (fun (c1 : (4 : Int32) = (0 : Int32)) => False.elim (by first | omega | exact absurd c1 (by decide)))
  refine go_iloadN C X0 9 rfl d1_8 rfl ?_
  refine go_iconst C X0 10 rfl d1_9 (z := 1) rfl ?_
  refine go_icmp_ne C X0 d1_10 (pc' := 13) (pc2 := 22) rfl (by decide) (by decide) (fun (c10 : ¬ (4 : Int32) = (1 : Int32)) => ?_) (fun (c10 : (4 : Int32) = (1 : Int32)) => False.elim (by first | omega | exact absurd c10 (by decide)))
  refine go_iloadN C X0 23 rfl d1_22 rfl ?_
  refine go_iconst C X0 24 rfl d1_23 (z := 2) rfl ?_
  refine go_icmp_ne C X0 d1_24 (pc' := 27) (pc2 := 41) rfl (by decide) (by decide) (fun (c24 : ¬ (4 : Int32) = (2 : Int32)) => ?_) (fun (c24 : (4 : Int32) = (2 : Int32)) => False.elim (by first | omega | exact absurd c24 (by decide)))
  refine go_iloadN C X0 42 rfl d1_41 rfl ?_
  refine go_iconst C X0 43 rfl d1_42 (z := 3) rfl ?_
  refine go_icmp_ne C X0 d1_43 (pc' := 46) (pc2 := 65) rfl (by decide) (by decide) (fun (c43 : ¬ (4 : Int32) = (3 : Int32)) => ?_) (fun (c43 : (4 : Int32) = (3 : Int32)) => False.elim (by first | omega | exact absurd c43 (by decide)))
  refine go_iconst C X0 66 rfl d1_65 (z := 4) rfl ?_
  refine go_newarr C X0 (C.w 5 rfl) (cap := 4) (by decide) (by decide) (by decide) (by decide) (by decide) (pc' := 68) rfl d1_66 (fun T1 h3 b ha_b ga_b E4 A5  X2 => ?_)
  have sz_b : h.size ≤ b := Nat.le_trans (Keep.refl h []).1 (Nat.le_of_eq ha_b.symm)
  have K6 := (Keep.refl h []).ext E4
  replace A5 : La Z h3 b .double ([(.double (0 : UInt64)), (.double (0 : UInt64)), (.double (0 : UInt64)), (.double (0 : UInt64))]) := A5
  refine go_dup C X2 69 rfl d1_68 rfl ?_
  refine go_iconst C X2 70 rfl d1_69 (z := 0) rfl ?_
  refine go_iloadN C X2 71 rfl d1_70 rfl ?_
  refine go_i2d C X2 72 rfl d1_71 ?_
  refine go_dastore C X2 A5 (by decide) (by show _ < (4 : Int); decide) ga_b (pc' := 73) rfl d1_72 (fun T7 h9 W10 A11 X8 => ?_)
  have K12 := K6.wr W10 (Or.inr sz_b)
  replace A11 : La Z h9 b .double ([(.double (FP.l2d x0.toInt64)), (.double (0 : UInt64)), (.double (0 : UInt64)), (.double (0 : UInt64))]) := A11
  refine go_dup C X8 74 rfl d1_73 rfl ?_
  refine go_iconst C X8 75 rfl d1_74 (z := 1) rfl ?_
  refine go_iloadN C X8 76 rfl d1_75 rfl ?_
  refine go_i2d C X8 77 rfl d1_76 ?_
  refine go_dastore C X8 A11 (by decide) (by show _ < (4 : Int); decide) ga_b (pc' := 78) rfl d1_77 (fun T13 h15 W16 A17 X14 => ?_)
  have K18 := K12.wr W16 (Or.inr sz_b)
  replace A17 : La Z h15 b .double ([(.double (FP.l2d x0.toInt64)), (.double (FP.l2d x1.toInt64)), (.double (0 : UInt64)), (.double (0 : UInt64))]) := A17
  refine go_dup C X14 79 rfl d1_78 rfl ?_
  refine go_iconst C X14 80 rfl d1_79 (z := 2) rfl ?_
  refine go_iloadN C X14 81 rfl d1_80 rfl ?_
  refine go_i2d C X14 82 rfl d1_81 ?_
  refine go_dastore C X14 A17 (by decide) (by show _ < (4 : Int); decide) ga_b (pc' := 83) rfl d1_82 (fun T19 h21 W22 A23 X20 => ?_)
  have K24 := K18.wr W22 (Or.inr sz_b)
  replace A23 : La Z h21 b .double ([(.double (FP.l2d x0.toInt64)), (.double (FP.l2d x1.toInt64)), (.double (FP.l2d x2.toInt64)), (.double (0 : UInt64))]) := A23
  refine go_dup C X20 84 rfl d1_83 rfl ?_
  refine go_iconst C X20 85 rfl d1_84 (z := 3) rfl ?_
  refine go_iload C X20 87 rfl d1_85 rfl ?_
  refine go_i2d C X20 88 rfl d1_87 ?_
  refine go_dastore C X20 A23 (by decide) (by show _ < (4 : Int); decide) ga_b (pc' := 89) rfl d1_88 (fun T25 h27 W28 A29 X26 => ?_)
  have K30 := K24.wr W28 (Or.inr sz_b)
  replace A29 : La Z h27 b .double ([(.double (FP.l2d x0.toInt64)), (.double (FP.l2d x1.toInt64)), (.double (FP.l2d x2.toInt64)), (.double (FP.l2d x3.toInt64))]) := A29
  exact go_retA C X26 d1_89 rfl rfl ⟨b, rfl, Nat.le_of_eq ha_b.symm, K30, A29⟩ (by decide) (by decide)
theorem d3_0 : decode jdk_30_method_1_code 0 = .ok (.aload_n 0, 1) := by decide +kernel
theorem d3_1 : decode jdk_30_method_1_code 1 = .ok (.invokespecial 1, 3) := by decide +kernel
theorem d3_4 : decode jdk_30_method_1_code 4 = .ok (.return_, 1) := by decide +kernel
theorem pn_java_lang_Record : plainName "java/lang/Record" = true := by first | (simp [plainName, overriddenIn]; done) | decide +kernel
theorem ef_own_rec (m : MethodId) (a : Addr) : entryFrame m #[(.ref a)] 1 = mkF m 0 #[rv a] [] := by first | (simp [entryFrame, mkF, argsToLocals, Value.category]; done) | rfl
set_option maxRecDepth 65536 in
set_option maxHeartbeats 40000000 in
theorem own_rec (l : Launch) (Z : State) (a0 : Array Value) (hw : ∀ d ∈ tables_1, d.before a0 Z = true) (a : Addr)  (h : Heap) (n0 : Nat) (hn0 : Old Z n0 h)  :
    Con l Z (⟨"java/lang/Record", "<init>", "()V"⟩ : MethodName) jdk_30_method_1_code 1 none ({ frames := 1, cells := 0, slots := 0, locals := 12 } : Room) #[(.ref a)] h n0 (fun v h' => v = none ∧ h = h') := by
  refine con_of hw (plainFor_of_name pn_java_lang_Record) hn0 ?_
  intro p e s m below meth c T0 C X0
  refine Go.cast (congrArg T0.setTop (ef_own_rec m a)) ?_
  refine go_aloadN C X0 1 rfl d3_0 rfl rfl ?_
  refine go_initO C X0 (C.w 17 rfl) (C.w 18 rfl) (C.w 19 rfl) (by decide) (Nat.le_of_ble_eq_true rfl) rfl (pc' := 4) rfl d3_1 (fun T1 X2 => ?_)
  exact go_ret0 C X2 d3_4 ⟨rfl, rfl⟩ (by decide) (by decide)
theorem d2_0 : decode prog_40_method_1_code 0 = .ok (.aload_n 0, 1) := by decide +kernel
theorem pd_0 : parseMethodDescriptor "()V" = some ⟨[], none⟩ := by decide +kernel
theorem d2_1 : decode prog_40_method_1_code 1 = .ok (.invokespecial 1, 3) := by decide +kernel
theorem d2_4 : decode prog_40_method_1_code 4 = .ok (.aload_n 0, 1) := by decide +kernel
theorem d2_5 : decode prog_40_method_1_code 5 = .ok (.lload_n 1, 1) := by decide +kernel
theorem d2_6 : decode prog_40_method_1_code 6 = .ok (.putfield 7, 3) := by decide +kernel
theorem d2_9 : decode prog_40_method_1_code 9 = .ok (.aload_n 0, 1) := by decide +kernel
theorem d2_10 : decode prog_40_method_1_code 10 = .ok (.dload_n 3, 1) := by decide +kernel
theorem d2_11 : decode prog_40_method_1_code 11 = .ok (.putfield 13, 3) := by decide +kernel
theorem d2_14 : decode prog_40_method_1_code 14 = .ok (.aload_n 0, 1) := by decide +kernel
theorem d2_15 : decode prog_40_method_1_code 15 = .ok (.aload 5, 2) := by decide +kernel
theorem d2_17 : decode prog_40_method_1_code 17 = .ok (.putfield 17, 3) := by decide +kernel
theorem d2_20 : decode prog_40_method_1_code 20 = .ok (.return_, 1) := by decide +kernel
theorem pn_com_example_waymarshal_waymarshal_ranks_Poisson_Window : plainName "com/example/waymarshal/waymarshal/ranks/Poisson$Window" = true := by first | (simp [plainName, overriddenIn]; done) | decide +kernel
theorem ef_own_winit (m : MethodId) (a : Addr) (q1 : Int64) (d1 : UInt64) (t1 : Addr) : entryFrame m #[(.ref a), (.long q1), (.double d1), (.ref t1)] 6 = mkF m 0 #[rv a, jv q1, sc, dv d1, sc, rv t1] [] := by first | (simp [entryFrame, mkF, argsToLocals, Value.category]; done) | rfl
set_option maxRecDepth 65536 in
set_option maxHeartbeats 40000000 in
theorem own_winit (l : Launch) (Z : State) (a0 : Array Value) (hw : ∀ d ∈ tables_1, d.before a0 Z = true) (a : Addr) (q1 : Int64) (d1 : UInt64) (t1 : Addr)  (h : Heap) (n0 : Nat) (hn0 : Old Z n0 h) (E0 : Exa Z h a "com/example/waymarshal/waymarshal/ranks/Poisson$Window") (F0 : Fld Z h a "com/example/waymarshal/waymarshal/ranks/Poisson$Window" "first" "J" (.long 0)) (F1 : Fld Z h a "com/example/waymarshal/waymarshal/ranks/Poisson$Window" "logScale" "D" (.double 0)) (F2 : Fld Z h a "com/example/waymarshal/waymarshal/ranks/Poisson$Window" "terms" "[D" .null) (ga : n0 ≤ a) :
    Con l Z (⟨"com/example/waymarshal/waymarshal/ranks/Poisson$Window", "<init>", "(JD[D)V"⟩ : MethodName) prog_40_method_1_code 6 none ({ frames := 2, cells := 0, slots := 0, locals := 24 } : Room) #[(.ref a), (.long q1), (.double d1), (.ref t1)] h n0 (fun v h' => v = none ∧ Keep h h' [a] ∧ Exa Z h' a "com/example/waymarshal/waymarshal/ranks/Poisson$Window" ∧ Fld Z h' a "com/example/waymarshal/waymarshal/ranks/Poisson$Window" "terms" "[D" (.ref t1)) := by
  refine con_of hw (plainFor_of_name pn_com_example_waymarshal_waymarshal_ranks_Poisson_Window) hn0 ?_
  intro p e s m below meth c T0 C X0
  refine Go.cast (congrArg T0.setTop (ef_own_winit m a q1 d1 t1)) ?_
  refine go_aloadN C X0 1 rfl d2_0 rfl rfl ?_
  refine go_special C X0 (C.w 12 rfl) (C.w 13 rfl) (C.w 15 rfl) (C.w 16 rfl) rfl (own_rec l Z a0 C.ws a h n0 X0.old ) (argsL := []) (rest := []) (lenOf pd_0 rfl) rfl (by decide) (by decide) (Nat.le_of_ble_eq_true rfl) (by decide) (by decide) rfl rfl (pc' := 4) rfl d2_1 ?_
  rintro T1 _ _ ⟨rfl, rfl⟩ X2
  show Go p e below _ (T1.setTop (mkF m 4 #[rv a, jv q1, sc, dv d1, sc, rv t1] []))
  refine go_aloadN C X2 5 rfl d2_4 rfl rfl ?_
  refine go_lloadN C X2 6 rfl d2_5 rfl ?_
  refine go_putF C X2 (C.w 20 rfl) Via.refl F0 E0 (Or.inr ⟨C.w 21 rfl, rfl, C.nmE⟩) (C.w 7 rfl) ga (ty := .long) (by decide) rfl rfl (pc' := 9) rfl d2_6 (fun T4 h6 W7 X5 => ?_)
  have F8 := F0.same W7
  have E9 := E0.wr W7
  have F10 := F1.other W7 (Or.inr (slot_ne (Or.inr (C.w 23 rfl)) (Or.inr (C.w 21 rfl)) (by decide) (t := .double) (t' := .long) (by decide) (by decide)))
  have F11 := F2.other W7 (Or.inr (slot_ne (Or.inr (C.w 25 rfl)) (Or.inr (C.w 21 rfl)) (by decide) (t := (.array .double)) (t' := .long) (by decide) (by decide)))
  have K12 := (Keep.refl h [a]).wr W7 (Or.inl (List.mem_of_getElem? (i := 0) rfl))
  refine go_aloadN C X5 10 rfl d2_9 rfl rfl ?_
  refine go_dloadN C X5 11 rfl d2_10 rfl ?_
  refine go_putF C X5 (C.w 22 rfl) Via.refl F10 E9 (Or.inr ⟨C.w 23 rfl, rfl, C.nmE⟩) (C.w 7 rfl) ga (ty := .double) (by decide) rfl rfl (pc' := 14) rfl d2_11 (fun T13 h15 W16 X14 => ?_)
  have F17 := F10.same W16
  have E18 := E9.wr W16
  have F19 := F8.other W16 (Or.inr (slot_ne (Or.inr (C.w 21 rfl)) (Or.inr (C.w 23 rfl)) (by decide) (t := .long) (t' := .double) (by decide) (by decide)))
  have F20 := F11.other W16 (Or.inr (slot_ne (Or.inr (C.w 25 rfl)) (Or.inr (C.w 23 rfl)) (by decide) (t := (.array .double)) (t' := .double) (by decide) (by decide)))
  have K21 := K12.wr W16 (Or.inl (List.mem_of_getElem? (i := 0) rfl))
  refine go_aloadN C X14 15 rfl d2_14 rfl rfl ?_
  refine go_aload C X14 17 rfl d2_15 rfl rfl ?_
  refine go_putF C X14 (C.w 24 rfl) Via.refl F20 E18 (Or.inr ⟨C.w 25 rfl, rfl, C.nmE⟩) (C.w 7 rfl) ga (ty := (.array .double)) (by decide) rfl rfl (pc' := 20) rfl d2_17 (fun T22 h24 W25 X23 => ?_)
  have F26 := F20.same W25
  have E27 := E18.wr W25
  have F28 := F19.other W25 (Or.inr (slot_ne (Or.inr (C.w 21 rfl)) (Or.inr (C.w 25 rfl)) (by decide) (t := .long) (t' := (.array .double)) (by decide) (by decide)))
  have F29 := F17.other W25 (Or.inr (slot_ne (Or.inr (C.w 23 rfl)) (Or.inr (C.w 25 rfl)) (by decide) (t := .double) (t' := (.array .double)) (by decide) (by decide)))
  have K30 := K21.wr W25 (Or.inl (List.mem_of_getElem? (i := 0) rfl))
  exact go_ret0 C X23 d2_20 ⟨rfl, K30, E27, F26⟩ (by decide) (by decide)
theorem d5_0 : decode prog_40_method_3_code 0 = .ok (.dconst 0, 1) := by decide +kernel
theorem d5_1 : decode prog_40_method_3_code 1 = .ok (.dstore_n 1, 1) := by decide +kernel
theorem d5_2 : decode prog_40_method_3_code 2 = .ok (.aload_n 0, 1) := by decide +kernel
theorem d5_3 : decode prog_40_method_3_code 3 = .ok (.getfield 17, 3) := by decide +kernel
theorem d5_6 : decode prog_40_method_3_code 6 = .ok (.astore_n 3, 1) := by decide +kernel
theorem d5_7 : decode prog_40_method_3_code 7 = .ok (.aload_n 3, 1) := by decide +kernel
theorem d5_8 : decode prog_40_method_3_code 8 = .ok (.arraylength, 1) := by decide +kernel
theorem d5_9 : decode prog_40_method_3_code 9 = .ok (.istore 4, 2) := by decide +kernel
theorem d5_11 : decode prog_40_method_3_code 11 = .ok (.iconst 0, 1) := by decide +kernel
theorem d5_12 : decode prog_40_method_3_code 12 = .ok (.istore 5, 2) := by decide +kernel
theorem d5_14 : decode prog_40_method_3_code 14 = .ok (.iload 5, 2) := by decide +kernel
theorem d5_16 : decode prog_40_method_3_code 16 = .ok (.iload 4, 2) := by decide +kernel
theorem d5_18 : decode prog_40_method_3_code 18 = .ok (.if_icmp .ge 20, 3) := by decide +kernel
theorem d5_38 : decode prog_40_method_3_code 38 = .ok (.dload_n 1, 1) := by decide +kernel
theorem d5_39 : decode prog_40_method_3_code 39 = .ok (.dreturn, 1) := by decide +kernel
theorem ef_own_sum_0 (m : MethodId) (a : Addr) : entryFrame m #[(.ref a)] 8 = mkF m 0 #[rv a, un, un, un, un, un, un, un] [] := by first | (simp [entryFrame, mkF, argsToLocals, Value.category]; done) | rfl
set_option maxRecDepth 65536 in
set_option maxHeartbeats 40000000 in
theorem own_sum_0 (l : Launch) (Z : State) (a0 : Array Value) (hw : ∀ d ∈ tables_1, d.before a0 Z = true) (a : Addr) (b : Addr) (x0 x1 x2 x3 : Int32) (h : Heap) (n0 : Nat) (hn0 : Old Z n0 h) (F1 : Fld Z h a "com/example/waymarshal/waymarshal/ranks/Poisson$Window" "terms" "[D" (.ref b)) (A1 : La Z h b .double [])  :
    Con l Z (⟨"com/example/waymarshal/waymarshal/ranks/Poisson$Window", "sum", "()D"⟩ : MethodName) prog_40_method_3_code 8 (some .double) ({ frames := 0, cells := 0, slots := 0, locals := 0 } : Room) #[(.ref a)] h n0 (fun v h' => v = some (.double (FP.l2d 0)) ∧ h = h') := by
  refine con_of hw (plainFor_of_name pn_com_example_waymarshal_waymarshal_ranks_Poisson_Window) hn0 ?_
  intro p e s m below meth c T0 C X0
  refine Go.cast (congrArg T0.setTop (ef_own_sum_0 m a)) ?_
  refine go_dconst0 C X0 1 rfl d5_0 ?_
  refine go_dstoreN C X0 2 rfl d5_1 #[rv a, dv (FP.l2d 0), sc, un, un, un, un, un] rfl ?_
  refine go_aloadN C X0 3 rfl d5_2 rfl rfl ?_
  refine go_getF C X0 (C.w 24 rfl) Via.refl F1 (pc' := 6) rfl d5_3 (fun T1 X2 => ?_)
  refine go_astoreN C X2 7 rfl d5_6 rfl #[rv a, dv (FP.l2d 0), sc, rv b, un, un, un, un] rfl ?_
  refine go_aloadN C X2 8 rfl d5_7 rfl rfl ?_
  refine go_alen C X2 A1 (z := (0 : Int32)) rfl (pc' := 9) rfl d5_8 ?_
  refine go_istore C X2 11 rfl d5_9 #[rv a, dv (FP.l2d 0), sc, rv b, iv (0 : Int32), un, un, un] rfl ?_
  refine go_iconst C X2 12 rfl d5_11 (z := 0) rfl ?_
  refine go_istore C X2 14 rfl d5_12 #[rv a, dv (FP.l2d 0), sc, rv b, iv (0 : Int32), iv (0 : Int32), un, un] rfl ?_
  refine go_iload C X2 16 rfl d5_14 rfl ?_
  refine go_iload C X2 18 rfl d5_16 rfl ?_
  refine go_icmp_ge C X2 d5_18 (pc' := 21) (pc2 := 38) rfl (by decide) (by decide) (fun (c18 : 0 ≤ 0) => ?_) (fun (c18 : 0 < 0) => False.elim (by first | omega | exact absurd c18 (by decide)))
  refine go_dloadN C X2 39 rfl d5_38 rfl ?_
  exact go_retD C X2 d5_39 ⟨rfl, rfl⟩ (by decide) (by decide)
theorem d5_21 : decode prog_40_method_3_code 21 = .ok (.aload_n 3, 1) := by decide +kernel
theorem d5_22 : decode prog_40_method_3_code 22 = .ok (.iload 5, 2) := by decide +kernel
theorem d5_24 : decode prog_40_method_3_code 24 = .ok (.daload, 1) := by decide +kernel
theorem d5_25 : decode prog_40_method_3_code 25 = .ok (.dstore 6, 2) := by decide +kernel
theorem d5_27 : decode prog_40_method_3_code 27 = .ok (.dload_n 1, 1) := by decide +kernel
theorem d5_28 : decode prog_40_method_3_code 28 = .ok (.dload 6, 2) := by decide +kernel
theorem d5_30 : decode prog_40_method_3_code 30 = .ok (.dadd, 1) := by decide +kernel
theorem d5_31 : decode prog_40_method_3_code 31 = .ok (.dstore_n 1, 1) := by decide +kernel
theorem d5_32 : decode prog_40_method_3_code 32 = .ok (.iinc 5 1, 3) := by decide +kernel
theorem d5_35 : decode prog_40_method_3_code 35 = .ok (.goto (-21), 3) := by decide +kernel
theorem ef_own_sum_1 (m : MethodId) (a : Addr) : entryFrame m #[(.ref a)] 8 = mkF m 0 #[rv a, un, un, un, un, un, un, un] [] := by first | (simp [entryFrame, mkF, argsToLocals, Value.category]; done) | rfl
set_option maxRecDepth 65536 in
set_option maxHeartbeats 40000000 in
theorem own_sum_1 (l : Launch) (Z : State) (a0 : Array Value) (hw : ∀ d ∈ tables_1, d.before a0 Z = true) (a : Addr) (b : Addr) (x0 x1 x2 x3 : Int32) (h : Heap) (n0 : Nat) (hn0 : Old Z n0 h) (F1 : Fld Z h a "com/example/waymarshal/waymarshal/ranks/Poisson$Window" "terms" "[D" (.ref b)) (A1 : La Z h b .double [.double (FP.l2d x0.toInt64)]) (b0 : 0 ≤ x0.toInt64.toInt ∧ x0.toInt64.toInt < 1048576) :
    Con l Z (⟨"com/example/waymarshal/waymarshal/ranks/Poisson$Window", "sum", "()D"⟩ : MethodName) prog_40_method_3_code 8 (some .double) ({ frames := 0, cells := 0, slots := 0, locals := 0 } : Room) #[(.ref a)] h n0 (fun v h' => v = some (.double (FP.l2d (0 + x0.toInt64))) ∧ h = h') := by
  refine con_of hw (plainFor_of_name pn_com_example_waymarshal_waymarshal_ranks_Poisson_Window) hn0 ?_
  intro p e s m below meth c T0 C X0
  refine Go.cast (congrArg T0.setTop (ef_own_sum_1 m a)) ?_
  refine go_dconst0 C X0 1 rfl d5_0 ?_
  refine go_dstoreN C X0 2 rfl d5_1 #[rv a, dv (FP.l2d 0), sc, un, un, un, un, un] rfl ?_
  refine go_aloadN C X0 3 rfl d5_2 rfl rfl ?_
  refine go_getF C X0 (C.w 24 rfl) Via.refl F1 (pc' := 6) rfl d5_3 (fun T1 X2 => ?_)
  refine go_astoreN C X2 7 rfl d5_6 rfl #[rv a, dv (FP.l2d 0), sc, rv b, un, un, un, un] rfl ?_
  refine go_aloadN C X2 8 rfl d5_7 rfl rfl ?_
  refine go_alen C X2 A1 (z := (1 : Int32)) rfl (pc' := 9) rfl d5_8 ?_
  refine go_istore C X2 11 rfl d5_9 #[rv a, dv (FP.l2d 0), sc, rv b, iv (1 : Int32), un, un, un] rfl ?_
  refine go_iconst C X2 12 rfl d5_11 (z := 0) rfl ?_
  refine go_istore C X2 14 rfl d5_12 #[rv a, dv (FP.l2d 0), sc, rv b, iv (1 : Int32), iv (0 : Int32), un, un] rfl ?_
  refine go_iload C X2 16 rfl d5_14 rfl ?_
  refine go_iload C X2 18 rfl d5_16 rfl ?_
  refine go_icmp_ge C X2 d5_18 (pc' := 21) (pc2 := 38) rfl (by decide) (by decide) (fun (c18 : 1 ≤ 0) => False.elim (by first | omega | exact absurd c18 (by decide))) (fun (c18 : 0 < 1) => ?_)
  refine go_aloadN C X2 22 rfl d5_21 rfl rfl ?_
  refine go_iload C X2 24 rfl d5_22 rfl ?_
  refine go_daload C X2 A1 (by decide) (v := (.double (FP.l2d x0.toInt64))) rfl (pc' := 25) rfl d5_24 ?_
  refine go_dstore C X2 27 rfl d5_25 #[rv a, dv (FP.l2d 0), sc, rv b, iv (1 : Int32), iv (0 : Int32), dv (FP.l2d x0.toInt64), sc] rfl ?_
  refine go_dloadN C X2 28 rfl d5_27 rfl ?_
  refine go_dload C X2 30 rfl d5_28 rfl ?_
  refine go_dadd C X2 31 rfl d5_30 (own_b (by decide) (by decide)) (own_b b0.1 (by have := b0.2; omega)) ?_
  have S1 : 0 ≤ (0 + x0.toInt64).toInt ∧ (0 + x0.toInt64).toInt < 1048577 := by have := b0; have := l_add (a := 0) (x := 0) (b := x0.toInt64) rfl rfl (by omega) (by omega); omega
  refine go_dstoreN C X2 32 rfl d5_31 #[rv a, dv (FP.l2d (0 + x0.toInt64)), sc, rv b, iv (1 : Int32), iv (0 : Int32), dv (FP.l2d x0.toInt64), sc] rfl ?_
  refine go_iinc C X2 35 rfl d5_32 rfl (z := 1) rfl #[rv a, dv (FP.l2d (0 + x0.toInt64)), sc, rv b, iv (1 : Int32), iv (1 : Int32), dv (FP.l2d x0.toInt64), sc] rfl ?_
  refine go_goto C X2 d5_35 (pc' := 14) (by decide) (by decide) ?_
  refine go_iload C X2 16 rfl d5_14 rfl ?_
  refine go_iload C X2 18 rfl d5_16 rfl ?_
  refine go_icmp_ge C X2 d5_18 (pc' := 21) (pc2 := 38) rfl (by decide) (by decide) (fun (c18 : 1 ≤ 1) => ?_) (fun (c18 : 1 < 1) => False.elim (by first | omega | exact absurd c18 (by decide)))
  refine go_dloadN C X2 39 rfl d5_38 rfl ?_
  exact go_retD C X2 d5_39 ⟨rfl, rfl⟩ (by decide) (by decide)
theorem ef_own_sum_2 (m : MethodId) (a : Addr) : entryFrame m #[(.ref a)] 8 = mkF m 0 #[rv a, un, un, un, un, un, un, un] [] := by first | (simp [entryFrame, mkF, argsToLocals, Value.category]; done) | rfl
set_option maxRecDepth 65536 in
set_option maxHeartbeats 40000000 in
theorem own_sum_2 (l : Launch) (Z : State) (a0 : Array Value) (hw : ∀ d ∈ tables_1, d.before a0 Z = true) (a : Addr) (b : Addr) (x0 x1 x2 x3 : Int32) (h : Heap) (n0 : Nat) (hn0 : Old Z n0 h) (F1 : Fld Z h a "com/example/waymarshal/waymarshal/ranks/Poisson$Window" "terms" "[D" (.ref b)) (A1 : La Z h b .double [.double (FP.l2d x0.toInt64), .double (FP.l2d x1.toInt64)]) (b0 : 0 ≤ x0.toInt64.toInt ∧ x0.toInt64.toInt < 1048576) (b1 : 0 ≤ x1.toInt64.toInt ∧ x1.toInt64.toInt < 1048576) :
    Con l Z (⟨"com/example/waymarshal/waymarshal/ranks/Poisson$Window", "sum", "()D"⟩ : MethodName) prog_40_method_3_code 8 (some .double) ({ frames := 0, cells := 0, slots := 0, locals := 0 } : Room) #[(.ref a)] h n0 (fun v h' => v = some (.double (FP.l2d ((0 + x0.toInt64) + x1.toInt64))) ∧ h = h') := by
  refine con_of hw (plainFor_of_name pn_com_example_waymarshal_waymarshal_ranks_Poisson_Window) hn0 ?_
  intro p e s m below meth c T0 C X0
  refine Go.cast (congrArg T0.setTop (ef_own_sum_2 m a)) ?_
  refine go_dconst0 C X0 1 rfl d5_0 ?_
  refine go_dstoreN C X0 2 rfl d5_1 #[rv a, dv (FP.l2d 0), sc, un, un, un, un, un] rfl ?_
  refine go_aloadN C X0 3 rfl d5_2 rfl rfl ?_
  refine go_getF C X0 (C.w 24 rfl) Via.refl F1 (pc' := 6) rfl d5_3 (fun T1 X2 => ?_)
  refine go_astoreN C X2 7 rfl d5_6 rfl #[rv a, dv (FP.l2d 0), sc, rv b, un, un, un, un] rfl ?_
  refine go_aloadN C X2 8 rfl d5_7 rfl rfl ?_
  refine go_alen C X2 A1 (z := (2 : Int32)) rfl (pc' := 9) rfl d5_8 ?_
  refine go_istore C X2 11 rfl d5_9 #[rv a, dv (FP.l2d 0), sc, rv b, iv (2 : Int32), un, un, un] rfl ?_
  refine go_iconst C X2 12 rfl d5_11 (z := 0) rfl ?_
  refine go_istore C X2 14 rfl d5_12 #[rv a, dv (FP.l2d 0), sc, rv b, iv (2 : Int32), iv (0 : Int32), un, un] rfl ?_
  refine go_iload C X2 16 rfl d5_14 rfl ?_
  refine go_iload C X2 18 rfl d5_16 rfl ?_
  refine go_icmp_ge C X2 d5_18 (pc' := 21) (pc2 := 38) rfl (by decide) (by decide) (fun (c18 : 2 ≤ 0) => False.elim (by first | omega | exact absurd c18 (by decide))) (fun (c18 : 0 < 2) => ?_)
  refine go_aloadN C X2 22 rfl d5_21 rfl rfl ?_
  refine go_iload C X2 24 rfl d5_22 rfl ?_
  refine go_daload C X2 A1 (by decide) (v := (.double (FP.l2d x0.toInt64))) rfl (pc' := 25) rfl d5_24 ?_
  refine go_dstore C X2 27 rfl d5_25 #[rv a, dv (FP.l2d 0), sc, rv b, iv (2 : Int32), iv (0 : Int32), dv (FP.l2d x0.toInt64), sc] rfl ?_
  refine go_dloadN C X2 28 rfl d5_27 rfl ?_
  refine go_dload C X2 30 rfl d5_28 rfl ?_
  refine go_dadd C X2 31 rfl d5_30 (own_b (by decide) (by decide)) (own_b b0.1 (by have := b0.2; omega)) ?_
  have S1 : 0 ≤ (0 + x0.toInt64).toInt ∧ (0 + x0.toInt64).toInt < 1048577 := by have := b0; have := l_add (a := 0) (x := 0) (b := x0.toInt64) rfl rfl (by omega) (by omega); omega
  refine go_dstoreN C X2 32 rfl d5_31 #[rv a, dv (FP.l2d (0 + x0.toInt64)), sc, rv b, iv (2 : Int32), iv (0 : Int32), dv (FP.l2d x0.toInt64), sc] rfl ?_
  refine go_iinc C X2 35 rfl d5_32 rfl (z := 1) rfl #[rv a, dv (FP.l2d (0 + x0.toInt64)), sc, rv b, iv (2 : Int32), iv (1 : Int32), dv (FP.l2d x0.toInt64), sc] rfl ?_
  refine go_goto C X2 d5_35 (pc' := 14) (by decide) (by decide) ?_
  refine go_iload C X2 16 rfl d5_14 rfl ?_
  refine go_iload C X2 18 rfl d5_16 rfl ?_
  refine go_icmp_ge C X2 d5_18 (pc' := 21) (pc2 := 38) rfl (by decide) (by decide) (fun (c18 : 2 ≤ 1) => False.elim (by first | omega | exact absurd c18 (by decide))) (fun (c18 : 1 < 2) => ?_)
  refine go_aloadN C X2 22 rfl d5_21 rfl rfl ?_
  refine go_iload C X2 24 rfl d5_22 rfl ?_
  refine go_daload C X2 A1 (by decide) (v := (.double (FP.l2d x1.toInt64))) rfl (pc' := 25) rfl d5_24 ?_
  refine go_dstore C X2 27 rfl d5_25 #[rv a, dv (FP.l2d (0 + x0.toInt64)), sc, rv b, iv (2 : Int32), iv (1 : Int32), dv (FP.l2d x1.toInt64), sc] rfl ?_
  refine go_dloadN C X2 28 rfl d5_27 rfl ?_
  refine go_dload C X2 30 rfl d5_28 rfl ?_
  refine go_dadd C X2 31 rfl d5_30 (own_b S1.1 (by have := S1.2; omega)) (own_b b1.1 (by have := b1.2; omega)) ?_
  have S2 : 0 ≤ ((0 + x0.toInt64) + x1.toInt64).toInt ∧ ((0 + x0.toInt64) + x1.toInt64).toInt < 2097153 := by have := b1; have := S1; have := l_add (a := (0 + x0.toInt64)) (b := x1.toInt64) rfl rfl (by omega) (by omega); omega
  refine go_dstoreN C X2 32 rfl d5_31 #[rv a, dv (FP.l2d ((0 + x0.toInt64) + x1.toInt64)), sc, rv b, iv (2 : Int32), iv (1 : Int32), dv (FP.l2d x1.toInt64), sc] rfl ?_
  refine go_iinc C X2 35 rfl d5_32 rfl (z := 1) rfl #[rv a, dv (FP.l2d ((0 + x0.toInt64) + x1.toInt64)), sc, rv b, iv (2 : Int32), iv (2 : Int32), dv (FP.l2d x1.toInt64), sc] rfl ?_
  refine go_goto C X2 d5_35 (pc' := 14) (by decide) (by decide) ?_
  refine go_iload C X2 16 rfl d5_14 rfl ?_
  refine go_iload C X2 18 rfl d5_16 rfl ?_
  refine go_icmp_ge C X2 d5_18 (pc' := 21) (pc2 := 38) rfl (by decide) (by decide) (fun (c18 : 2 ≤ 2) => ?_) (fun (c18 : 2 < 2) => False.elim (by first | omega | exact absurd c18 (by decide)))
  refine go_dloadN C X2 39 rfl d5_38 rfl ?_
  exact go_retD C X2 d5_39 ⟨rfl, rfl⟩ (by decide) (by decide)
theorem ef_own_sum_3 (m : MethodId) (a : Addr) : entryFrame m #[(.ref a)] 8 = mkF m 0 #[rv a, un, un, un, un, un, un, un] [] := by first | (simp [entryFrame, mkF, argsToLocals, Value.category]; done) | rfl
set_option maxRecDepth 65536 in
set_option maxHeartbeats 40000000 in
theorem own_sum_3 (l : Launch) (Z : State) (a0 : Array Value) (hw : ∀ d ∈ tables_1, d.before a0 Z = true) (a : Addr) (b : Addr) (x0 x1 x2 x3 : Int32) (h : Heap) (n0 : Nat) (hn0 : Old Z n0 h) (F1 : Fld Z h a "com/example/waymarshal/waymarshal/ranks/Poisson$Window" "terms" "[D" (.ref b)) (A1 : La Z h b .double [.double (FP.l2d x0.toInt64), .double (FP.l2d x1.toInt64), .double (FP.l2d x2.toInt64)]) (b0 : 0 ≤ x0.toInt64.toInt ∧ x0.toInt64.toInt < 1048576) (b1 : 0 ≤ x1.toInt64.toInt ∧ x1.toInt64.toInt < 1048576) (b2 : 0 ≤ x2.toInt64.toInt ∧ x2.toInt64.toInt < 1048576) :
    Con l Z (⟨"com/example/waymarshal/waymarshal/ranks/Poisson$Window", "sum", "()D"⟩ : MethodName) prog_40_method_3_code 8 (some .double) ({ frames := 0, cells := 0, slots := 0, locals := 0 } : Room) #[(.ref a)] h n0 (fun v h' => v = some (.double (FP.l2d (((0 + x0.toInt64) + x1.toInt64) + x2.toInt64))) ∧ h = h') := by
  refine con_of hw (plainFor_of_name pn_com_example_waymarshal_waymarshal_ranks_Poisson_Window) hn0 ?_
  intro p e s m below meth c T0 C X0
  refine Go.cast (congrArg T0.setTop (ef_own_sum_3 m a)) ?_
  refine go_dconst0 C X0 1 rfl d5_0 ?_
  refine go_dstoreN C X0 2 rfl d5_1 #[rv a, dv (FP.l2d 0), sc, un, un, un, un, un] rfl ?_
  refine go_aloadN C X0 3 rfl d5_2 rfl rfl ?_
  refine go_getF C X0 (C.w 24 rfl) Via.refl F1 (pc' := 6) rfl d5_3 (fun T1 X2 => ?_)
  refine go_astoreN C X2 7 rfl d5_6 rfl #[rv a, dv (FP.l2d 0), sc, rv b, un, un, un, un] rfl ?_
  refine go_aloadN C X2 8 rfl d5_7 rfl rfl ?_
  refine go_alen C X2 A1 (z := (3 : Int32)) rfl (pc' := 9) rfl d5_8 ?_
  refine go_istore C X2 11 rfl d5_9 #[rv a, dv (FP.l2d 0), sc, rv b, iv (3 : Int32), un, un, un] rfl ?_
  refine go_iconst C X2 12 rfl d5_11 (z := 0) rfl ?_
  refine go_istore C X2 14 rfl d5_12 #[rv a, dv (FP.l2d 0), sc, rv b, iv (3 : Int32), iv (0 : Int32), un, un] rfl ?_
  refine go_iload C X2 16 rfl d5_14 rfl ?_
  refine go_iload C X2 18 rfl d5_16 rfl ?_
  refine go_icmp_ge C X2 d5_18 (pc' := 21) (pc2 := 38) rfl (by decide) (by decide) (fun (c18 : 3 ≤ 0) => False.elim (by first | omega | exact absurd c18 (by decide))) (fun (c18 : 0 < 3) => ?_)
  refine go_aloadN C X2 22 rfl d5_21 rfl rfl ?_
  refine go_iload C X2 24 rfl d5_22 rfl ?_
  refine go_daload C X2 A1 (by decide) (v := (.double (FP.l2d x0.toInt64))) rfl (pc' := 25) rfl d5_24 ?_
  refine go_dstore C X2 27 rfl d5_25 #[rv a, dv (FP.l2d 0), sc, rv b, iv (3 : Int32), iv (0 : Int32), dv (FP.l2d x0.toInt64), sc] rfl ?_
  refine go_dloadN C X2 28 rfl d5_27 rfl ?_
  refine go_dload C X2 30 rfl d5_28 rfl ?_
  refine go_dadd C X2 31 rfl d5_30 (own_b (by decide) (by decide)) (own_b b0.1 (by have := b0.2; omega)) ?_
  have S1 : 0 ≤ (0 + x0.toInt64).toInt ∧ (0 + x0.toInt64).toInt < 1048577 := by have := b0; have := l_add (a := 0) (x := 0) (b := x0.toInt64) rfl rfl (by omega) (by omega); omega
  refine go_dstoreN C X2 32 rfl d5_31 #[rv a, dv (FP.l2d (0 + x0.toInt64)), sc, rv b, iv (3 : Int32), iv (0 : Int32), dv (FP.l2d x0.toInt64), sc] rfl ?_
  refine go_iinc C X2 35 rfl d5_32 rfl (z := 1) rfl #[rv a, dv (FP.l2d (0 + x0.toInt64)), sc, rv b, iv (3 : Int32), iv (1 : Int32), dv (FP.l2d x0.toInt64), sc] rfl ?_
  refine go_goto C X2 d5_35 (pc' := 14) (by decide) (by decide) ?_
  refine go_iload C X2 16 rfl d5_14 rfl ?_
  refine go_iload C X2 18 rfl d5_16 rfl ?_
  refine go_icmp_ge C X2 d5_18 (pc' := 21) (pc2 := 38) rfl (by decide) (by decide) (fun (c18 : 3 ≤ 1) => False.elim (by first | omega | exact absurd c18 (by decide))) (fun (c18 : 1 < 3) => ?_)
  refine go_aloadN C X2 22 rfl d5_21 rfl rfl ?_
  refine go_iload C X2 24 rfl d5_22 rfl ?_
  refine go_daload C X2 A1 (by decide) (v := (.double (FP.l2d x1.toInt64))) rfl (pc' := 25) rfl d5_24 ?_
  refine go_dstore C X2 27 rfl d5_25 #[rv a, dv (FP.l2d (0 + x0.toInt64)), sc, rv b, iv (3 : Int32), iv (1 : Int32), dv (FP.l2d x1.toInt64), sc] rfl ?_
  refine go_dloadN C X2 28 rfl d5_27 rfl ?_
  refine go_dload C X2 30 rfl d5_28 rfl ?_
  refine go_dadd C X2 31 rfl d5_30 (own_b S1.1 (by have := S1.2; omega)) (own_b b1.1 (by have := b1.2; omega)) ?_
  have S2 : 0 ≤ ((0 + x0.toInt64) + x1.toInt64).toInt ∧ ((0 + x0.toInt64) + x1.toInt64).toInt < 2097153 := by have := b1; have := S1; have := l_add (a := (0 + x0.toInt64)) (b := x1.toInt64) rfl rfl (by omega) (by omega); omega
  refine go_dstoreN C X2 32 rfl d5_31 #[rv a, dv (FP.l2d ((0 + x0.toInt64) + x1.toInt64)), sc, rv b, iv (3 : Int32), iv (1 : Int32), dv (FP.l2d x1.toInt64), sc] rfl ?_
  refine go_iinc C X2 35 rfl d5_32 rfl (z := 1) rfl #[rv a, dv (FP.l2d ((0 + x0.toInt64) + x1.toInt64)), sc, rv b, iv (3 : Int32), iv (2 : Int32), dv (FP.l2d x1.toInt64), sc] rfl ?_
  refine go_goto C X2 d5_35 (pc' := 14) (by decide) (by decide) ?_
  refine go_iload C X2 16 rfl d5_14 rfl ?_
  refine go_iload C X2 18 rfl d5_16 rfl ?_
  refine go_icmp_ge C X2 d5_18 (pc' := 21) (pc2 := 38) rfl (by decide) (by decide) (fun (c18 : 3 ≤ 2) => False.elim (by first | omega | exact absurd c18 (by decide))) (fun (c18 : 2 < 3) => ?_)
  refine go_aloadN C X2 22 rfl d5_21 rfl rfl ?_
  refine go_iload C X2 24 rfl d5_22 rfl ?_
  refine go_daload C X2 A1 (by decide) (v := (.double (FP.l2d x2.toInt64))) rfl (pc' := 25) rfl d5_24 ?_
  refine go_dstore C X2 27 rfl d5_25 #[rv a, dv (FP.l2d ((0 + x0.toInt64) + x1.toInt64)), sc, rv b, iv (3 : Int32), iv (2 : Int32), dv (FP.l2d x2.toInt64), sc] rfl ?_
  refine go_dloadN C X2 28 rfl d5_27 rfl ?_
  refine go_dload C X2 30 rfl d5_28 rfl ?_
  refine go_dadd C X2 31 rfl d5_30 (own_b S2.1 (by have := S2.2; omega)) (own_b b2.1 (by have := b2.2; omega)) ?_
  have S3 : 0 ≤ (((0 + x0.toInt64) + x1.toInt64) + x2.toInt64).toInt ∧ (((0 + x0.toInt64) + x1.toInt64) + x2.toInt64).toInt < 3145729 := by have := b2; have := S2; have := l_add (a := ((0 + x0.toInt64) + x1.toInt64)) (b := x2.toInt64) rfl rfl (by omega) (by omega); omega
  refine go_dstoreN C X2 32 rfl d5_31 #[rv a, dv (FP.l2d (((0 + x0.toInt64) + x1.toInt64) + x2.toInt64)), sc, rv b, iv (3 : Int32), iv (2 : Int32), dv (FP.l2d x2.toInt64), sc] rfl ?_
  refine go_iinc C X2 35 rfl d5_32 rfl (z := 1) rfl #[rv a, dv (FP.l2d (((0 + x0.toInt64) + x1.toInt64) + x2.toInt64)), sc, rv b, iv (3 : Int32), iv (3 : Int32), dv (FP.l2d x2.toInt64), sc] rfl ?_
  refine go_goto C X2 d5_35 (pc' := 14) (by decide) (by decide) ?_
  refine go_iload C X2 16 rfl d5_14 rfl ?_
  refine go_iload C X2 18 rfl d5_16 rfl ?_
  refine go_icmp_ge C X2 d5_18 (pc' := 21) (pc2 := 38) rfl (by decide) (by decide) (fun (c18 : 3 ≤ 3) => ?_) (fun (c18 : 3 < 3) => False.elim (by first | omega | exact absurd c18 (by decide)))
  refine go_dloadN C X2 39 rfl d5_38 rfl ?_
  exact go_retD C X2 d5_39 ⟨rfl, rfl⟩ (by decide) (by decide)
theorem ef_own_sum_4 (m : MethodId) (a : Addr) : entryFrame m #[(.ref a)] 8 = mkF m 0 #[rv a, un, un, un, un, un, un, un] [] := by first | (simp [entryFrame, mkF, argsToLocals, Value.category]; done) | rfl
set_option maxRecDepth 65536 in
set_option maxHeartbeats 40000000 in
theorem own_sum_4 (l : Launch) (Z : State) (a0 : Array Value) (hw : ∀ d ∈ tables_1, d.before a0 Z = true) (a : Addr) (b : Addr) (x0 x1 x2 x3 : Int32) (h : Heap) (n0 : Nat) (hn0 : Old Z n0 h) (F1 : Fld Z h a "com/example/waymarshal/waymarshal/ranks/Poisson$Window" "terms" "[D" (.ref b)) (A1 : La Z h b .double [.double (FP.l2d x0.toInt64), .double (FP.l2d x1.toInt64), .double (FP.l2d x2.toInt64), .double (FP.l2d x3.toInt64)]) (b0 : 0 ≤ x0.toInt64.toInt ∧ x0.toInt64.toInt < 1048576) (b1 : 0 ≤ x1.toInt64.toInt ∧ x1.toInt64.toInt < 1048576) (b2 : 0 ≤ x2.toInt64.toInt ∧ x2.toInt64.toInt < 1048576) (b3 : 0 ≤ x3.toInt64.toInt ∧ x3.toInt64.toInt < 1048576) :
    Con l Z (⟨"com/example/waymarshal/waymarshal/ranks/Poisson$Window", "sum", "()D"⟩ : MethodName) prog_40_method_3_code 8 (some .double) ({ frames := 0, cells := 0, slots := 0, locals := 0 } : Room) #[(.ref a)] h n0 (fun v h' => v = some (.double (FP.l2d ((((0 + x0.toInt64) + x1.toInt64) + x2.toInt64) + x3.toInt64))) ∧ h = h') := by
  refine con_of hw (plainFor_of_name pn_com_example_waymarshal_waymarshal_ranks_Poisson_Window) hn0 ?_
  intro p e s m below meth c T0 C X0
  refine Go.cast (congrArg T0.setTop (ef_own_sum_4 m a)) ?_
  refine go_dconst0 C X0 1 rfl d5_0 ?_
  refine go_dstoreN C X0 2 rfl d5_1 #[rv a, dv (FP.l2d 0), sc, un, un, un, un, un] rfl ?_
  refine go_aloadN C X0 3 rfl d5_2 rfl rfl ?_
  refine go_getF C X0 (C.w 24 rfl) Via.refl F1 (pc' := 6) rfl d5_3 (fun T1 X2 => ?_)
  refine go_astoreN C X2 7 rfl d5_6 rfl #[rv a, dv (FP.l2d 0), sc, rv b, un, un, un, un] rfl ?_
  refine go_aloadN C X2 8 rfl d5_7 rfl rfl ?_
  refine go_alen C X2 A1 (z := (4 : Int32)) rfl (pc' := 9) rfl d5_8 ?_
  refine go_istore C X2 11 rfl d5_9 #[rv a, dv (FP.l2d 0), sc, rv b, iv (4 : Int32), un, un, un] rfl ?_
  refine go_iconst C X2 12 rfl d5_11 (z := 0) rfl ?_
  refine go_istore C X2 14 rfl d5_12 #[rv a, dv (FP.l2d 0), sc, rv b, iv (4 : Int32), iv (0 : Int32), un, un] rfl ?_
  refine go_iload C X2 16 rfl d5_14 rfl ?_
  refine go_iload C X2 18 rfl d5_16 rfl ?_
  refine go_icmp_ge C X2 d5_18 (pc' := 21) (pc2 := 38) rfl (by decide) (by decide) (fun (c18 : 4 ≤ 0) => False.elim (by first | omega | exact absurd c18 (by decide))) (fun (c18 : 0 < 4) => ?_)
  refine go_aloadN C X2 22 rfl d5_21 rfl rfl ?_
  refine go_iload C X2 24 rfl d5_22 rfl ?_
  refine go_daload C X2 A1 (by decide) (v := (.double (FP.l2d x0.toInt64))) rfl (pc' := 25) rfl d5_24 ?_
  refine go_dstore C X2 27 rfl d5_25 #[rv a, dv (FP.l2d 0), sc, rv b, iv (4 : Int32), iv (0 : Int32), dv (FP.l2d x0.toInt64), sc] rfl ?_
  refine go_dloadN C X2 28 rfl d5_27 rfl ?_
  refine go_dload C X2 30 rfl d5_28 rfl ?_
  refine go_dadd C X2 31 rfl d5_30 (own_b (by decide) (by decide)) (own_b b0.1 (by have := b0.2; omega)) ?_
  have S1 : 0 ≤ (0 + x0.toInt64).toInt ∧ (0 + x0.toInt64).toInt < 1048577 := by have := b0; have := l_add (a := 0) (x := 0) (b := x0.toInt64) rfl rfl (by omega) (by omega); omega
  refine go_dstoreN C X2 32 rfl d5_31 #[rv a, dv (FP.l2d (0 + x0.toInt64)), sc, rv b, iv (4 : Int32), iv (0 : Int32), dv (FP.l2d x0.toInt64), sc] rfl ?_
  refine go_iinc C X2 35 rfl d5_32 rfl (z := 1) rfl #[rv a, dv (FP.l2d (0 + x0.toInt64)), sc, rv b, iv (4 : Int32), iv (1 : Int32), dv (FP.l2d x0.toInt64), sc] rfl ?_
  refine go_goto C X2 d5_35 (pc' := 14) (by decide) (by decide) ?_
  refine go_iload C X2 16 rfl d5_14 rfl ?_
  refine go_iload C X2 18 rfl d5_16 rfl ?_
  refine go_icmp_ge C X2 d5_18 (pc' := 21) (pc2 := 38) rfl (by decide) (by decide) (fun (c18 : 4 ≤ 1) => False.elim (by first | omega | exact absurd c18 (by decide))) (fun (c18 : 1 < 4) => ?_)
  refine go_aloadN C X2 22 rfl d5_21 rfl rfl ?_
  refine go_iload C X2 24 rfl d5_22 rfl ?_
  refine go_daload C X2 A1 (by decide) (v := (.double (FP.l2d x1.toInt64))) rfl (pc' := 25) rfl d5_24 ?_
  refine go_dstore C X2 27 rfl d5_25 #[rv a, dv (FP.l2d (0 + x0.toInt64)), sc, rv b, iv (4 : Int32), iv (1 : Int32), dv (FP.l2d x1.toInt64), sc] rfl ?_
  refine go_dloadN C X2 28 rfl d5_27 rfl ?_
  refine go_dload C X2 30 rfl d5_28 rfl ?_
  refine go_dadd C X2 31 rfl d5_30 (own_b S1.1 (by have := S1.2; omega)) (own_b b1.1 (by have := b1.2; omega)) ?_
  have S2 : 0 ≤ ((0 + x0.toInt64) + x1.toInt64).toInt ∧ ((0 + x0.toInt64) + x1.toInt64).toInt < 2097153 := by have := b1; have := S1; have := l_add (a := (0 + x0.toInt64)) (b := x1.toInt64) rfl rfl (by omega) (by omega); omega
  refine go_dstoreN C X2 32 rfl d5_31 #[rv a, dv (FP.l2d ((0 + x0.toInt64) + x1.toInt64)), sc, rv b, iv (4 : Int32), iv (1 : Int32), dv (FP.l2d x1.toInt64), sc] rfl ?_
  refine go_iinc C X2 35 rfl d5_32 rfl (z := 1) rfl #[rv a, dv (FP.l2d ((0 + x0.toInt64) + x1.toInt64)), sc, rv b, iv (4 : Int32), iv (2 : Int32), dv (FP.l2d x1.toInt64), sc] rfl ?_
  refine go_goto C X2 d5_35 (pc' := 14) (by decide) (by decide) ?_
  refine go_iload C X2 16 rfl d5_14 rfl ?_
  refine go_iload C X2 18 rfl d5_16 rfl ?_
  refine go_icmp_ge C X2 d5_18 (pc' := 21) (pc2 := 38) rfl (by decide) (by decide) (fun (c18 : 4 ≤ 2) => False.elim (by first | omega | exact absurd c18 (by decide))) (fun (c18 : 2 < 4) => ?_)
  refine go_aloadN C X2 22 rfl d5_21 rfl rfl ?_
  refine go_iload C X2 24 rfl d5_22 rfl ?_
  refine go_daload C X2 A1 (by decide) (v := (.double (FP.l2d x2.toInt64))) rfl (pc' := 25) rfl d5_24 ?_
  refine go_dstore C X2 27 rfl d5_25 #[rv a, dv (FP.l2d ((0 + x0.toInt64) + x1.toInt64)), sc, rv b, iv (4 : Int32), iv (2 : Int32), dv (FP.l2d x2.toInt64), sc] rfl ?_
  refine go_dloadN C X2 28 rfl d5_27 rfl ?_
  refine go_dload C X2 30 rfl d5_28 rfl ?_
  refine go_dadd C X2 31 rfl d5_30 (own_b S2.1 (by have := S2.2; omega)) (own_b b2.1 (by have := b2.2; omega)) ?_
  have S3 : 0 ≤ (((0 + x0.toInt64) + x1.toInt64) + x2.toInt64).toInt ∧ (((0 + x0.toInt64) + x1.toInt64) + x2.toInt64).toInt < 3145729 := by have := b2; have := S2; have := l_add (a := ((0 + x0.toInt64) + x1.toInt64)) (b := x2.toInt64) rfl rfl (by omega) (by omega); omega
  refine go_dstoreN C X2 32 rfl d5_31 #[rv a, dv (FP.l2d (((0 + x0.toInt64) + x1.toInt64) + x2.toInt64)), sc, rv b, iv (4 : Int32), iv (2 : Int32), dv (FP.l2d x2.toInt64), sc] rfl ?_
  refine go_iinc C X2 35 rfl d5_32 rfl (z := 1) rfl #[rv a, dv (FP.l2d (((0 + x0.toInt64) + x1.toInt64) + x2.toInt64)), sc, rv b, iv (4 : Int32), iv (3 : Int32), dv (FP.l2d x2.toInt64), sc] rfl ?_
  refine go_goto C X2 d5_35 (pc' := 14) (by decide) (by decide) ?_
  refine go_iload C X2 16 rfl d5_14 rfl ?_
  refine go_iload C X2 18 rfl d5_16 rfl ?_
  refine go_icmp_ge C X2 d5_18 (pc' := 21) (pc2 := 38) rfl (by decide) (by decide) (fun (c18 : 4 ≤ 3) => False.elim (by first | omega | exact absurd c18 (by decide))) (fun (c18 : 3 < 4) => ?_)
  refine go_aloadN C X2 22 rfl d5_21 rfl rfl ?_
  refine go_iload C X2 24 rfl d5_22 rfl ?_
  refine go_daload C X2 A1 (by decide) (v := (.double (FP.l2d x3.toInt64))) rfl (pc' := 25) rfl d5_24 ?_
  refine go_dstore C X2 27 rfl d5_25 #[rv a, dv (FP.l2d (((0 + x0.toInt64) + x1.toInt64) + x2.toInt64)), sc, rv b, iv (4 : Int32), iv (3 : Int32), dv (FP.l2d x3.toInt64), sc] rfl ?_
  refine go_dloadN C X2 28 rfl d5_27 rfl ?_
  refine go_dload C X2 30 rfl d5_28 rfl ?_
  refine go_dadd C X2 31 rfl d5_30 (own_b S3.1 (by have := S3.2; omega)) (own_b b3.1 (by have := b3.2; omega)) ?_
  have S4 : 0 ≤ ((((0 + x0.toInt64) + x1.toInt64) + x2.toInt64) + x3.toInt64).toInt ∧ ((((0 + x0.toInt64) + x1.toInt64) + x2.toInt64) + x3.toInt64).toInt < 4194305 := by have := b3; have := S3; have := l_add (a := (((0 + x0.toInt64) + x1.toInt64) + x2.toInt64)) (b := x3.toInt64) rfl rfl (by omega) (by omega); omega
  refine go_dstoreN C X2 32 rfl d5_31 #[rv a, dv (FP.l2d ((((0 + x0.toInt64) + x1.toInt64) + x2.toInt64) + x3.toInt64)), sc, rv b, iv (4 : Int32), iv (3 : Int32), dv (FP.l2d x3.toInt64), sc] rfl ?_
  refine go_iinc C X2 35 rfl d5_32 rfl (z := 1) rfl #[rv a, dv (FP.l2d ((((0 + x0.toInt64) + x1.toInt64) + x2.toInt64) + x3.toInt64)), sc, rv b, iv (4 : Int32), iv (4 : Int32), dv (FP.l2d x3.toInt64), sc] rfl ?_
  refine go_goto C X2 d5_35 (pc' := 14) (by decide) (by decide) ?_
  refine go_iload C X2 16 rfl d5_14 rfl ?_
  refine go_iload C X2 18 rfl d5_16 rfl ?_
  refine go_icmp_ge C X2 d5_18 (pc' := 21) (pc2 := 38) rfl (by decide) (by decide) (fun (c18 : 4 ≤ 4) => ?_) (fun (c18 : 4 < 4) => False.elim (by first | omega | exact absurd c18 (by decide)))
  refine go_dloadN C X2 39 rfl d5_38 rfl ?_
  exact go_retD C X2 d5_39 ⟨rfl, rfl⟩ (by decide) (by decide)
theorem pd_1 : parseMethodDescriptor "(IIIII)[D" = some ⟨[.int, .int, .int, .int, .int], some (.array .double)⟩ := by decide +kernel
theorem pd_2 : parseMethodDescriptor "(JD[D)V" = some ⟨[.long, .double, (.array .double)], none⟩ := by decide +kernel
theorem pd_3 : parseMethodDescriptor "()D" = some ⟨[], some .double⟩ := by decide +kernel
theorem ef_own_law (m : MethodId) (a : Int32) (b : Int32) (c1 : Int32) (d : Int32) (n1 : Int32) (fs : Int64) : entryFrame m #[(.int a), (.int b), (.int c1), (.int d), (.int n1), (.long fs)] maxLocals = mkF m 0 #[iv a, iv b, iv c1, iv d, iv n1, jv fs, sc, un, un, un, un, un, un, un, un, un, un, un, un, un] [] := by first | (simp [entryFrame, mkF, argsToLocals, Value.category, maxLocals]; done) | rfl
set_option maxRecDepth 65536 in
set_option maxHeartbeats 40000000 in
theorem own_law (l : Launch) (Z : State) (a0 : Array Value) (hw : ∀ d ∈ tables_1, d.before a0 Z = true) (a : Int32) (b : Int32) (c1 : Int32) (d : Int32) (n1 : Int32) (fs : Int64)  (h : Heap) (n0 : Nat) (hn0 : Old Z n0 h)  :
    Con l Z x code maxLocals ret room_1 #[(.int a), (.int b), (.int c1), (.int d), (.int n1), (.long fs)] h n0 (fun v h' => v = some (.int 1)) := by
  refine con_of hw (plainFor_of_name pn_com_example_waymarshal_waymarshal_ranks_WindowSumPinLaw) hn0 ?_
  intro p e s m below meth c T0 C X0
  refine Go.cast (congrArg T0.setTop (ef_own_law m a b c1 d n1 fs)) ?_
  refine go_iloadN C X0 1 rfl at_0 rfl ?_
  refine go_ldcInt C X0 (C.w 0 rfl) (pc' := 3) rfl at_1 ?_
  refine go_iand C X0 4 rfl at_3 ?_
  refine go_istore C X0 6 rfl at_4 #[iv a, iv b, iv c1, iv d, iv n1, jv fs, sc, iv (a &&& (1048575 : Int32)), un, un, un, un, un, un, un, un, un, un, un, un] rfl ?_
  refine go_iloadN C X0 7 rfl at_6 rfl ?_
  refine go_ldcInt C X0 (C.w 0 rfl) (pc' := 9) rfl at_7 ?_
  refine go_iand C X0 10 rfl at_9 ?_
  refine go_istore C X0 12 rfl at_10 #[iv a, iv b, iv c1, iv d, iv n1, jv fs, sc, iv (a &&& (1048575 : Int32)), iv (b &&& (1048575 : Int32)), un, un, un, un, un, un, un, un, un, un, un] rfl ?_
  refine go_iloadN C X0 13 rfl at_12 rfl ?_
  refine go_ldcInt C X0 (C.w 0 rfl) (pc' := 15) rfl at_13 ?_
  refine go_iand C X0 16 rfl at_15 ?_
  refine go_istore C X0 18 rfl at_16 #[iv a, iv b, iv c1, iv d, iv n1, jv fs, sc, iv (a &&& (1048575 : Int32)), iv (b &&& (1048575 : Int32)), iv (c1 &&& (1048575 : Int32)), un, un, un, un, un, un, un, un, un, un] rfl ?_
  refine go_iloadN C X0 19 rfl at_18 rfl ?_
  refine go_ldcInt C X0 (C.w 0 rfl) (pc' := 21) rfl at_19 ?_
  refine go_iand C X0 22 rfl at_21 ?_
  refine go_istore C X0 24 rfl at_22 #[iv a, iv b, iv c1, iv d, iv n1, jv fs, sc, iv (a &&& (1048575 : Int32)), iv (b &&& (1048575 : Int32)), iv (c1 &&& (1048575 : Int32)), iv (d &&& (1048575 : Int32)), un, un, un, un, un, un, un, un, un] rfl ?_
  refine go_iload C X0 26 rfl at_24 rfl ?_
  refine go_bipush C X0 28 rfl at_26 (z := 7) rfl ?_
  refine go_iand C X0 29 rfl at_28 ?_
  refine go_iconst C X0 30 rfl at_29 (z := 5) rfl ?_
  refine go_irem C X0 31 rfl at_30 (by decide) ?_
  refine go_istore C X0 33 rfl at_31 #[iv a, iv b, iv c1, iv d, iv n1, jv fs, sc, iv (a &&& (1048575 : Int32)), iv (b &&& (1048575 : Int32)), iv (c1 &&& (1048575 : Int32)), iv (d &&& (1048575 : Int32)), iv ((n1 &&& (7 : Int32)) % (5 : Int32)), un, un, un, un, un, un, un, un] rfl ?_
  refine go_lconst C X0 34 rfl at_33 (z := 0) rfl ?_
  refine go_lstore C X0 36 rfl at_34 #[iv a, iv b, iv c1, iv d, iv n1, jv fs, sc, iv (a &&& (1048575 : Int32)), iv (b &&& (1048575 : Int32)), iv (c1 &&& (1048575 : Int32)), iv (d &&& (1048575 : Int32)), iv ((n1 &&& (7 : Int32)) % (5 : Int32)), jv (0 : Int64), sc, un, un, un, un, un, un] rfl ?_
  have m0 := own_m20 a
  generalize ey0 : (a &&& (1048575 : Int32)) = y0
  rw [ey0] at m0
  have m1 := own_m20 b
  generalize ey1 : (b &&& (1048575 : Int32)) = y1
  rw [ey1] at m1
  have m2 := own_m20 c1
  generalize ey2 : (c1 &&& (1048575 : Int32)) = y2
  rw [ey2] at m2
  have m3 := own_m20 d
  generalize ey3 : (d &&& (1048575 : Int32)) = y3
  rw [ey3] at m3
  have hl : ((n1 &&& 7) % 5).toInt = (n1.toInt % (2 ^ 3 : Nat)) % 5 := i_rem (c_mask n1 7 3 (by decide) (by decide)) rfl (by omega)
  generalize eln : ((n1 &&& (7 : Int32)) % (5 : Int32)) = ln
  rw [eln] at hl
  clear eln
  have hd : ln = 0 ∨ ln = 1 ∨ ln = 2 ∨ ln = 3 ∨ ln = 4 := by
    rcases (by omega : ln.toInt = 0 ∨ ln.toInt = 1 ∨ ln.toInt = 2 ∨ ln.toInt = 3 ∨ ln.toInt = 4) with q | q | q | q | q
    · exact Or.inl (i_eq q)
    · exact Or.inr (Or.inl (i_eq q))
    · exact Or.inr (Or.inr (Or.inl (i_eq q)))
    · exact Or.inr (Or.inr (Or.inr (Or.inl (i_eq q))))
    · exact Or.inr (Or.inr (Or.inr (Or.inr (i_eq q))))
  clear hl
  rcases hd with rfl | rfl | rfl | rfl | rfl
  · refine go_iload C X0 38 rfl at_36 rfl ?_
    refine go_iconst C X0 39 rfl at_38 (z := 1) rfl ?_
    refine go_icmp_lt C X0 at_39 (pc' := 42) (pc2 := 50) rfl (by decide) (by decide) (fun (c39 : 0 < 1) => ?_) (fun (c39 : 1 ≤ 0) => False.elim (by first | omega | exact absurd c39 (by decide)))
    refine go_iload C X0 52 rfl at_50 rfl ?_
    refine go_iconst C X0 53 rfl at_52 (z := 2) rfl ?_
    refine go_icmp_lt C X0 at_53 (pc' := 56) (pc2 := 64) rfl (by decide) (by decide) (fun (c53 : 0 < 2) => ?_) (fun (c53 : 2 ≤ 0) => False.elim (by first | omega | exact absurd c53 (by decide)))
    refine go_iload C X0 66 rfl at_64 rfl ?_
    refine go_iconst C X0 67 rfl at_66 (z := 3) rfl ?_
    refine go_icmp_lt C X0 at_67 (pc' := 70) (pc2 := 78) rfl (by decide) (by decide) (fun (c67 : 0 < 3) => ?_) (fun (c67 : 3 ≤ 0) => False.elim (by first | omega | exact absurd c67 (by decide)))
    refine go_iload C X0 80 rfl at_78 rfl ?_
    refine go_iconst C X0 81 rfl at_80 (z := 4) rfl ?_
    refine go_icmp_lt C X0 at_81 (pc' := 84) (pc2 := 92) rfl (by decide) (by decide) (fun (c81 : 0 < 4) => ?_) (fun (c81 : 4 ≤ 0) => False.elim (by first | omega | exact absurd c81 (by decide)))
    refine go_iload C X0 94 rfl at_92 rfl ?_
    refine go_iload C X0 96 rfl at_94 rfl ?_
    refine go_iload C X0 98 rfl at_96 rfl ?_
    refine go_iload C X0 100 rfl at_98 rfl ?_
    refine go_iload C X0 102 rfl at_100 rfl ?_
    have hsz_102 := X0.sz
    refine go_callS C X0 (C.w 1 rfl) (C.w 2 rfl) (C.w 3 rfl) (C.w 4 rfl) (own_make_0 l Z a0 C.ws y0 y1 y2 y3 h n0 X0.old) (argsL := [(.int (0 : Int32)), (.int y0), (.int y1), (.int y2), (.int y3)]) (rest := []) (lenOf pd_1 rfl) rfl (by decide) (by decide) (Nat.le_of_ble_eq_true rfl) (by decide) (by decide) rfl rfl (pc' := 105) rfl at_102 ?_
    rintro T1 h3 _ ⟨tb, rfl, szt, Kt, At⟩ X2
    show Go p e below _ (T1.setTop (mkF m 105 #[iv a, iv b, iv c1, iv d, iv n1, jv fs, sc, iv y0, iv y1, iv y2, iv y3, iv (0 : Int32), jv (0 : Int64), sc, un, un, un, un, un, un] [(.ref tb)]))
    have ga_tb : n0 ≤ tb := Nat.le_trans hsz_102 szt
    refine go_astore C X2 107 rfl at_105 rfl #[iv a, iv b, iv c1, iv d, iv n1, jv fs, sc, iv y0, iv y1, iv y2, iv y3, iv (0 : Int32), jv (0 : Int64), sc, rv tb, un, un, un, un, un] rfl ?_
    refine go_iload C X2 109 rfl at_107 rfl ?_
    refine go_iconst C X2 110 rfl at_109 (z := 3) rfl ?_
    refine go_ishr C X2 111 rfl at_110 ?_
    refine go_sipush C X2 114 rfl at_111 (z := 1000) rfl ?_
    refine go_irem C X2 115 rfl at_114 (by decide) ?_
    refine go_i2d C X2 116 rfl at_115 ?_
    refine go_dstore C X2 118 rfl at_116 #[iv a, iv b, iv c1, iv d, iv n1, jv fs, sc, iv y0, iv y1, iv y2, iv y3, iv (0 : Int32), jv (0 : Int64), sc, rv tb, dv (FP.l2d ((n1 >>> ((3 : Int32) &&& 31)) % (1000 : Int32)).toInt64), sc, un, un, un] rfl ?_
    refine go_new C X2 (C.w 6 rfl) (C.w 7 rfl) (C.w 8 rfl) (by decide) (by decide) (pc' := 121) rfl at_118 (fun T4 h6 wo ha_wo ga_wo E7 E8 D9 X5 => ?_)
    have ne_tb_wo : tb ≠ wo := Nat.ne_of_lt (Nat.lt_of_lt_of_le At.lt (Nat.le_of_eq ha_wo.symm))
    have A10 := At.ext E7
    have F11 : Fld Z h6 wo "com/example/waymarshal/waymarshal/ranks/Poisson$Window" "first" "J" (.long (0 : Int64)) := D9 (Or.inr (C.w 21 rfl)) (ty := .long) (by decide)
    have F12 : Fld Z h6 wo "com/example/waymarshal/waymarshal/ranks/Poisson$Window" "logScale" "D" (.double 0) := D9 (Or.inr (C.w 23 rfl)) (ty := .double) (by decide)
    have F13 : Fld Z h6 wo "com/example/waymarshal/waymarshal/ranks/Poisson$Window" "terms" "[D" .null := D9 (Or.inr (C.w 25 rfl)) (ty := (.array .double)) (by decide)
    refine go_dup C X5 122 rfl at_121 rfl ?_
    refine go_lload C X5 124 rfl at_122 rfl ?_
    refine go_dload C X5 126 rfl at_124 rfl ?_
    refine go_aload C X5 128 rfl at_126 rfl rfl ?_
    refine go_special C X5 (C.w 9 rfl) (C.w 10 rfl) (C.w 8 rfl) (C.w 11 rfl) rfl (own_winit l Z a0 C.ws wo fs (FP.l2d ((n1 >>> ((3 : Int32) &&& 31)) % (1000 : Int32)).toInt64) tb h6 n0 X5.old E8 F11 F12 F13 ga_wo) (argsL := [(.long fs), (.double (FP.l2d ((n1 >>> ((3 : Int32) &&& 31)) % (1000 : Int32)).toInt64)), (.ref tb)]) (rest := [(.ref wo)]) (lenOf pd_2 rfl) rfl (by decide) (by decide) (Nat.le_of_ble_eq_true rfl) (by decide) (by decide) rfl rfl (pc' := 131) rfl at_128 ?_
    rintro T14 h16 _ ⟨rfl, K9, E9, F9⟩ X15
    show Go p e below _ (T14.setTop (mkF m 131 #[iv a, iv b, iv c1, iv d, iv n1, jv fs, sc, iv y0, iv y1, iv y2, iv y3, iv (0 : Int32), jv (0 : Int64), sc, rv tb, dv (FP.l2d ((n1 >>> ((3 : Int32) &&& 31)) % (1000 : Int32)).toInt64), sc, un, un, un] [(.ref wo)]))
    have A17 := A10.keep K9 (ninS ne_tb_wo nin0)
    have E18 := E8.keep K9
    refine go_astore C X15 133 rfl at_131 rfl #[iv a, iv b, iv c1, iv d, iv n1, jv fs, sc, iv y0, iv y1, iv y2, iv y3, iv (0 : Int32), jv (0 : Int64), sc, rv tb, dv (FP.l2d ((n1 >>> ((3 : Int32) &&& 31)) % (1000 : Int32)).toInt64), sc, rv wo, un, un] rfl ?_
    refine go_aload C X15 135 rfl at_133 rfl rfl ?_
    refine go_virtual C X15 E9 (C.w 26 rfl) (C.w 27 rfl) (notFace_of_selects (args := #[]) (mvT C.hZ (C.w 29 rfl))) (C.w 29 rfl) (C.w 28 rfl) (C.w 8 rfl) (C.w 30 rfl) (own_sum_0 l Z a0 C.ws wo tb y0 y1 y2 y3 h16 n0 X15.old F9 A17 ) (argsL := []) (rest := []) (lenOf pd_3 rfl) rfl (by decide) (by decide) (Nat.le_of_ble_eq_true rfl) (by decide) (by decide) rfl rfl (pc' := 138) rfl at_135 ?_
    rintro T19 _ _ ⟨rfl, rfl⟩ X20
    show Go p e below _ (T19.setTop (mkF m 138 #[iv a, iv b, iv c1, iv d, iv n1, jv fs, sc, iv y0, iv y1, iv y2, iv y3, iv (0 : Int32), jv (0 : Int64), sc, rv tb, dv (FP.l2d ((n1 >>> ((3 : Int32) &&& 31)) % (1000 : Int32)).toInt64), sc, rv wo, un, un] [(.double (FP.l2d 0))]))
    refine go_dstore C X20 140 rfl at_138 #[iv a, iv b, iv c1, iv d, iv n1, jv fs, sc, iv y0, iv y1, iv y2, iv y3, iv (0 : Int32), jv (0 : Int64), sc, rv tb, dv (FP.l2d ((n1 >>> ((3 : Int32) &&& 31)) % (1000 : Int32)).toInt64), sc, rv wo, dv (FP.l2d 0), sc] rfl ?_
    refine go_dload C X20 142 rfl at_140 rfl ?_
    refine go_lload C X20 144 rfl at_142 rfl ?_
    refine go_l2d C X20 145 rfl at_144 ?_
    refine go_dcmp C X20 146 rfl at_145 (by have := m0; have := m1; have := m2; have := m3; have s0 : (0 : Int64).toInt = 0 := rfl; exact own_b (by omega) (by omega)) (by have := m0; have := m1; have := m2; have := m3; have s0 : (0 : Int64).toInt = 0 := rfl; exact own_b (by omega) (by omega)) ?_
    rw [show lcmpW 0 (0 : Int64) = 0 from (lw_eq _ _).mpr rfl]
    show Go p e below _ (T19.setTop (mkF m 146 #[iv a, iv b, iv c1, iv d, iv n1, jv fs, sc, iv y0, iv y1, iv y2, iv y3, iv (0 : Int32), jv (0 : Int64), sc, rv tb, dv (FP.l2d ((n1 >>> ((3 : Int32) &&& 31)) % (1000 : Int32)).toInt64), sc, rv wo, dv (FP.l2d 0), sc] [(.int (0 : Int32))]))
    refine go_if_ne C X20 at_146 (pc' := 149) (pc2 := 153) rfl (by decide) (by decide) (fun (c146 : ¬ (0 : Int32) = (0 : Int32)) => False.elim (by first | omega | exact absurd c146 (by decide))) (fun (c146 : (0 : Int32) = (0 : Int32)) => ?_)
    refine go_iconst C X20 150 rfl at_149 (z := 1) rfl ?_
    refine go_goto C X20 at_150 (pc' := 154) (by decide) (by decide) ?_
    exact go_retN C X20 (by simp) (z' := 1) rfl at_154 rfl (by decide) (by decide)
  · refine go_iload C X0 38 rfl at_36 rfl ?_
    refine go_iconst C X0 39 rfl at_38 (z := 1) rfl ?_
    refine go_icmp_lt C X0 at_39 (pc' := 42) (pc2 := 50) rfl (by decide) (by decide) (fun (c39 : 1 < 1) => False.elim (by first | omega | exact absurd c39 (by decide))) (fun (c39 : 1 ≤ 1) => ?_)
    refine go_lload C X0 44 rfl at_42 rfl ?_
    refine go_iload C X0 46 rfl at_44 rfl ?_
    refine go_i2l C X0 47 rfl at_46 ?_
    refine go_ladd C X0 48 rfl at_47 ?_
    refine go_lstore C X0 50 rfl at_48 #[iv a, iv b, iv c1, iv d, iv n1, jv fs, sc, iv y0, iv y1, iv y2, iv y3, iv (1 : Int32), jv ((0 : Int64) + (y0.toInt64)), sc, un, un, un, un, un, un] rfl ?_
    refine go_iload C X0 52 rfl at_50 rfl ?_
    refine go_iconst C X0 53 rfl at_52 (z := 2) rfl ?_
    refine go_icmp_lt C X0 at_53 (pc' := 56) (pc2 := 64) rfl (by decide) (by decide) (fun (c53 : 1 < 2) => ?_) (fun (c53 : 2 ≤ 1) => False.elim (by first | omega | exact absurd c53 (by decide)))
    refine go_iload C X0 66 rfl at_64 rfl ?_
    refine go_iconst C X0 67 rfl at_66 (z := 3) rfl ?_
    refine go_icmp_lt C X0 at_67 (pc' := 70) (pc2 := 78) rfl (by decide) (by decide) (fun (c67 : 1 < 3) => ?_) (fun (c67 : 3 ≤ 1) => False.elim (by first | omega | exact absurd c67 (by decide)))
    refine go_iload C X0 80 rfl at_78 rfl ?_
    refine go_iconst C X0 81 rfl at_80 (z := 4) rfl ?_
    refine go_icmp_lt C X0 at_81 (pc' := 84) (pc2 := 92) rfl (by decide) (by decide) (fun (c81 : 1 < 4) => ?_) (fun (c81 : 4 ≤ 1) => False.elim (by first | omega | exact absurd c81 (by decide)))
    refine go_iload C X0 94 rfl at_92 rfl ?_
    refine go_iload C X0 96 rfl at_94 rfl ?_
    refine go_iload C X0 98 rfl at_96 rfl ?_
    refine go_iload C X0 100 rfl at_98 rfl ?_
    refine go_iload C X0 102 rfl at_100 rfl ?_
    have hsz_102 := X0.sz
    refine go_callS C X0 (C.w 1 rfl) (C.w 2 rfl) (C.w 3 rfl) (C.w 4 rfl) (own_make_1 l Z a0 C.ws y0 y1 y2 y3 h n0 X0.old) (argsL := [(.int (1 : Int32)), (.int y0), (.int y1), (.int y2), (.int y3)]) (rest := []) (lenOf pd_1 rfl) rfl (by decide) (by decide) (Nat.le_of_ble_eq_true rfl) (by decide) (by decide) rfl rfl (pc' := 105) rfl at_102 ?_
    rintro T22 h24 _ ⟨tb, rfl, szt, Kt, At⟩ X23
    show Go p e below _ (T22.setTop (mkF m 105 #[iv a, iv b, iv c1, iv d, iv n1, jv fs, sc, iv y0, iv y1, iv y2, iv y3, iv (1 : Int32), jv ((0 : Int64) + (y0.toInt64)), sc, un, un, un, un, un, un] [(.ref tb)]))
    have ga_tb : n0 ≤ tb := Nat.le_trans hsz_102 szt
    refine go_astore C X23 107 rfl at_105 rfl #[iv a, iv b, iv c1, iv d, iv n1, jv fs, sc, iv y0, iv y1, iv y2, iv y3, iv (1 : Int32), jv ((0 : Int64) + (y0.toInt64)), sc, rv tb, un, un, un, un, un] rfl ?_
    refine go_iload C X23 109 rfl at_107 rfl ?_
    refine go_iconst C X23 110 rfl at_109 (z := 3) rfl ?_
    refine go_ishr C X23 111 rfl at_110 ?_
    refine go_sipush C X23 114 rfl at_111 (z := 1000) rfl ?_
    refine go_irem C X23 115 rfl at_114 (by decide) ?_
    refine go_i2d C X23 116 rfl at_115 ?_
    refine go_dstore C X23 118 rfl at_116 #[iv a, iv b, iv c1, iv d, iv n1, jv fs, sc, iv y0, iv y1, iv y2, iv y3, iv (1 : Int32), jv ((0 : Int64) + (y0.toInt64)), sc, rv tb, dv (FP.l2d ((n1 >>> ((3 : Int32) &&& 31)) % (1000 : Int32)).toInt64), sc, un, un, un] rfl ?_
    refine go_new C X23 (C.w 6 rfl) (C.w 7 rfl) (C.w 8 rfl) (by decide) (by decide) (pc' := 121) rfl at_118 (fun T25 h27 wo ha_wo ga_wo E28 E29 D30 X26 => ?_)
    have ne_tb_wo : tb ≠ wo := Nat.ne_of_lt (Nat.lt_of_lt_of_le At.lt (Nat.le_of_eq ha_wo.symm))
    have A31 := At.ext E28
    have F32 : Fld Z h27 wo "com/example/waymarshal/waymarshal/ranks/Poisson$Window" "first" "J" (.long (0 : Int64)) := D30 (Or.inr (C.w 21 rfl)) (ty := .long) (by decide)
    have F33 : Fld Z h27 wo "com/example/waymarshal/waymarshal/ranks/Poisson$Window" "logScale" "D" (.double 0) := D30 (Or.inr (C.w 23 rfl)) (ty := .double) (by decide)
    have F34 : Fld Z h27 wo "com/example/waymarshal/waymarshal/ranks/Poisson$Window" "terms" "[D" .null := D30 (Or.inr (C.w 25 rfl)) (ty := (.array .double)) (by decide)
    refine go_dup C X26 122 rfl at_121 rfl ?_
    refine go_lload C X26 124 rfl at_122 rfl ?_
    refine go_dload C X26 126 rfl at_124 rfl ?_
    refine go_aload C X26 128 rfl at_126 rfl rfl ?_
    refine go_special C X26 (C.w 9 rfl) (C.w 10 rfl) (C.w 8 rfl) (C.w 11 rfl) rfl (own_winit l Z a0 C.ws wo fs (FP.l2d ((n1 >>> ((3 : Int32) &&& 31)) % (1000 : Int32)).toInt64) tb h27 n0 X26.old E29 F32 F33 F34 ga_wo) (argsL := [(.long fs), (.double (FP.l2d ((n1 >>> ((3 : Int32) &&& 31)) % (1000 : Int32)).toInt64)), (.ref tb)]) (rest := [(.ref wo)]) (lenOf pd_2 rfl) rfl (by decide) (by decide) (Nat.le_of_ble_eq_true rfl) (by decide) (by decide) rfl rfl (pc' := 131) rfl at_128 ?_
    rintro T35 h37 _ ⟨rfl, K9, E9, F9⟩ X36
    show Go p e below _ (T35.setTop (mkF m 131 #[iv a, iv b, iv c1, iv d, iv n1, jv fs, sc, iv y0, iv y1, iv y2, iv y3, iv (1 : Int32), jv ((0 : Int64) + (y0.toInt64)), sc, rv tb, dv (FP.l2d ((n1 >>> ((3 : Int32) &&& 31)) % (1000 : Int32)).toInt64), sc, un, un, un] [(.ref wo)]))
    have A38 := A31.keep K9 (ninS ne_tb_wo nin0)
    have E39 := E29.keep K9
    refine go_astore C X36 133 rfl at_131 rfl #[iv a, iv b, iv c1, iv d, iv n1, jv fs, sc, iv y0, iv y1, iv y2, iv y3, iv (1 : Int32), jv ((0 : Int64) + (y0.toInt64)), sc, rv tb, dv (FP.l2d ((n1 >>> ((3 : Int32) &&& 31)) % (1000 : Int32)).toInt64), sc, rv wo, un, un] rfl ?_
    refine go_aload C X36 135 rfl at_133 rfl rfl ?_
    refine go_virtual C X36 E9 (C.w 26 rfl) (C.w 27 rfl) (notFace_of_selects (args := #[]) (mvT C.hZ (C.w 29 rfl))) (C.w 29 rfl) (C.w 28 rfl) (C.w 8 rfl) (C.w 30 rfl) (own_sum_1 l Z a0 C.ws wo tb y0 y1 y2 y3 h37 n0 X36.old F9 A38 m0) (argsL := []) (rest := []) (lenOf pd_3 rfl) rfl (by decide) (by decide) (Nat.le_of_ble_eq_true rfl) (by decide) (by decide) rfl rfl (pc' := 138) rfl at_135 ?_
    rintro T40 _ _ ⟨rfl, rfl⟩ X41
    show Go p e below _ (T40.setTop (mkF m 138 #[iv a, iv b, iv c1, iv d, iv n1, jv fs, sc, iv y0, iv y1, iv y2, iv y3, iv (1 : Int32), jv ((0 : Int64) + (y0.toInt64)), sc, rv tb, dv (FP.l2d ((n1 >>> ((3 : Int32) &&& 31)) % (1000 : Int32)).toInt64), sc, rv wo, un, un] [(.double (FP.l2d (0 + y0.toInt64)))]))
    refine go_dstore C X41 140 rfl at_138 #[iv a, iv b, iv c1, iv d, iv n1, jv fs, sc, iv y0, iv y1, iv y2, iv y3, iv (1 : Int32), jv ((0 : Int64) + (y0.toInt64)), sc, rv tb, dv (FP.l2d ((n1 >>> ((3 : Int32) &&& 31)) % (1000 : Int32)).toInt64), sc, rv wo, dv (FP.l2d (0 + y0.toInt64)), sc] rfl ?_
    refine go_dload C X41 142 rfl at_140 rfl ?_
    refine go_lload C X41 144 rfl at_142 rfl ?_
    refine go_l2d C X41 145 rfl at_144 ?_
    refine go_dcmp C X41 146 rfl at_145 (by have := m0; have := m1; have := m2; have := m3; have s0 : (0 : Int64).toInt = 0 := rfl; have s1 := l_add (b := y0.toInt64) s0 rfl (by have := m0; omega) (by have := m0; omega); exact own_b (by omega) (by omega)) (by have := m0; have := m1; have := m2; have := m3; have s0 : (0 : Int64).toInt = 0 := rfl; have s1 := l_add (b := y0.toInt64) s0 rfl (by have := m0; omega) (by have := m0; omega); exact own_b (by omega) (by omega)) ?_
    rw [show lcmpW (0 + y0.toInt64) ((0 : Int64) + (y0.toInt64)) = 0 from (lw_eq _ _).mpr rfl]
    show Go p e below _ (T40.setTop (mkF m 146 #[iv a, iv b, iv c1, iv d, iv n1, jv fs, sc, iv y0, iv y1, iv y2, iv y3, iv (1 : Int32), jv ((0 : Int64) + (y0.toInt64)), sc, rv tb, dv (FP.l2d ((n1 >>> ((3 : Int32) &&& 31)) % (1000 : Int32)).toInt64), sc, rv wo, dv (FP.l2d (0 + y0.toInt64)), sc] [(.int (0 : Int32))]))
    refine go_if_ne C X41 at_146 (pc' := 149) (pc2 := 153) rfl (by decide) (by decide) (fun (c146 : ¬ (0 : Int32) = (0 : Int32)) => False.elim (by first | omega | exact absurd c146 (by decide))) (fun (c146 : (0 : Int32) = (0 : Int32)) => ?_)
    refine go_iconst C X41 150 rfl at_149 (z := 1) rfl ?_
    refine go_goto C X41 at_150 (pc' := 154) (by decide) (by decide) ?_
    exact go_retN C X41 (by simp) (z' := 1) rfl at_154 rfl (by decide) (by decide)
  · refine go_iload C X0 38 rfl at_36 rfl ?_
    refine go_iconst C X0 39 rfl at_38 (z := 1) rfl ?_
    refine go_icmp_lt C X0 at_39 (pc' := 42) (pc2 := 50) rfl (by decide) (by decide) (fun (c39 : 2 < 1) => False.elim (by first | omega | exact absurd c39 (by decide))) (fun (c39 : 1 ≤ 2) => ?_)
    refine go_lload C X0 44 rfl at_42 rfl ?_
    refine go_iload C X0 46 rfl at_44 rfl ?_
    refine go_i2l C X0 47 rfl at_46 ?_
    refine go_ladd C X0 48 rfl at_47 ?_
    refine go_lstore C X0 50 rfl at_48 #[iv a, iv b, iv c1, iv d, iv n1, jv fs, sc, iv y0, iv y1, iv y2, iv y3, iv (2 : Int32), jv ((0 : Int64) + (y0.toInt64)), sc, un, un, un, un, un, un] rfl ?_
    refine go_iload C X0 52 rfl at_50 rfl ?_
    refine go_iconst C X0 53 rfl at_52 (z := 2) rfl ?_
    refine go_icmp_lt C X0 at_53 (pc' := 56) (pc2 := 64) rfl (by decide) (by decide) (fun (c53 : 2 < 2) => False.elim (by first | omega | exact absurd c53 (by decide))) (fun (c53 : 2 ≤ 2) => ?_)
    refine go_lload C X0 58 rfl at_56 rfl ?_
    refine go_iload C X0 60 rfl at_58 rfl ?_
    refine go_i2l C X0 61 rfl at_60 ?_
    refine go_ladd C X0 62 rfl at_61 ?_
    refine go_lstore C X0 64 rfl at_62 #[iv a, iv b, iv c1, iv d, iv n1, jv fs, sc, iv y0, iv y1, iv y2, iv y3, iv (2 : Int32), jv (((0 : Int64) + (y0.toInt64)) + (y1.toInt64)), sc, un, un, un, un, un, un] rfl ?_
    refine go_iload C X0 66 rfl at_64 rfl ?_
    refine go_iconst C X0 67 rfl at_66 (z := 3) rfl ?_
    refine go_icmp_lt C X0 at_67 (pc' := 70) (pc2 := 78) rfl (by decide) (by decide) (fun (c67 : 2 < 3) => ?_) (fun (c67 : 3 ≤ 2) => False.elim (by first | omega | exact absurd c67 (by decide)))
    refine go_iload C X0 80 rfl at_78 rfl ?_
    refine go_iconst C X0 81 rfl at_80 (z := 4) rfl ?_
    refine go_icmp_lt C X0 at_81 (pc' := 84) (pc2 := 92) rfl (by decide) (by decide) (fun (c81 : 2 < 4) => ?_) (fun (c81 : 4 ≤ 2) => False.elim (by first | omega | exact absurd c81 (by decide)))
    refine go_iload C X0 94 rfl at_92 rfl ?_
    refine go_iload C X0 96 rfl at_94 rfl ?_
    refine go_iload C X0 98 rfl at_96 rfl ?_
    refine go_iload C X0 100 rfl at_98 rfl ?_
    refine go_iload C X0 102 rfl at_100 rfl ?_
    have hsz_102 := X0.sz
    refine go_callS C X0 (C.w 1 rfl) (C.w 2 rfl) (C.w 3 rfl) (C.w 4 rfl) (own_make_2 l Z a0 C.ws y0 y1 y2 y3 h n0 X0.old) (argsL := [(.int (2 : Int32)), (.int y0), (.int y1), (.int y2), (.int y3)]) (rest := []) (lenOf pd_1 rfl) rfl (by decide) (by decide) (Nat.le_of_ble_eq_true rfl) (by decide) (by decide) rfl rfl (pc' := 105) rfl at_102 ?_
    rintro T43 h45 _ ⟨tb, rfl, szt, Kt, At⟩ X44
    show Go p e below _ (T43.setTop (mkF m 105 #[iv a, iv b, iv c1, iv d, iv n1, jv fs, sc, iv y0, iv y1, iv y2, iv y3, iv (2 : Int32), jv (((0 : Int64) + (y0.toInt64)) + (y1.toInt64)), sc, un, un, un, un, un, un] [(.ref tb)]))
    have ga_tb : n0 ≤ tb := Nat.le_trans hsz_102 szt
    refine go_astore C X44 107 rfl at_105 rfl #[iv a, iv b, iv c1, iv d, iv n1, jv fs, sc, iv y0, iv y1, iv y2, iv y3, iv (2 : Int32), jv (((0 : Int64) + (y0.toInt64)) + (y1.toInt64)), sc, rv tb, un, un, un, un, un] rfl ?_
    refine go_iload C X44 109 rfl at_107 rfl ?_
    refine go_iconst C X44 110 rfl at_109 (z := 3) rfl ?_
    refine go_ishr C X44 111 rfl at_110 ?_
    refine go_sipush C X44 114 rfl at_111 (z := 1000) rfl ?_
    refine go_irem C X44 115 rfl at_114 (by decide) ?_
    refine go_i2d C X44 116 rfl at_115 ?_
    refine go_dstore C X44 118 rfl at_116 #[iv a, iv b, iv c1, iv d, iv n1, jv fs, sc, iv y0, iv y1, iv y2, iv y3, iv (2 : Int32), jv (((0 : Int64) + (y0.toInt64)) + (y1.toInt64)), sc, rv tb, dv (FP.l2d ((n1 >>> ((3 : Int32) &&& 31)) % (1000 : Int32)).toInt64), sc, un, un, un] rfl ?_
    refine go_new C X44 (C.w 6 rfl) (C.w 7 rfl) (C.w 8 rfl) (by decide) (by decide) (pc' := 121) rfl at_118 (fun T46 h48 wo ha_wo ga_wo E49 E50 D51 X47 => ?_)
    have ne_tb_wo : tb ≠ wo := Nat.ne_of_lt (Nat.lt_of_lt_of_le At.lt (Nat.le_of_eq ha_wo.symm))
    have A52 := At.ext E49
    have F53 : Fld Z h48 wo "com/example/waymarshal/waymarshal/ranks/Poisson$Window" "first" "J" (.long (0 : Int64)) := D51 (Or.inr (C.w 21 rfl)) (ty := .long) (by decide)
    have F54 : Fld Z h48 wo "com/example/waymarshal/waymarshal/ranks/Poisson$Window" "logScale" "D" (.double 0) := D51 (Or.inr (C.w 23 rfl)) (ty := .double) (by decide)
    have F55 : Fld Z h48 wo "com/example/waymarshal/waymarshal/ranks/Poisson$Window" "terms" "[D" .null := D51 (Or.inr (C.w 25 rfl)) (ty := (.array .double)) (by decide)
    refine go_dup C X47 122 rfl at_121 rfl ?_
    refine go_lload C X47 124 rfl at_122 rfl ?_
    refine go_dload C X47 126 rfl at_124 rfl ?_
    refine go_aload C X47 128 rfl at_126 rfl rfl ?_
    refine go_special C X47 (C.w 9 rfl) (C.w 10 rfl) (C.w 8 rfl) (C.w 11 rfl) rfl (own_winit l Z a0 C.ws wo fs (FP.l2d ((n1 >>> ((3 : Int32) &&& 31)) % (1000 : Int32)).toInt64) tb h48 n0 X47.old E50 F53 F54 F55 ga_wo) (argsL := [(.long fs), (.double (FP.l2d ((n1 >>> ((3 : Int32) &&& 31)) % (1000 : Int32)).toInt64)), (.ref tb)]) (rest := [(.ref wo)]) (lenOf pd_2 rfl) rfl (by decide) (by decide) (Nat.le_of_ble_eq_true rfl) (by decide) (by decide) rfl rfl (pc' := 131) rfl at_128 ?_
    rintro T56 h58 _ ⟨rfl, K9, E9, F9⟩ X57
    show Go p e below _ (T56.setTop (mkF m 131 #[iv a, iv b, iv c1, iv d, iv n1, jv fs, sc, iv y0, iv y1, iv y2, iv y3, iv (2 : Int32), jv (((0 : Int64) + (y0.toInt64)) + (y1.toInt64)), sc, rv tb, dv (FP.l2d ((n1 >>> ((3 : Int32) &&& 31)) % (1000 : Int32)).toInt64), sc, un, un, un] [(.ref wo)]))
    have A59 := A52.keep K9 (ninS ne_tb_wo nin0)
    have E60 := E50.keep K9
    refine go_astore C X57 133 rfl at_131 rfl #[iv a, iv b, iv c1, iv d, iv n1, jv fs, sc, iv y0, iv y1, iv y2, iv y3, iv (2 : Int32), jv (((0 : Int64) + (y0.toInt64)) + (y1.toInt64)), sc, rv tb, dv (FP.l2d ((n1 >>> ((3 : Int32) &&& 31)) % (1000 : Int32)).toInt64), sc, rv wo, un, un] rfl ?_
    refine go_aload C X57 135 rfl at_133 rfl rfl ?_
    refine go_virtual C X57 E9 (C.w 26 rfl) (C.w 27 rfl) (notFace_of_selects (args := #[]) (mvT C.hZ (C.w 29 rfl))) (C.w 29 rfl) (C.w 28 rfl) (C.w 8 rfl) (C.w 30 rfl) (own_sum_2 l Z a0 C.ws wo tb y0 y1 y2 y3 h58 n0 X57.old F9 A59 m0 m1) (argsL := []) (rest := []) (lenOf pd_3 rfl) rfl (by decide) (by decide) (Nat.le_of_ble_eq_true rfl) (by decide) (by decide) rfl rfl (pc' := 138) rfl at_135 ?_
    rintro T61 _ _ ⟨rfl, rfl⟩ X62
    show Go p e below _ (T61.setTop (mkF m 138 #[iv a, iv b, iv c1, iv d, iv n1, jv fs, sc, iv y0, iv y1, iv y2, iv y3, iv (2 : Int32), jv (((0 : Int64) + (y0.toInt64)) + (y1.toInt64)), sc, rv tb, dv (FP.l2d ((n1 >>> ((3 : Int32) &&& 31)) % (1000 : Int32)).toInt64), sc, rv wo, un, un] [(.double (FP.l2d ((0 + y0.toInt64) + y1.toInt64)))]))
    refine go_dstore C X62 140 rfl at_138 #[iv a, iv b, iv c1, iv d, iv n1, jv fs, sc, iv y0, iv y1, iv y2, iv y3, iv (2 : Int32), jv (((0 : Int64) + (y0.toInt64)) + (y1.toInt64)), sc, rv tb, dv (FP.l2d ((n1 >>> ((3 : Int32) &&& 31)) % (1000 : Int32)).toInt64), sc, rv wo, dv (FP.l2d ((0 + y0.toInt64) + y1.toInt64)), sc] rfl ?_
    refine go_dload C X62 142 rfl at_140 rfl ?_
    refine go_lload C X62 144 rfl at_142 rfl ?_
    refine go_l2d C X62 145 rfl at_144 ?_
    refine go_dcmp C X62 146 rfl at_145 (by have := m0; have := m1; have := m2; have := m3; have s0 : (0 : Int64).toInt = 0 := rfl; have s1 := l_add (b := y0.toInt64) s0 rfl (by have := m0; omega) (by have := m0; omega); have s2 := l_add (b := y1.toInt64) s1 rfl (by have := m1; omega) (by have := m1; omega); exact own_b (by omega) (by omega)) (by have := m0; have := m1; have := m2; have := m3; have s0 : (0 : Int64).toInt = 0 := rfl; have s1 := l_add (b := y0.toInt64) s0 rfl (by have := m0; omega) (by have := m0; omega); have s2 := l_add (b := y1.toInt64) s1 rfl (by have := m1; omega) (by have := m1; omega); exact own_b (by omega) (by omega)) ?_
    rw [show lcmpW ((0 + y0.toInt64) + y1.toInt64) (((0 : Int64) + (y0.toInt64)) + (y1.toInt64)) = 0 from (lw_eq _ _).mpr rfl]
    show Go p e below _ (T61.setTop (mkF m 146 #[iv a, iv b, iv c1, iv d, iv n1, jv fs, sc, iv y0, iv y1, iv y2, iv y3, iv (2 : Int32), jv (((0 : Int64) + (y0.toInt64)) + (y1.toInt64)), sc, rv tb, dv (FP.l2d ((n1 >>> ((3 : Int32) &&& 31)) % (1000 : Int32)).toInt64), sc, rv wo, dv (FP.l2d ((0 + y0.toInt64) + y1.toInt64)), sc] [(.int (0 : Int32))]))
    refine go_if_ne C X62 at_146 (pc' := 149) (pc2 := 153) rfl (by decide) (by decide) (fun (c146 : ¬ (0 : Int32) = (0 : Int32)) => False.elim (by first | omega | exact absurd c146 (by decide))) (fun (c146 : (0 : Int32) = (0 : Int32)) => ?_)
    refine go_iconst C X62 150 rfl at_149 (z := 1) rfl ?_
    refine go_goto C X62 at_150 (pc' := 154) (by decide) (by decide) ?_
    exact go_retN C X62 (by simp) (z' := 1) rfl at_154 rfl (by decide) (by decide)
  · refine go_iload C X0 38 rfl at_36 rfl ?_
    refine go_iconst C X0 39 rfl at_38 (z := 1) rfl ?_
    refine go_icmp_lt C X0 at_39 (pc' := 42) (pc2 := 50) rfl (by decide) (by decide) (fun (c39 : 3 < 1) => False.elim (by first | omega | exact absurd c39 (by decide))) (fun (c39 : 1 ≤ 3) => ?_)
    refine go_lload C X0 44 rfl at_42 rfl ?_
    refine go_iload C X0 46 rfl at_44 rfl ?_
    refine go_i2l C X0 47 rfl at_46 ?_
    refine go_ladd C X0 48 rfl at_47 ?_
    refine go_lstore C X0 50 rfl at_48 #[iv a, iv b, iv c1, iv d, iv n1, jv fs, sc, iv y0, iv y1, iv y2, iv y3, iv (3 : Int32), jv ((0 : Int64) + (y0.toInt64)), sc, un, un, un, un, un, un] rfl ?_
    refine go_iload C X0 52 rfl at_50 rfl ?_
    refine go_iconst C X0 53 rfl at_52 (z := 2) rfl ?_
    refine go_icmp_lt C X0 at_53 (pc' := 56) (pc2 := 64) rfl (by decide) (by decide) (fun (c53 : 3 < 2) => False.elim (by first | omega | exact absurd c53 (by decide))) (fun (c53 : 2 ≤ 3) => ?_)
    refine go_lload C X0 58 rfl at_56 rfl ?_
    refine go_iload C X0 60 rfl at_58 rfl ?_
    refine go_i2l C X0 61 rfl at_60 ?_
    refine go_ladd C X0 62 rfl at_61 ?_
    refine go_lstore C X0 64 rfl at_62 #[iv a, iv b, iv c1, iv d, iv n1, jv fs, sc, iv y0, iv y1, iv y2, iv y3, iv (3 : Int32), jv (((0 : Int64) + (y0.toInt64)) + (y1.toInt64)), sc, un, un, un, un, un, un] rfl ?_
    refine go_iload C X0 66 rfl at_64 rfl ?_
    refine go_iconst C X0 67 rfl at_66 (z := 3) rfl ?_
    refine go_icmp_lt C X0 at_67 (pc' := 70) (pc2 := 78) rfl (by decide) (by decide) (fun (c67 : 3 < 3) => False.elim (by first | omega | exact absurd c67 (by decide))) (fun (c67 : 3 ≤ 3) => ?_)
    refine go_lload C X0 72 rfl at_70 rfl ?_
    refine go_iload C X0 74 rfl at_72 rfl ?_
    refine go_i2l C X0 75 rfl at_74 ?_
    refine go_ladd C X0 76 rfl at_75 ?_
    refine go_lstore C X0 78 rfl at_76 #[iv a, iv b, iv c1, iv d, iv n1, jv fs, sc, iv y0, iv y1, iv y2, iv y3, iv (3 : Int32), jv ((((0 : Int64) + (y0.toInt64)) + (y1.toInt64)) + (y2.toInt64)), sc, un, un, un, un, un, un] rfl ?_
    refine go_iload C X0 80 rfl at_78 rfl ?_
    refine go_iconst C X0 81 rfl at_80 (z := 4) rfl ?_
    refine go_icmp_lt C X0 at_81 (pc' := 84) (pc2 := 92) rfl (by decide) (by decide) (fun (c81 : 3 < 4) => ?_) (fun (c81 : 4 ≤ 3) => False.elim (by first | omega | exact absurd c81 (by decide)))
    refine go_iload C X0 94 rfl at_92 rfl ?_
    refine go_iload C X0 96 rfl at_94 rfl ?_
    refine go_iload C X0 98 rfl at_96 rfl ?_
    refine go_iload C X0 100 rfl at_98 rfl ?_
    refine go_iload C X0 102 rfl at_100 rfl ?_
    have hsz_102 := X0.sz
    refine go_callS C X0 (C.w 1 rfl) (C.w 2 rfl) (C.w 3 rfl) (C.w 4 rfl) (own_make_3 l Z a0 C.ws y0 y1 y2 y3 h n0 X0.old) (argsL := [(.int (3 : Int32)), (.int y0), (.int y1), (.int y2), (.int y3)]) (rest := []) (lenOf pd_1 rfl) rfl (by decide) (by decide) (Nat.le_of_ble_eq_true rfl) (by decide) (by decide) rfl rfl (pc' := 105) rfl at_102 ?_
    rintro T64 h66 _ ⟨tb, rfl, szt, Kt, At⟩ X65
    show Go p e below _ (T64.setTop (mkF m 105 #[iv a, iv b, iv c1, iv d, iv n1, jv fs, sc, iv y0, iv y1, iv y2, iv y3, iv (3 : Int32), jv ((((0 : Int64) + (y0.toInt64)) + (y1.toInt64)) + (y2.toInt64)), sc, un, un, un, un, un, un] [(.ref tb)]))
    have ga_tb : n0 ≤ tb := Nat.le_trans hsz_102 szt
    refine go_astore C X65 107 rfl at_105 rfl #[iv a, iv b, iv c1, iv d, iv n1, jv fs, sc, iv y0, iv y1, iv y2, iv y3, iv (3 : Int32), jv ((((0 : Int64) + (y0.toInt64)) + (y1.toInt64)) + (y2.toInt64)), sc, rv tb, un, un, un, un, un] rfl ?_
    refine go_iload C X65 109 rfl at_107 rfl ?_
    refine go_iconst C X65 110 rfl at_109 (z := 3) rfl ?_
    refine go_ishr C X65 111 rfl at_110 ?_
    refine go_sipush C X65 114 rfl at_111 (z := 1000) rfl ?_
    refine go_irem C X65 115 rfl at_114 (by decide) ?_
    refine go_i2d C X65 116 rfl at_115 ?_
    refine go_dstore C X65 118 rfl at_116 #[iv a, iv b, iv c1, iv d, iv n1, jv fs, sc, iv y0, iv y1, iv y2, iv y3, iv (3 : Int32), jv ((((0 : Int64) + (y0.toInt64)) + (y1.toInt64)) + (y2.toInt64)), sc, rv tb, dv (FP.l2d ((n1 >>> ((3 : Int32) &&& 31)) % (1000 : Int32)).toInt64), sc, un, un, un] rfl ?_
    refine go_new C X65 (C.w 6 rfl) (C.w 7 rfl) (C.w 8 rfl) (by decide) (by decide) (pc' := 121) rfl at_118 (fun T67 h69 wo ha_wo ga_wo E70 E71 D72 X68 => ?_)
    have ne_tb_wo : tb ≠ wo := Nat.ne_of_lt (Nat.lt_of_lt_of_le At.lt (Nat.le_of_eq ha_wo.symm))
    have A73 := At.ext E70
    have F74 : Fld Z h69 wo "com/example/waymarshal/waymarshal/ranks/Poisson$Window" "first" "J" (.long (0 : Int64)) := D72 (Or.inr (C.w 21 rfl)) (ty := .long) (by decide)
    have F75 : Fld Z h69 wo "com/example/waymarshal/waymarshal/ranks/Poisson$Window" "logScale" "D" (.double 0) := D72 (Or.inr (C.w 23 rfl)) (ty := .double) (by decide)
    have F76 : Fld Z h69 wo "com/example/waymarshal/waymarshal/ranks/Poisson$Window" "terms" "[D" .null := D72 (Or.inr (C.w 25 rfl)) (ty := (.array .double)) (by decide)
    refine go_dup C X68 122 rfl at_121 rfl ?_
    refine go_lload C X68 124 rfl at_122 rfl ?_
    refine go_dload C X68 126 rfl at_124 rfl ?_
    refine go_aload C X68 128 rfl at_126 rfl rfl ?_
    refine go_special C X68 (C.w 9 rfl) (C.w 10 rfl) (C.w 8 rfl) (C.w 11 rfl) rfl (own_winit l Z a0 C.ws wo fs (FP.l2d ((n1 >>> ((3 : Int32) &&& 31)) % (1000 : Int32)).toInt64) tb h69 n0 X68.old E71 F74 F75 F76 ga_wo) (argsL := [(.long fs), (.double (FP.l2d ((n1 >>> ((3 : Int32) &&& 31)) % (1000 : Int32)).toInt64)), (.ref tb)]) (rest := [(.ref wo)]) (lenOf pd_2 rfl) rfl (by decide) (by decide) (Nat.le_of_ble_eq_true rfl) (by decide) (by decide) rfl rfl (pc' := 131) rfl at_128 ?_
    rintro T77 h79 _ ⟨rfl, K9, E9, F9⟩ X78
    show Go p e below _ (T77.setTop (mkF m 131 #[iv a, iv b, iv c1, iv d, iv n1, jv fs, sc, iv y0, iv y1, iv y2, iv y3, iv (3 : Int32), jv ((((0 : Int64) + (y0.toInt64)) + (y1.toInt64)) + (y2.toInt64)), sc, rv tb, dv (FP.l2d ((n1 >>> ((3 : Int32) &&& 31)) % (1000 : Int32)).toInt64), sc, un, un, un] [(.ref wo)]))
    have A80 := A73.keep K9 (ninS ne_tb_wo nin0)
    have E81 := E71.keep K9
    refine go_astore C X78 133 rfl at_131 rfl #[iv a, iv b, iv c1, iv d, iv n1, jv fs, sc, iv y0, iv y1, iv y2, iv y3, iv (3 : Int32), jv ((((0 : Int64) + (y0.toInt64)) + (y1.toInt64)) + (y2.toInt64)), sc, rv tb, dv (FP.l2d ((n1 >>> ((3 : Int32) &&& 31)) % (1000 : Int32)).toInt64), sc, rv wo, un, un] rfl ?_
    refine go_aload C X78 135 rfl at_133 rfl rfl ?_
    refine go_virtual C X78 E9 (C.w 26 rfl) (C.w 27 rfl) (notFace_of_selects (args := #[]) (mvT C.hZ (C.w 29 rfl))) (C.w 29 rfl) (C.w 28 rfl) (C.w 8 rfl) (C.w 30 rfl) (own_sum_3 l Z a0 C.ws wo tb y0 y1 y2 y3 h79 n0 X78.old F9 A80 m0 m1 m2) (argsL := []) (rest := []) (lenOf pd_3 rfl) rfl (by decide) (by decide) (Nat.le_of_ble_eq_true rfl) (by decide) (by decide) rfl rfl (pc' := 138) rfl at_135 ?_
    rintro T82 _ _ ⟨rfl, rfl⟩ X83
    show Go p e below _ (T82.setTop (mkF m 138 #[iv a, iv b, iv c1, iv d, iv n1, jv fs, sc, iv y0, iv y1, iv y2, iv y3, iv (3 : Int32), jv ((((0 : Int64) + (y0.toInt64)) + (y1.toInt64)) + (y2.toInt64)), sc, rv tb, dv (FP.l2d ((n1 >>> ((3 : Int32) &&& 31)) % (1000 : Int32)).toInt64), sc, rv wo, un, un] [(.double (FP.l2d (((0 + y0.toInt64) + y1.toInt64) + y2.toInt64)))]))
    refine go_dstore C X83 140 rfl at_138 #[iv a, iv b, iv c1, iv d, iv n1, jv fs, sc, iv y0, iv y1, iv y2, iv y3, iv (3 : Int32), jv ((((0 : Int64) + (y0.toInt64)) + (y1.toInt64)) + (y2.toInt64)), sc, rv tb, dv (FP.l2d ((n1 >>> ((3 : Int32) &&& 31)) % (1000 : Int32)).toInt64), sc, rv wo, dv (FP.l2d (((0 + y0.toInt64) + y1.toInt64) + y2.toInt64)), sc] rfl ?_
    refine go_dload C X83 142 rfl at_140 rfl ?_
    refine go_lload C X83 144 rfl at_142 rfl ?_
    refine go_l2d C X83 145 rfl at_144 ?_
    refine go_dcmp C X83 146 rfl at_145 (by have := m0; have := m1; have := m2; have := m3; have s0 : (0 : Int64).toInt = 0 := rfl; have s1 := l_add (b := y0.toInt64) s0 rfl (by have := m0; omega) (by have := m0; omega); have s2 := l_add (b := y1.toInt64) s1 rfl (by have := m1; omega) (by have := m1; omega); have s3 := l_add (b := y2.toInt64) s2 rfl (by have := m2; omega) (by have := m2; omega); exact own_b (by omega) (by omega)) (by have := m0; have := m1; have := m2; have := m3; have s0 : (0 : Int64).toInt = 0 := rfl; have s1 := l_add (b := y0.toInt64) s0 rfl (by have := m0; omega) (by have := m0; omega); have s2 := l_add (b := y1.toInt64) s1 rfl (by have := m1; omega) (by have := m1; omega); have s3 := l_add (b := y2.toInt64) s2 rfl (by have := m2; omega) (by have := m2; omega); exact own_b (by omega) (by omega)) ?_
    rw [show lcmpW (((0 + y0.toInt64) + y1.toInt64) + y2.toInt64) ((((0 : Int64) + (y0.toInt64)) + (y1.toInt64)) + (y2.toInt64)) = 0 from (lw_eq _ _).mpr rfl]
    show Go p e below _ (T82.setTop (mkF m 146 #[iv a, iv b, iv c1, iv d, iv n1, jv fs, sc, iv y0, iv y1, iv y2, iv y3, iv (3 : Int32), jv ((((0 : Int64) + (y0.toInt64)) + (y1.toInt64)) + (y2.toInt64)), sc, rv tb, dv (FP.l2d ((n1 >>> ((3 : Int32) &&& 31)) % (1000 : Int32)).toInt64), sc, rv wo, dv (FP.l2d (((0 + y0.toInt64) + y1.toInt64) + y2.toInt64)), sc] [(.int (0 : Int32))]))
    refine go_if_ne C X83 at_146 (pc' := 149) (pc2 := 153) rfl (by decide) (by decide) (fun (c146 : ¬ (0 : Int32) = (0 : Int32)) => False.elim (by first | omega | exact absurd c146 (by decide))) (fun (c146 : (0 : Int32) = (0 : Int32)) => ?_)
    refine go_iconst C X83 150 rfl at_149 (z := 1) rfl ?_
    refine go_goto C X83 at_150 (pc' := 154) (by decide) (by decide) ?_
    exact go_retN C X83 (by simp) (z' := 1) rfl at_154 rfl (by decide) (by decide)
  · refine go_iload C X0 38 rfl at_36 rfl ?_
    refine go_iconst C X0 39 rfl at_38 (z := 1) rfl ?_
    refine go_icmp_lt C X0 at_39 (pc' := 42) (pc2 := 50) rfl (by decide) (by decide) (fun (c39 : 4 < 1) => False.elim (by first | omega | exact absurd c39 (by decide))) (fun (c39 : 1 ≤ 4) => ?_)
    refine go_lload C X0 44 rfl at_42 rfl ?_
    refine go_iload C X0 46 rfl at_44 rfl ?_
    refine go_i2l C X0 47 rfl at_46 ?_
    refine go_ladd C X0 48 rfl at_47 ?_
    refine go_lstore C X0 50 rfl at_48 #[iv a, iv b, iv c1, iv d, iv n1, jv fs, sc, iv y0, iv y1, iv y2, iv y3, iv (4 : Int32), jv ((0 : Int64) + (y0.toInt64)), sc, un, un, un, un, un, un] rfl ?_
    refine go_iload C X0 52 rfl at_50 rfl ?_
    refine go_iconst C X0 53 rfl at_52 (z := 2) rfl ?_
    refine go_icmp_lt C X0 at_53 (pc' := 56) (pc2 := 64) rfl (by decide) (by decide) (fun (c53 : 4 < 2) => False.elim (by first | omega | exact absurd c53 (by decide))) (fun (c53 : 2 ≤ 4) => ?_)
    refine go_lload C X0 58 rfl at_56 rfl ?_
    refine go_iload C X0 60 rfl at_58 rfl ?_
    refine go_i2l C X0 61 rfl at_60 ?_
    refine go_ladd C X0 62 rfl at_61 ?_
    refine go_lstore C X0 64 rfl at_62 #[iv a, iv b, iv c1, iv d, iv n1, jv fs, sc, iv y0, iv y1, iv y2, iv y3, iv (4 : Int32), jv (((0 : Int64) + (y0.toInt64)) + (y1.toInt64)), sc, un, un, un, un, un, un] rfl ?_
    refine go_iload C X0 66 rfl at_64 rfl ?_
    refine go_iconst C X0 67 rfl at_66 (z := 3) rfl ?_
    refine go_icmp_lt C X0 at_67 (pc' := 70) (pc2 := 78) rfl (by decide) (by decide) (fun (c67 : 4 < 3) => False.elim (by first | omega | exact absurd c67 (by decide))) (fun (c67 : 3 ≤ 4) => ?_)
    refine go_lload C X0 72 rfl at_70 rfl ?_
    refine go_iload C X0 74 rfl at_72 rfl ?_
    refine go_i2l C X0 75 rfl at_74 ?_
    refine go_ladd C X0 76 rfl at_75 ?_
    refine go_lstore C X0 78 rfl at_76 #[iv a, iv b, iv c1, iv d, iv n1, jv fs, sc, iv y0, iv y1, iv y2, iv y3, iv (4 : Int32), jv ((((0 : Int64) + (y0.toInt64)) + (y1.toInt64)) + (y2.toInt64)), sc, un, un, un, un, un, un] rfl ?_
    refine go_iload C X0 80 rfl at_78 rfl ?_
    refine go_iconst C X0 81 rfl at_80 (z := 4) rfl ?_
    refine go_icmp_lt C X0 at_81 (pc' := 84) (pc2 := 92) rfl (by decide) (by decide) (fun (c81 : 4 < 4) => False.elim (by first | omega | exact absurd c81 (by decide))) (fun (c81 : 4 ≤ 4) => ?_)
    refine go_lload C X0 86 rfl at_84 rfl ?_
    refine go_iload C X0 88 rfl at_86 rfl ?_
    refine go_i2l C X0 89 rfl at_88 ?_
    refine go_ladd C X0 90 rfl at_89 ?_
    refine go_lstore C X0 92 rfl at_90 #[iv a, iv b, iv c1, iv d, iv n1, jv fs, sc, iv y0, iv y1, iv y2, iv y3, iv (4 : Int32), jv (((((0 : Int64) + (y0.toInt64)) + (y1.toInt64)) + (y2.toInt64)) + (y3.toInt64)), sc, un, un, un, un, un, un] rfl ?_
    refine go_iload C X0 94 rfl at_92 rfl ?_
    refine go_iload C X0 96 rfl at_94 rfl ?_
    refine go_iload C X0 98 rfl at_96 rfl ?_
    refine go_iload C X0 100 rfl at_98 rfl ?_
    refine go_iload C X0 102 rfl at_100 rfl ?_
    have hsz_102 := X0.sz
    refine go_callS C X0 (C.w 1 rfl) (C.w 2 rfl) (C.w 3 rfl) (C.w 4 rfl) (own_make_4 l Z a0 C.ws y0 y1 y2 y3 h n0 X0.old) (argsL := [(.int (4 : Int32)), (.int y0), (.int y1), (.int y2), (.int y3)]) (rest := []) (lenOf pd_1 rfl) rfl (by decide) (by decide) (Nat.le_of_ble_eq_true rfl) (by decide) (by decide) rfl rfl (pc' := 105) rfl at_102 ?_
    rintro T85 h87 _ ⟨tb, rfl, szt, Kt, At⟩ X86
    show Go p e below _ (T85.setTop (mkF m 105 #[iv a, iv b, iv c1, iv d, iv n1, jv fs, sc, iv y0, iv y1, iv y2, iv y3, iv (4 : Int32), jv (((((0 : Int64) + (y0.toInt64)) + (y1.toInt64)) + (y2.toInt64)) + (y3.toInt64)), sc, un, un, un, un, un, un] [(.ref tb)]))
    have ga_tb : n0 ≤ tb := Nat.le_trans hsz_102 szt
    refine go_astore C X86 107 rfl at_105 rfl #[iv a, iv b, iv c1, iv d, iv n1, jv fs, sc, iv y0, iv y1, iv y2, iv y3, iv (4 : Int32), jv (((((0 : Int64) + (y0.toInt64)) + (y1.toInt64)) + (y2.toInt64)) + (y3.toInt64)), sc, rv tb, un, un, un, un, un] rfl ?_
    refine go_iload C X86 109 rfl at_107 rfl ?_
    refine go_iconst C X86 110 rfl at_109 (z := 3) rfl ?_
    refine go_ishr C X86 111 rfl at_110 ?_
    refine go_sipush C X86 114 rfl at_111 (z := 1000) rfl ?_
    refine go_irem C X86 115 rfl at_114 (by decide) ?_
    refine go_i2d C X86 116 rfl at_115 ?_
    refine go_dstore C X86 118 rfl at_116 #[iv a, iv b, iv c1, iv d, iv n1, jv fs, sc, iv y0, iv y1, iv y2, iv y3, iv (4 : Int32), jv (((((0 : Int64) + (y0.toInt64)) + (y1.toInt64)) + (y2.toInt64)) + (y3.toInt64)), sc, rv tb, dv (FP.l2d ((n1 >>> ((3 : Int32) &&& 31)) % (1000 : Int32)).toInt64), sc, un, un, un] rfl ?_
    refine go_new C X86 (C.w 6 rfl) (C.w 7 rfl) (C.w 8 rfl) (by decide) (by decide) (pc' := 121) rfl at_118 (fun T88 h90 wo ha_wo ga_wo E91 E92 D93 X89 => ?_)
    have ne_tb_wo : tb ≠ wo := Nat.ne_of_lt (Nat.lt_of_lt_of_le At.lt (Nat.le_of_eq ha_wo.symm))
    have A94 := At.ext E91
    have F95 : Fld Z h90 wo "com/example/waymarshal/waymarshal/ranks/Poisson$Window" "first" "J" (.long (0 : Int64)) := D93 (Or.inr (C.w 21 rfl)) (ty := .long) (by decide)
    have F96 : Fld Z h90 wo "com/example/waymarshal/waymarshal/ranks/Poisson$Window" "logScale" "D" (.double 0) := D93 (Or.inr (C.w 23 rfl)) (ty := .double) (by decide)
    have F97 : Fld Z h90 wo "com/example/waymarshal/waymarshal/ranks/Poisson$Window" "terms" "[D" .null := D93 (Or.inr (C.w 25 rfl)) (ty := (.array .double)) (by decide)
    refine go_dup C X89 122 rfl at_121 rfl ?_
    refine go_lload C X89 124 rfl at_122 rfl ?_
    refine go_dload C X89 126 rfl at_124 rfl ?_
    refine go_aload C X89 128 rfl at_126 rfl rfl ?_
    refine go_special C X89 (C.w 9 rfl) (C.w 10 rfl) (C.w 8 rfl) (C.w 11 rfl) rfl (own_winit l Z a0 C.ws wo fs (FP.l2d ((n1 >>> ((3 : Int32) &&& 31)) % (1000 : Int32)).toInt64) tb h90 n0 X89.old E92 F95 F96 F97 ga_wo) (argsL := [(.long fs), (.double (FP.l2d ((n1 >>> ((3 : Int32) &&& 31)) % (1000 : Int32)).toInt64)), (.ref tb)]) (rest := [(.ref wo)]) (lenOf pd_2 rfl) rfl (by decide) (by decide) (Nat.le_of_ble_eq_true rfl) (by decide) (by decide) rfl rfl (pc' := 131) rfl at_128 ?_
    rintro T98 h100 _ ⟨rfl, K9, E9, F9⟩ X99
    show Go p e below _ (T98.setTop (mkF m 131 #[iv a, iv b, iv c1, iv d, iv n1, jv fs, sc, iv y0, iv y1, iv y2, iv y3, iv (4 : Int32), jv (((((0 : Int64) + (y0.toInt64)) + (y1.toInt64)) + (y2.toInt64)) + (y3.toInt64)), sc, rv tb, dv (FP.l2d ((n1 >>> ((3 : Int32) &&& 31)) % (1000 : Int32)).toInt64), sc, un, un, un] [(.ref wo)]))
    have A101 := A94.keep K9 (ninS ne_tb_wo nin0)
    have E102 := E92.keep K9
    refine go_astore C X99 133 rfl at_131 rfl #[iv a, iv b, iv c1, iv d, iv n1, jv fs, sc, iv y0, iv y1, iv y2, iv y3, iv (4 : Int32), jv (((((0 : Int64) + (y0.toInt64)) + (y1.toInt64)) + (y2.toInt64)) + (y3.toInt64)), sc, rv tb, dv (FP.l2d ((n1 >>> ((3 : Int32) &&& 31)) % (1000 : Int32)).toInt64), sc, rv wo, un, un] rfl ?_
    refine go_aload C X99 135 rfl at_133 rfl rfl ?_
    refine go_virtual C X99 E9 (C.w 26 rfl) (C.w 27 rfl) (notFace_of_selects (args := #[]) (mvT C.hZ (C.w 29 rfl))) (C.w 29 rfl) (C.w 28 rfl) (C.w 8 rfl) (C.w 30 rfl) (own_sum_4 l Z a0 C.ws wo tb y0 y1 y2 y3 h100 n0 X99.old F9 A101 m0 m1 m2 m3) (argsL := []) (rest := []) (lenOf pd_3 rfl) rfl (by decide) (by decide) (Nat.le_of_ble_eq_true rfl) (by decide) (by decide) rfl rfl (pc' := 138) rfl at_135 ?_
    rintro T103 _ _ ⟨rfl, rfl⟩ X104
    show Go p e below _ (T103.setTop (mkF m 138 #[iv a, iv b, iv c1, iv d, iv n1, jv fs, sc, iv y0, iv y1, iv y2, iv y3, iv (4 : Int32), jv (((((0 : Int64) + (y0.toInt64)) + (y1.toInt64)) + (y2.toInt64)) + (y3.toInt64)), sc, rv tb, dv (FP.l2d ((n1 >>> ((3 : Int32) &&& 31)) % (1000 : Int32)).toInt64), sc, rv wo, un, un] [(.double (FP.l2d ((((0 + y0.toInt64) + y1.toInt64) + y2.toInt64) + y3.toInt64)))]))
    refine go_dstore C X104 140 rfl at_138 #[iv a, iv b, iv c1, iv d, iv n1, jv fs, sc, iv y0, iv y1, iv y2, iv y3, iv (4 : Int32), jv (((((0 : Int64) + (y0.toInt64)) + (y1.toInt64)) + (y2.toInt64)) + (y3.toInt64)), sc, rv tb, dv (FP.l2d ((n1 >>> ((3 : Int32) &&& 31)) % (1000 : Int32)).toInt64), sc, rv wo, dv (FP.l2d ((((0 + y0.toInt64) + y1.toInt64) + y2.toInt64) + y3.toInt64)), sc] rfl ?_
    refine go_dload C X104 142 rfl at_140 rfl ?_
    refine go_lload C X104 144 rfl at_142 rfl ?_
    refine go_l2d C X104 145 rfl at_144 ?_
    refine go_dcmp C X104 146 rfl at_145 (by have := m0; have := m1; have := m2; have := m3; have s0 : (0 : Int64).toInt = 0 := rfl; have s1 := l_add (b := y0.toInt64) s0 rfl (by have := m0; omega) (by have := m0; omega); have s2 := l_add (b := y1.toInt64) s1 rfl (by have := m1; omega) (by have := m1; omega); have s3 := l_add (b := y2.toInt64) s2 rfl (by have := m2; omega) (by have := m2; omega); have s4 := l_add (b := y3.toInt64) s3 rfl (by have := m3; omega) (by have := m3; omega); exact own_b (by omega) (by omega)) (by have := m0; have := m1; have := m2; have := m3; have s0 : (0 : Int64).toInt = 0 := rfl; have s1 := l_add (b := y0.toInt64) s0 rfl (by have := m0; omega) (by have := m0; omega); have s2 := l_add (b := y1.toInt64) s1 rfl (by have := m1; omega) (by have := m1; omega); have s3 := l_add (b := y2.toInt64) s2 rfl (by have := m2; omega) (by have := m2; omega); have s4 := l_add (b := y3.toInt64) s3 rfl (by have := m3; omega) (by have := m3; omega); exact own_b (by omega) (by omega)) ?_
    rw [show lcmpW ((((0 + y0.toInt64) + y1.toInt64) + y2.toInt64) + y3.toInt64) (((((0 : Int64) + (y0.toInt64)) + (y1.toInt64)) + (y2.toInt64)) + (y3.toInt64)) = 0 from (lw_eq _ _).mpr rfl]
    show Go p e below _ (T103.setTop (mkF m 146 #[iv a, iv b, iv c1, iv d, iv n1, jv fs, sc, iv y0, iv y1, iv y2, iv y3, iv (4 : Int32), jv (((((0 : Int64) + (y0.toInt64)) + (y1.toInt64)) + (y2.toInt64)) + (y3.toInt64)), sc, rv tb, dv (FP.l2d ((n1 >>> ((3 : Int32) &&& 31)) % (1000 : Int32)).toInt64), sc, rv wo, dv (FP.l2d ((((0 + y0.toInt64) + y1.toInt64) + y2.toInt64) + y3.toInt64)), sc] [(.int (0 : Int32))]))
    refine go_if_ne C X104 at_146 (pc' := 149) (pc2 := 153) rfl (by decide) (by decide) (fun (c146 : ¬ (0 : Int32) = (0 : Int32)) => False.elim (by first | omega | exact absurd c146 (by decide))) (fun (c146 : (0 : Int32) = (0 : Int32)) => ?_)
    refine go_iconst C X104 150 rfl at_149 (z := 1) rfl ?_
    refine go_goto C X104 at_150 (pc' := 154) (by decide) (by decide) ?_
    exact go_retN C X104 (by simp) (z' := 1) rfl at_154 rfl (by decide) (by decide)
set_option maxRecDepth 65536 in
set_option maxHeartbeats 40000000 in
theorem comes_1 {Post : Tables → Env → Array Value → State → Outcome → State → Prop} (hpost : ∀ tb e args s v u, (limb_1_1.after args s (.returned v) u = true ∧ limb_1_2.after args s (.returned v) u = true ∧ True) → FrameEnd s (.returned v) u (Jvm.fieldLocs frame_1_writes args s ++ Jvm.arrayLocs frame_1_arrays args s ++ Jvm.staticLocs frame_1_statics s) 16 128 → Post tb e args s (.returned v) u) :
    ArmFor flags0 classFile x code maxLocals ret World_1 tables_1 room_1 Calls_1 rest_1 Pre_1 Post := by
  intro l hfl _ _ p e ha hc hk s m args below hf hA hF happ hP
  obtain ⟨hcalls, hrest, hpre⟩ := hP
  obtain ⟨-, -, -, hnamed, -, -, -, hat⟩ := (Spec.applies_iff hf).mp happ
  obtain ⟨hg, hn⟩ := and_e (Cond.before_iff.mp (show (Jvm.Cond.and given_1 narrow_1).before args s = true from hpre))
  obtain ⟨g1, g2⟩ := and_e hg
  obtain ⟨g3, g4⟩ := and_e g2
  obtain ⟨g5, g6⟩ := and_e g4
  obtain ⟨g7, g8⟩ := and_e g6
  obtain ⟨g9, g10⟩ := and_e g8
  obtain ⟨g11, g12⟩ := and_e g10
  obtain ⟨w0, w1, w2, w3, w4, w5, rfl⟩ : ∃ w0 w1 w2 w3 w4 w5 : Value, args = #[w0, w1, w2, w3, w4, w5] := by
    have hs : args.size = 6 := by simpa [Cond.value, given_1] using g1
    obtain ⟨L⟩ := args
    match L, hs with
    | [w0, w1, w2, w3, w4, w5], _ => exact ⟨w0, w1, w2, w3, w4, w5, rfl⟩
  have hw := fun d (hd : d ∈ tables_1) => atoms_spec (ws := Jvm.Cond.code x code maxLocals ret :: tables_1) hat d (List.mem_cons_of_mem _ hd)
  have hfit : Fit s := fun {y c} hc i hi => by
    obtain ⟨ha, rfl⟩ := Array.getElem?_eq_some_iff.mp hc
    have q := List.all_eq_true.mp ((Array.all_eq_true_iff_forall_mem.mp hF) _ (Array.getElem_mem ha)) i (List.mem_range.mpr hi)
    simpa [Array.getElem?_eq_getElem hi] using q
  obtain ⟨i0, ei0⟩ := is_v g3
  obtain rfl : w0 = (.int i0) := Option.some.inj ei0
  obtain ⟨i1, ei1⟩ := is_v g5
  obtain rfl : w1 = (.int i1) := Option.some.inj ei1
  obtain ⟨i2, ei2⟩ := is_v g7
  obtain rfl : w2 = (.int i2) := Option.some.inj ei2
  obtain ⟨i3, ei3⟩ := is_v g9
  obtain rfl : w3 = (.int i3) := Option.some.inj ei3
  obtain ⟨i4, ei4⟩ := is_v g11
  obtain rfl : w4 = (.int i4) := Option.some.inj ei4
  obtain ⟨i5, ei5⟩ := isL_v g12
  obtain rfl : w5 = (.long i5) := Option.some.inj ei5
  obtain ⟨n, o, h1, h2, h3, _, L, rfl, ⟨N, rfl⟩, hq⟩ := own_law l s _ hw i0 i1 i2 i3 i4 i5  s.heap s.heap.size (Old.start s)  tables_1 p e ha hc hk s m _ below hf ((Spec.applies_iff_loose hf).mp happ).1 ⟨rfl, State.Warmed39.refl s, rfl⟩ trivial
  refine ⟨n, _, h1, h2, h3, hpost _ _ _ _ _ _ ⟨Cond.after_iff.mpr rfl, Cond.after_iff.mpr (eq_i res_at (Term.int_eval (1)) rfl), trivial⟩ ⟨hq.1, hq.2.1, (hq.2.2.sift fun y hy => Or.inr (N y hy)).mono (by decide) (by decide)⟩⟩
theorem main_1_1 : Claimed_1_1 := comes_1 fun _ _ _ _ _ _ h hF => ⟨h.1, hF⟩
theorem main_1_2 : Claimed_1_2 := comes_1 fun _ _ _ _ _ _ h hF => ⟨h.2.1, hF⟩

end Jvm.Pilot.@@N@@
namespace Jvm.Pilot.@@N@@
open Jvm Jvm.ClassFile Sem Op Lib Jvm.Free Jvm.Stand Jvm.Pilot.@@N@@.Jvm.D
/-! MADE BY PROGRAM (witnessworld.py) out of the Statement's table words and the real class files: 10 classes; the members and pool entries that the words name. The judged class is class 1, her method 2. -/
namespace start1
open Jvm.ClassFile
def u (s : String) : CpInfo := .utf8 (stringToUtf16 s)
/-- a pool by its gaps: so many unusable entries, then the entry; so many at the end -/
def gap : Nat → List CpInfo → List CpInfo
  | 0, r => r
  | n + 1, r => .unusable :: gap n r
def poolList (es : List (Nat × CpInfo)) (last : Nat) : List CpInfo := es.foldr (fun e r => gap e.1 (e.2 :: r)) (gap last [])
def pool (es : List (Nat × CpInfo)) (last : Nat) : Array CpInfo := ⟨poolList es last⟩
def fileOf (pool : Array CpInfo) (this : Nat) (attrs : Array Attribute := #[]) (ms : Array MethodInfo := #[]) (fl : Nat := 33) (sup : Nat := 0) (ifs : Array Nat := #[]) (fds : Array FieldInfo := #[]) : ClassFile where
  minorVersion := 0
  majorVersion := 65
  constantPool := pool
  accessFlags := fl
  thisClass := this
  superClass := sup
  interfaces := ifs
  fields := fds
  methods := ms
  attributes := attrs
def plain (name : String) (sup : Option ClassId) : Class where
  name := name
  kind := .ordinary
  loader := none
  accessFlags := 33
  super := sup
  interfaces := #[]
  cf := none
  fields := #[]
  methods := #[]
  instanceTypes := #[]
  staticTypes := #[]
  resolved := #[]
  callSites := []
  init := .initialized
  statics := none
  mirror := none

def pool0 : Array CpInfo := pool [(5, u "<init>"), (0, u "()V"), (1, .class_ 10), (1, u "java/lang/Object")] 113

def k0c0 : Code := { maxStack := 0, maxLocals := 1, code := object_method_1_code, exceptionTable := #[], attributes := #[] }
def k0m0 : Method := { name := "<init>", desc := "()V", sig := { parameters := [], returnType := none }, accessFlags := 1, code := some k0c0 }
/-- java/lang/Object -/
def k0 : Class := { plain "java/lang/Object" none with
  accessFlags := 33
  interfaces := #[]
  cf := some (fileOf pool0 8 #[] #[{ accessFlags := 1, nameIndex := 5, descriptorIndex := 6, attributes := #[] }] 33 0 #[] #[])
  fields := #[]
  methods := #[k0m0]
  instanceTypes := #[]
  staticTypes := #[]
  resolved := Array.replicate 124 none
  statics := none }

def pool1 : Array CpInfo := pool [(2, .class_ 4), (1, u "java/lang/Object"), (0, u "<init>"), (0, u "()V"), (0, .integer 1048575), (0, .methodref 9 10), (0, .class_ 11), (0, .nameAndType 12 13), (0, u "com/example/waymarshal/waymarshal/ranks/WindowSumPinLaw"), (0, u "make"), (0, u "(IIIII)[D"), (0, .class_ 15), (0, u "com/example/waymarshal/waymarshal/ranks/Poisson$Window"), (0, .methodref 14 17), (0, .nameAndType 5 18), (0, u "(JD[D)V"), (0, .methodref 14 20), (0, .nameAndType 21 22), (0, u "sum"), (0, u "()D"), (3, u "law"), (0, u "(IIIIIJ)Z")] 8

def k1m0 : Method := { name := "<init>", desc := "()V", sig := { parameters := [], returnType := none }, accessFlags := 1, code := none }
def k1c1 : Code := { maxStack := 5, maxLocals := 5, code := method_2_code, exceptionTable := #[], attributes := #[] }
def k1m1 : Method := { name := "make", desc := "(IIIII)[D", sig := { parameters := [.int, .int, .int, .int, .int], returnType := some (.array .double) }, accessFlags := 10, code := some k1c1 }
def k1c2 : Code := { maxStack := 7, maxLocals := 20, code := code, exceptionTable := #[], attributes := #[] }
def k1m2 : Method := { name := "law", desc := "(IIIIIJ)Z", sig := { parameters := [.int, .int, .int, .int, .int, .long], returnType := some .boolean }, accessFlags := 9, code := some k1c2 }
/-- com/example/waymarshal/waymarshal/ranks/WindowSumPinLaw -/
def k1 : Class := { plain "com/example/waymarshal/waymarshal/ranks/WindowSumPinLaw" (some 0) with
  accessFlags := 49
  interfaces := #[]
  cf := some (fileOf pool1 9 #[] #[{ accessFlags := 1, nameIndex := 5, descriptorIndex := 6, attributes := #[] }, { accessFlags := 10, nameIndex := 12, descriptorIndex := 13, attributes := #[] }, { accessFlags := 9, nameIndex := 26, descriptorIndex := 27, attributes := #[] }] 49 2 #[] #[])
  fields := #[]
  methods := #[k1m0, k1m1, k1m2]
  instanceTypes := #[]
  staticTypes := #[]
  resolved := Array.replicate 36 none
  statics := none }

def pool2 : Array CpInfo := pool [(1, .methodref 2 3), (0, .class_ 4), (0, .nameAndType 5 6), (0, u "java/lang/Object"), (0, u "<init>"), (0, u "()V"), (0, .class_ 8), (0, u "java/lang/Record")] 13

def k2c0 : Code := { maxStack := 1, maxLocals := 1, code := jdk_30_method_1_code, exceptionTable := #[], attributes := #[] }
def k2m0 : Method := { name := "<init>", desc := "()V", sig := { parameters := [], returnType := none }, accessFlags := 4, code := some k2c0 }
/-- java/lang/Record -/
def k2 : Class := { plain "java/lang/Record" (some 0) with
  accessFlags := 1057
  interfaces := #[]
  cf := some (fileOf pool2 7 #[] #[{ accessFlags := 4, nameIndex := 5, descriptorIndex := 6, attributes := #[] }] 1057 2 #[] #[])
  fields := #[]
  methods := #[k2m0]
  instanceTypes := #[]
  staticTypes := #[]
  resolved := Array.replicate 22 none
  statics := none }

def pool3 : Array CpInfo := pool [(1, .methodref 2 3), (0, .class_ 4), (0, .nameAndType 5 6), (0, u "java/lang/Record"), (0, u "<init>"), (0, u "()V"), (0, .fieldref 8 9), (0, .class_ 10), (0, .nameAndType 11 12), (0, u "com/example/waymarshal/waymarshal/ranks/Poisson$Window"), (0, u "first"), (0, u "J"), (0, .fieldref 8 14), (0, .nameAndType 15 16), (0, u "logScale"), (0, u "D"), (0, .fieldref 8 18), (0, .nameAndType 19 20), (0, u "terms"), (0, u "[D"), (8, u "sum"), (0, u "()D"), (12, u "(JD[D)V"), (14, .class_ 59), (0, u "com/example/waymarshal/waymarshal/ranks/Poisson")] 21

def k3c0 : Code := { maxStack := 3, maxLocals := 6, code := prog_40_method_1_code, exceptionTable := #[], attributes := #[] }
def k3m0 : Method := { name := "<init>", desc := "(JD[D)V", sig := { parameters := [.long, .double, (.array .double)], returnType := none }, accessFlags := 0, code := some k3c0 }
def k3c1 : Code := { maxStack := 4, maxLocals := 8, code := prog_40_method_3_code, exceptionTable := #[], attributes := #[] }
def k3m1 : Method := { name := "sum", desc := "()D", sig := { parameters := [], returnType := some .double }, accessFlags := 0, code := some k3c1 }
/-- com/example/waymarshal/waymarshal/ranks/Poisson$Window -/
def k3 : Class := { plain "com/example/waymarshal/waymarshal/ranks/Poisson$Window" (some 2) with
  accessFlags := 48
  interfaces := #[]
  cf := some (fileOf pool3 8 #[.nestHost 58] #[{ accessFlags := 0, nameIndex := 5, descriptorIndex := 43, attributes := #[] }, { accessFlags := 0, nameIndex := 29, descriptorIndex := 30, attributes := #[] }] 48 2 #[] #[{ accessFlags := 18, nameIndex := 11, descriptorIndex := 12, attributes := #[] }, { accessFlags := 18, nameIndex := 15, descriptorIndex := 16, attributes := #[] }, { accessFlags := 18, nameIndex := 19, descriptorIndex := 20, attributes := #[] }])
  fields := #[{ name := "first", type := .long, accessFlags := 18, slot := 0, constantValue := 0 }, { name := "logScale", type := .double, accessFlags := 18, slot := 1, constantValue := 0 }, { name := "terms", type := (.array .double), accessFlags := 18, slot := 2, constantValue := 0 }]
  methods := #[k3m0, k3m1]
  instanceTypes := #[.long, .double, (.array .double)]
  staticTypes := #[]
  resolved := Array.replicate 81 none
  statics := none }

def pool4 : Array CpInfo := pool [(1, u "java/lang/Cloneable"), (0, .class_ 1), (0, u "java/lang/Object"), (0, .class_ 3)] 3

/-- java/lang/Cloneable -/
def k4 : Class := { plain "java/lang/Cloneable" (some 0) with
  accessFlags := 1537
  interfaces := #[]
  cf := some (fileOf pool4 2 #[] #[] 1537 4 #[] #[])
  fields := #[]
  methods := #[]
  instanceTypes := #[]
  staticTypes := #[]
  resolved := Array.replicate 8 none
  statics := none }

def pool5 : Array CpInfo := pool [(1, u "java/io/Serializable"), (0, .class_ 1), (0, u "java/lang/Object"), (0, .class_ 3)] 3

/-- java/io/Serializable -/
def k5 : Class := { plain "java/io/Serializable" (some 0) with
  accessFlags := 1537
  interfaces := #[]
  cf := some (fileOf pool5 2 #[] #[] 1537 4 #[] #[])
  fields := #[]
  methods := #[]
  instanceTypes := #[]
  staticTypes := #[]
  resolved := Array.replicate 8 none
  statics := none }

/-- the primitive byte -/
def k6 : Class := { plain "byte" none with kind := .primitive 'B', accessFlags := 0x411 }
/-- [B -/
def k7 : Class := { plain "[B" (some 0) with kind := .array 6 .byte, interfaces := #[4, 5], accessFlags := 1041 }

/-- the primitive int -/
def k8 : Class := { plain "int" none with kind := .primitive 'I', accessFlags := 0x411 }
/-- [I -/
def k9 : Class := { plain "[I" (some 0) with kind := .array 8 .int, interfaces := #[4, 5], accessFlags := 1041 }

/-- the primitive double -/
def k10 : Class := { plain "double" none with kind := .primitive 'D', accessFlags := 0x411 }
/-- [D -/
def k11 : Class := { plain "[D" (some 0) with kind := .array 10 .double, interfaces := #[4, 5], accessFlags := 1041 }

def heap : Heap := #[]
def classes : Array Class := #[k0, k1, k2, k3, k4, k5, k6, k7, k8, k9, k10, k11]
def interned : List (Array UInt16 × Addr) := []
def slotsUsed : Nat := 0
def theMethod : MethodId := ⟨1, 2⟩
def args0 : Array Value := #[.int 5, .int 7, .int 1, .int 0, .int 3, .long 9]
def aboutOver (below : List Frame) : State where
  vm := { classes := classes, interned := interned.toArray }
  heap := heap
  slotsUsed := slotsUsed
  threads := #[{ frames := .invoking theMethod args0 :: below }]
def below0 : List Frame := [.native { method := ⟨0, 0⟩, args := #[] }]
def about1 : State := aboutOver below0
def p0 : Program := .bare "" "" ""
def e0 : Env := launch0.env 0 0 0
theorem w_frames : about1.frames = Frame.invoking theMethod args0 :: below0 := rfl
set_option maxRecDepth 65536 in
theorem w_args : argsFit about1.vm theMethod args0 = true := by decide +kernel
set_option maxRecDepth 65536 in
theorem w_heap : heapFits about1 = true := by decide +kernel
set_option maxRecDepth 65536 in
theorem w_runnable : about1.curStatus? = some .runnable := by decide +kernel
set_option maxRecDepth 65536 in
theorem w_alone : about1.alone = true := by decide +kernel
set_option maxRecDepth 65536 in
theorem w_named : about1.methodNamed? x = some theMethod := by decide +kernel
set_option maxRecDepth 65536 in
theorem w_hears : about1.hears theMethod below0 = true := by decide +kernel
set_option maxRecDepth 65536 in
theorem w_ripe : about1.ripe theMethod args0 below0 = true := by decide +kernel
theorem w_running : about1.status = .running := rfl
set_option maxRecDepth 65536 in
theorem w_room : about1.hasRoom e0.platform room_1 = true :=
  launch0.hasRoom_least _ room_1 (by decide +kernel) (by decide +kernel) (by decide +kernel) (by decide +kernel) (by decide +kernel) (by decide +kernel)
theorem allAtoms_all (ts : List Jvm.Cond) (a : Array Jvm.Value) (st : Jvm.State) : (allAtoms ts).before a st = ts.all (fun c => c.before a st) := by
  induction ts with
  | nil => rfl
  | cons c t ih =>
    show (Jvm.Cond.and c (allAtoms t)).before a st = _
    rw [Jvm.Cond.before_and, ih, List.all_cons]
def words1 : List Jvm.Cond := Jvm.Cond.code x code maxLocals ret :: tables_1
/-- a 'code' word, met by the world's own term for the bytes: nothing is compared byte by byte -/
theorem code_word {y : MethodName} {bytes : ByteArray} {mx : Nat} {rt : Option FieldType} {a : Array Value} {s : State} {m : MethodId} {meth : Method} {c : Code} (h1 : s.methodNamed? y = some m) (h2 : s.vm.method? m = some meth) (h3 : meth.code = some c) (h4 : c.code = bytes)
    (h5 : (c.maxLocals == mx && c.exceptionTable.isEmpty && decide (c.maxStack ≤ mostOperands) && decide (meth.sig.returnType = rt) && !meth.locks && decide (parseMethodDescriptor y.desc = some meth.sig)) = true) : (Jvm.Cond.code y bytes mx rt).before a s = true := by
  simp only [Bool.and_eq_true, beq_iff_eq, Bool.not_eq_true', decide_eq_true_eq] at h5
  obtain ⟨⟨⟨⟨⟨g1, g2⟩, g3⟩, g4⟩, g5⟩, g6⟩ := h5
  simp [Cond.before, Cond.holds, Cond.value, h1, h2, h3, h4, g1, g2, g3, g4, g5, g6]
def isCode : Jvm.Cond → Bool
  | .code _ _ _ _ => true
  | _ => false
theorem all_split {L : List Jvm.Cond} {P : Jvm.Cond → Bool} (h1 : L.all (fun c => isCode c || P c) = true) (h2 : ∀ c ∈ L.filter isCode, P c = true) : L.all P = true := by
  refine List.all_eq_true.mpr fun c hc => ?_
  have h := List.all_eq_true.mp h1 c hc
  rcases Bool.eq_false_or_eq_true (isCode c) with hi | hi
  · exact h2 c (List.mem_filter.mpr ⟨hc, hi⟩)
  · simpa [hi] using h
set_option maxRecDepth 65536 in
theorem w_c0 : (Jvm.Cond.code x code maxLocals ret).before args0 about1 = true := code_word (m := ⟨1, 2⟩) (meth := k1m2) (c := k1c2) (by decide +kernel) rfl rfl rfl (by decide +kernel)
set_option maxRecDepth 65536 in
theorem w_c1 : (Jvm.Cond.code ({ cls := "com/example/waymarshal/waymarshal/ranks/WindowSumPinLaw", name := "make", desc := "(IIIII)[D" } : Jvm.MethodName) method_2_code (5 : Nat) (Option.some (Jvm.ClassFile.FieldType.array Jvm.ClassFile.FieldType.double))).before args0 about1 = true := code_word (m := ⟨1, 1⟩) (meth := k1m1) (c := k1c1) (by decide +kernel) rfl rfl rfl (by decide +kernel)
set_option maxRecDepth 65536 in
theorem w_c2 : (Jvm.Cond.code ({ cls := "com/example/waymarshal/waymarshal/ranks/Poisson$Window", name := "<init>", desc := "(JD[D)V" } : Jvm.MethodName) prog_40_method_1_code (6 : Nat) (Option.none : Option Jvm.ClassFile.FieldType)).before args0 about1 = true := code_word (m := ⟨3, 0⟩) (meth := k3m0) (c := k3c0) (by decide +kernel) rfl rfl rfl (by decide +kernel)
set_option maxRecDepth 65536 in
theorem w_c3 : (Jvm.Cond.code ({ cls := "java/lang/Record", name := "<init>", desc := "()V" } : Jvm.MethodName) jdk_30_method_1_code (1 : Nat) (Option.none : Option Jvm.ClassFile.FieldType)).before args0 about1 = true := code_word (m := ⟨2, 0⟩) (meth := k2m0) (c := k2c0) (by decide +kernel) rfl rfl rfl (by decide +kernel)
set_option maxRecDepth 65536 in
theorem w_c4 : (Jvm.Cond.code ({ cls := "java/lang/Object", name := "<init>", desc := "()V" } : Jvm.MethodName) object_method_1_code (1 : Nat) (Option.none : Option Jvm.ClassFile.FieldType)).before args0 about1 = true := code_word (m := ⟨0, 0⟩) (meth := k0m0) (c := k0c0) (by decide +kernel) rfl rfl rfl (by decide +kernel)
set_option maxRecDepth 65536 in
theorem w_c5 : (Jvm.Cond.code ({ cls := "com/example/waymarshal/waymarshal/ranks/Poisson$Window", name := "sum", desc := "()D" } : Jvm.MethodName) prog_40_method_3_code (8 : Nat) (Option.some Jvm.ClassFile.FieldType.double)).before args0 about1 = true := code_word (m := ⟨3, 1⟩) (meth := k3m1) (c := k3c1) (by decide +kernel) rfl rfl rfl (by decide +kernel)
def codes1 : List Jvm.Cond := [Jvm.Cond.code x code maxLocals ret, Jvm.Cond.code ({ cls := "com/example/waymarshal/waymarshal/ranks/WindowSumPinLaw", name := "make", desc := "(IIIII)[D" } : Jvm.MethodName) method_2_code (5 : Nat) (Option.some (Jvm.ClassFile.FieldType.array Jvm.ClassFile.FieldType.double)), Jvm.Cond.code ({ cls := "com/example/waymarshal/waymarshal/ranks/Poisson$Window", name := "<init>", desc := "(JD[D)V" } : Jvm.MethodName) prog_40_method_1_code (6 : Nat) (Option.none : Option Jvm.ClassFile.FieldType), Jvm.Cond.code ({ cls := "java/lang/Record", name := "<init>", desc := "()V" } : Jvm.MethodName) jdk_30_method_1_code (1 : Nat) (Option.none : Option Jvm.ClassFile.FieldType), Jvm.Cond.code ({ cls := "java/lang/Object", name := "<init>", desc := "()V" } : Jvm.MethodName) object_method_1_code (1 : Nat) (Option.none : Option Jvm.ClassFile.FieldType), Jvm.Cond.code ({ cls := "com/example/waymarshal/waymarshal/ranks/Poisson$Window", name := "sum", desc := "()D" } : Jvm.MethodName) prog_40_method_3_code (8 : Nat) (Option.some Jvm.ClassFile.FieldType.double)]
set_option maxRecDepth 65536 in
theorem codes_eq : words1.filter isCode = codes1 := rfl
theorem w_codes : ∀ c ∈ words1.filter isCode, c.before args0 about1 = true := by
  rw [codes_eq]
  intro c hc
  simp only [codes1, List.mem_cons, List.not_mem_nil, or_false] at hc
  rcases hc with rfl | rfl | rfl | rfl | rfl | rfl
  · exact w_c0
  · exact w_c1
  · exact w_c2
  · exact w_c3
  · exact w_c4
  · exact w_c5
set_option maxRecDepth 65536 in
theorem w_t1 : (words1.take 24).all (fun c => isCode c || c.before args0 about1) = true := by decide +kernel
set_option maxRecDepth 65536 in
theorem w_t2 : (words1.drop 24).all (fun c => isCode c || c.before args0 about1) = true := by decide +kernel
theorem w_tables : (allAtoms (Jvm.Cond.code x code maxLocals ret :: tables_1)).before args0 about1 = true := by
  rw [allAtoms_all]
  show words1.all (fun c => c.before args0 about1) = true
  refine all_split ?_ w_codes
  rw [← List.take_append_drop 24 words1, List.all_append, w_t1, w_t2]
  rfl
set_option maxRecDepth 65536 in
theorem w_case : (Jvm.Cond.and given_1 narrow_1).before args0 about1 = true := by decide +kernel
theorem w_applies : (headSpec (Jvm.Cond.code x code maxLocals ret :: tables_1) room_1).applies x e0.platform about1 = true :=
  (Spec.applies_iff w_frames).mpr ⟨w_running, w_runnable, w_alone, w_named, w_hears, w_ripe, w_room, w_tables⟩
theorem atStart : AtStart classFile x code maxLocals ret World_1 tables_1 room_1 Calls_1 rest_1 Pre_1 launch0 p0 e0 about1 theMethod args0 below0 :=
  ⟨lists_1, trivial, launch0.admits_env _ _ _, launch0.least_env, fairChoices_fair.cas, fairChoices_fair.clock, w_frames, w_args, w_heap, w_applies, trivial, trivial, w_case⟩
end start1
theorem witness_1 : WitnessClaimed_1 := ⟨start1.p0, start1.e0, start1.about1, start1.theMethod, start1.args0, start1.below0, start1.atStart⟩
end Jvm.Pilot.@@N@@
