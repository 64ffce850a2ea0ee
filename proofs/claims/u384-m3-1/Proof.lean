import JvmDerived
import JvmDerived.Pilot.@@N@@Statement
import JvmDerived.Pilot.@@N@@Code
set_option linter.unusedVariables false
set_option linter.unusedSimpArgs false
namespace Jvm.Pilot.@@N@@
open Jvm Jvm.ClassFile Sem Op Lib Jvm.Free Jvm.Stand Jvm.LawKit Jvm.RoadKit Bundle Jvm.Pilot.@@N@@.Jvm.D
/-! ## the common layer: a run that comes to an end of which Q speaks, step by step backwards -/
def Go (p : Program) (e : Env) (below : List Frame) (Q : Outcome → State → Prop) (S : State) : Prop :=
  ∃ s₂ o, Steps p.tables e below S s₂ ∧ s₂.status = .running ∧ Ended s₂ below o ∧ Q o s₂
theorem Go.back {p : Program} {e : Env} {below : List Frame} {Q : Outcome → State → Prop} {A B : State} (k : ∀ t, Steps p.tables e below B t → Steps p.tables e below A t) (h : Go p e below Q B) : Go p e below Q A := by
  obtain ⟨t, o, h1, h2⟩ := h
  exact ⟨t, o, k _ h1, h2⟩
theorem Go.cast {p : Program} {e : Env} {below : List Frame} {Q : Outcome → State → Prop} {A B : State} (k : A = B) (h : Go p e below Q B) : Go p e below Q A := k ▸ h
abbrev jv (x : Int64) : Slot := .val (.long x)
abbrev dv (x : UInt64) : Slot := .val (.double x)
abbrev un : Slot := .unset
abbrev sc : Slot := .second
/-- what a body knows of itself -/
def Cx (p : Program) (s : State) (m : MethodId) (meth : Method) (c : Code) (Z : State) (a0 : Array Value) (own : String) (bytes : ByteArray) (maxL : Nat) (ret : Option FieldType) (nm : String) : Prop :=
  p.tables.exec = Jvm.exec ∧ Z.Warmed39 s.vm ∧ (∀ d ∈ tables_1, d.before a0 Z = true) ∧ s.vm.findClass own = some m.cls ∧ c.code = bytes ∧ c.maxLocals = maxL ∧ meth.sig.returnType = ret ∧ meth.locks = false ∧ meth.name = nm
/-- where the run stands: heap h; every write so far lies at or above n0; k cells and n slots made at the most -/
def St (Z : State) (p : Program) (l : Launch) (e : Env) (R : Room) (s : State) (m : MethodId) (args : Array Value) (below : List Frame) (meth : Method) (c : Code) (n0 : Nat) (T : State) (h : Heap) (k n : Nat) : Prop :=
  ∃ locs, Stand p l e R s m args below meth c T locs k n ∧ Fr n0 locs ∧ Old Z n0 s.heap ∧ T.heap = h
def FinQ (s : State) (k n n0 : Nat) (Q : Option Value → Heap → Prop) (o : Outcome) (t : State) : Prop := ∃ v L, o = .returned v ∧ (Fr n0 L ∧ Q v t.heap) ∧ FrameEnd s o t L k n
/-- a body's contract -/
def Con (l : Launch) (Z : State) (y : MethodName) (bytes : ByteArray) (maxL : Nat) (ret : Option FieldType) (rm : Room) (as' : Array Value) (h : Heap) (n0 : Nat) (Q : Option Value → Heap → Prop) : Prop :=
  ∀ ws, MetFree l y (head1 (Jvm.Cond.code y bytes maxL ret :: ws) rm) (fun a U => a = as' ∧ Z.Warmed39 U.vm ∧ U.heap = h) (fun _ _ _ _ _ => True) (fun _ U o U' => ∃ v L, o = .returned v ∧ (Fr n0 L ∧ Q v U'.heap) ∧ FrameEnd U o U' L rm.cells rm.slots)
theorem con_of {l : Launch} {Z : State} {a0 : Array Value} {y : MethodName} {bytes : ByteArray} {maxL : Nat} {ret : Option FieldType} {rm : Room} {as' : Array Value} {h : Heap} {n0 : Nat} {Q : Option Value → Heap → Prop}
    (hw : ∀ d ∈ tables_1, d.before a0 Z = true) (hpl : plainFor y = true) (hn0 : Old Z n0 h)
    (body : ∀ p e s m below meth c T, Cx p s m meth c Z a0 y.cls bytes maxL ret y.name → St Z p l e rm s m as' below meth c n0 T h 0 0 → Go p e below (FinQ s rm.cells rm.slots n0 Q) (T.setTop (entryFrame m as' maxL))) :
    Con l Z y bytes maxL ret rm as' h n0 Q := by
  intro ws
  refine MetFree.of_bodySF hpl hisR ?_
  intro p e s m args below meth c s₁ Bd hml0 hP hK
  obtain ⟨rfl, hZ, hh⟩ := hP
  have e0 : s₁.heap = h := by rw [← hh, Bd.state]; rfl
  exact body p e s m below meth c s₁ ⟨Bd.exec, hZ, hw, findClass_of_methodNamed Bd.named, Bd.bytes, hml0, Bd.returns, Bd.notSynchronized, (name_of_methodNamed Bd.named Bd.method).1⟩ ⟨[], Stand.of_body Bd, Fr.nil n0, by rw [hh]; exact hn0, e0⟩
section Steps1
variable {p : Program} {l : Launch} {e : Env} {R : Room} {s : State} {m : MethodId} {args : Array Value} {below : List Frame} {meth : Method} {c : Code} {Z : State} {a0 : Array Value} {own : String} {bytes : ByteArray} {maxL : Nat} {ret : Option FieldType} {nm : String} {n0 : Nat} {T : State} {h : Heap} {k n : Nat} {Q : Outcome → State → Prop} {pc pc' pc2 : Nat} {Ls Ls' : Array Slot} {st : List Value}
theorem Cx.w (C : Cx p s m meth c Z a0 own bytes maxL ret nm) (i : Nat) {d : Jvm.Cond} (hd : tables_1[i]? = some d) : d.before a0 Z = true := C.2.2.1 _ (List.mem_of_getElem? hd)
theorem Cx.ws (C : Cx p s m meth c Z a0 own bytes maxL ret nm) : ∀ d ∈ tables_1, d.before a0 Z = true := C.2.2.1
theorem Cx.cd (C : Cx p s m meth c Z a0 own bytes maxL ret nm) {r : Except ClassFile.DecodeError (ClassFile.Instr × Nat)} (h2 : decode bytes pc = r) : decode c.code pc = r := hb C.2.2.2.2.1 h2
theorem Cx.ow (C : Cx p s m meth c Z a0 own bytes maxL ret nm) : s.vm.findClass own = some m.cls := C.2.2.2.1
theorem Cx.hZ (C : Cx p s m meth c Z a0 own bytes maxL ret nm) : Z.Warmed39 s.vm := C.2.1
theorem Cx.ml (C : Cx p s m meth c Z a0 own bytes maxL ret nm) : c.maxLocals = maxL := C.2.2.2.2.2.1
theorem Cx.rt (C : Cx p s m meth c Z a0 own bytes maxL ret nm) : meth.sig.returnType = ret := C.2.2.2.2.2.2.1
theorem Cx.lk (C : Cx p s m meth c Z a0 own bytes maxL ret nm) : meth.locks = false := C.2.2.2.2.2.2.2.1
theorem Cx.nmE (C : Cx p s m meth c Z a0 own bytes maxL ret nm) : meth.name = nm := C.2.2.2.2.2.2.2.2
theorem St.sz (X : St Z p l e R s m args below meth c n0 T h k n) : n0 ≤ h.size := by obtain ⟨_, Y, _, q, rfl⟩ := X; exact Nat.le_trans (Nat.le_trans (Nat.le_of_eq q.1.symm) q.2.1) Y.same.2.1
theorem St.old (X : St Z p l e R s m args below meth c n0 T h k n) : Old Z n0 h := by
  obtain ⟨locs, Y, N, o, rfl⟩ := X
  refine ⟨o.1, Nat.le_trans o.2.1 Y.same.2.1, fun a ce hc => ?_⟩
  obtain ⟨c', e1, e2, e3, e4⟩ := Y.same.2.2.2.2.2 a ce (o.2.2 a ce hc)
  have lt := (Array.getElem?_eq_some_iff.mp hc).1
  have hs : c'.slots = ce.slots := Array.ext_getElem? fun i => e4 i fun q => by have := N _ q; have := o.1; simp at *; omega
  rw [hs] at e2
  exact (show c' = ce from e2) ▸ e1
theorem St.more (X : St Z p l e R s m args below meth c n0 T h k n) {k' n' : Nat} (hk : k ≤ k') (hn : n ≤ n') : St Z p l e R s m args below meth c n0 T h k' n' := by
  obtain ⟨locs, Y, r⟩ := X
  exact ⟨locs, Y.more hk hn, r⟩

theorem go_iload (C : Cx p s m meth c Z a0 own bytes maxL ret nm) (X : St Z p l e R s m args below meth c n0 T h k n) {i : Nat} {v : Int32} (pc' : Nat) (hp : pc + 2 = pc') (hd : decode bytes pc = .ok (.iload i, 2)) (hl : Ls[i]? = some (.val (.int v))) (hr : Go p e below Q (T.setTop (mkF m pc' Ls (.int v :: st)))) : Go p e below Q (T.setTop (mkF m pc Ls st)) := by
  subst hp
  obtain ⟨locs, Y, -, -, -⟩ := X
  exact Go.back (fun t kt => Jvm.Free.XS.iload Y.here C.1 rfl (C.cd hd) hl kt) hr
theorem go_iloadN (C : Cx p s m meth c Z a0 own bytes maxL ret nm) (X : St Z p l e R s m args below meth c n0 T h k n) {i : Fin 4} {v : Int32} (pc' : Nat) (hp : pc + 1 = pc') (hd : decode bytes pc = .ok (.iload_n i, 1)) (hl : Ls[i.val]? = some (.val (.int v))) (hr : Go p e below Q (T.setTop (mkF m pc' Ls (.int v :: st)))) : Go p e below Q (T.setTop (mkF m pc Ls st)) := by
  subst hp
  obtain ⟨locs, Y, -, -, -⟩ := X
  exact Go.back (fun t kt => Jvm.Free.XS.iloadN Y.here C.1 rfl (C.cd hd) hl kt) hr
theorem go_istore (C : Cx p s m meth c Z a0 own bytes maxL ret nm) (X : St Z p l e R s m args below meth c n0 T h k n) {i : Nat} {v : Int32} (pc' : Nat) (hp : pc + 2 = pc') (hd : decode bytes pc = .ok (.istore i, 2)) (Ls' : Array Slot) (hl : storeLocals Ls i (.int v) = some Ls') (hr : Go p e below Q (T.setTop (mkF m pc' Ls' st))) : Go p e below Q (T.setTop (mkF m pc Ls (.int v :: st))) := by
  subst hp
  obtain ⟨locs, Y, -, -, -⟩ := X
  exact Go.back (fun t kt => Jvm.Free.XS.istore Y.here C.1 rfl (C.cd hd) rfl hl kt) hr
theorem go_istoreN (C : Cx p s m meth c Z a0 own bytes maxL ret nm) (X : St Z p l e R s m args below meth c n0 T h k n) {i : Fin 4} {v : Int32} (pc' : Nat) (hp : pc + 1 = pc') (hd : decode bytes pc = .ok (.istore_n i, 1)) (Ls' : Array Slot) (hl : storeLocals Ls i.val (.int v) = some Ls') (hr : Go p e below Q (T.setTop (mkF m pc' Ls' st))) : Go p e below Q (T.setTop (mkF m pc Ls (.int v :: st))) := by
  subst hp
  obtain ⟨locs, Y, -, -, -⟩ := X
  exact Go.back (fun t kt => Jvm.Free.XS.istoreN Y.here C.1 rfl (C.cd hd) rfl hl kt) hr
theorem go_lload (C : Cx p s m meth c Z a0 own bytes maxL ret nm) (X : St Z p l e R s m args below meth c n0 T h k n) {i : Nat} {v : Int64} (pc' : Nat) (hp : pc + 2 = pc') (hd : decode bytes pc = .ok (.lload i, 2)) (hl : Ls[i]? = some (.val (.long v))) (hr : Go p e below Q (T.setTop (mkF m pc' Ls (.long v :: st)))) : Go p e below Q (T.setTop (mkF m pc Ls st)) := by
  subst hp
  obtain ⟨locs, Y, -, -, -⟩ := X
  exact Go.back (fun t kt => Jvm.Free.XS.lload Y.here C.1 rfl (C.cd hd) hl kt) hr
theorem go_lloadN (C : Cx p s m meth c Z a0 own bytes maxL ret nm) (X : St Z p l e R s m args below meth c n0 T h k n) {i : Fin 4} {v : Int64} (pc' : Nat) (hp : pc + 1 = pc') (hd : decode bytes pc = .ok (.lload_n i, 1)) (hl : Ls[i.val]? = some (.val (.long v))) (hr : Go p e below Q (T.setTop (mkF m pc' Ls (.long v :: st)))) : Go p e below Q (T.setTop (mkF m pc Ls st)) := by
  subst hp
  obtain ⟨locs, Y, -, -, -⟩ := X
  exact Go.back (fun t kt => Jvm.Free.XS.lloadN Y.here C.1 rfl (C.cd hd) hl kt) hr
theorem go_lstore (C : Cx p s m meth c Z a0 own bytes maxL ret nm) (X : St Z p l e R s m args below meth c n0 T h k n) {i : Nat} {v : Int64} (pc' : Nat) (hp : pc + 2 = pc') (hd : decode bytes pc = .ok (.lstore i, 2)) (Ls' : Array Slot) (hl : storeLocals Ls i (.long v) = some Ls') (hr : Go p e below Q (T.setTop (mkF m pc' Ls' st))) : Go p e below Q (T.setTop (mkF m pc Ls (.long v :: st))) := by
  subst hp
  obtain ⟨locs, Y, -, -, -⟩ := X
  exact Go.back (fun t kt => Jvm.Free.XS.lstore Y.here C.1 rfl (C.cd hd) rfl hl kt) hr
theorem go_lstoreN (C : Cx p s m meth c Z a0 own bytes maxL ret nm) (X : St Z p l e R s m args below meth c n0 T h k n) {i : Fin 4} {v : Int64} (pc' : Nat) (hp : pc + 1 = pc') (hd : decode bytes pc = .ok (.lstore_n i, 1)) (Ls' : Array Slot) (hl : storeLocals Ls i.val (.long v) = some Ls') (hr : Go p e below Q (T.setTop (mkF m pc' Ls' st))) : Go p e below Q (T.setTop (mkF m pc Ls (.long v :: st))) := by
  subst hp
  obtain ⟨locs, Y, -, -, -⟩ := X
  exact Go.back (fun t kt => Jvm.Free.XS.lstoreN Y.here C.1 rfl (C.cd hd) rfl hl kt) hr
theorem go_aload (C : Cx p s m meth c Z a0 own bytes maxL ret nm) (X : St Z p l e R s m args below meth c n0 T h k n) {i : Nat} {v : Value} (pc' : Nat) (hp : pc + 2 = pc') (hd : decode bytes pc = .ok (.aload i, 2)) (hl : Ls[i]? = some (.val v)) (hv : v.isRef = true) (hr : Go p e below Q (T.setTop (mkF m pc' Ls (v :: st)))) : Go p e below Q (T.setTop (mkF m pc Ls st)) := by
  subst hp
  obtain ⟨locs, Y, -, -, -⟩ := X
  exact Go.back (fun t kt => Jvm.Free.XS.aload Y.here C.1 rfl (C.cd hd) hl hv kt) hr
theorem go_aloadN (C : Cx p s m meth c Z a0 own bytes maxL ret nm) (X : St Z p l e R s m args below meth c n0 T h k n) {i : Fin 4} {v : Value} (pc' : Nat) (hp : pc + 1 = pc') (hd : decode bytes pc = .ok (.aload_n i, 1)) (hl : Ls[i.val]? = some (.val v)) (hv : v.isRef = true) (hr : Go p e below Q (T.setTop (mkF m pc' Ls (v :: st)))) : Go p e below Q (T.setTop (mkF m pc Ls st)) := by
  subst hp
  obtain ⟨locs, Y, -, -, -⟩ := X
  exact Go.back (fun t kt => Jvm.Free.XS.aloadN Y.here C.1 rfl (C.cd hd) hl hv kt) hr
theorem go_astore (C : Cx p s m meth c Z a0 own bytes maxL ret nm) (X : St Z p l e R s m args below meth c n0 T h k n) {i : Nat} {v : Value} (pc' : Nat) (hp : pc + 2 = pc') (hd : decode bytes pc = .ok (.astore i, 2)) (hv : v.isRef = true) (Ls' : Array Slot) (hl : storeLocals Ls i v = some Ls') (hr : Go p e below Q (T.setTop (mkF m pc' Ls' st))) : Go p e below Q (T.setTop (mkF m pc Ls (v :: st))) := by
  subst hp
  obtain ⟨locs, Y, -, -, -⟩ := X
  exact Go.back (fun t kt => Jvm.Free.XS.astore Y.here C.1 rfl (C.cd hd) rfl hv hl kt) hr
theorem go_astoreN (C : Cx p s m meth c Z a0 own bytes maxL ret nm) (X : St Z p l e R s m args below meth c n0 T h k n) {i : Fin 4} {v : Value} (pc' : Nat) (hp : pc + 1 = pc') (hd : decode bytes pc = .ok (.astore_n i, 1)) (hv : v.isRef = true) (Ls' : Array Slot) (hl : storeLocals Ls i.val v = some Ls') (hr : Go p e below Q (T.setTop (mkF m pc' Ls' st))) : Go p e below Q (T.setTop (mkF m pc Ls (v :: st))) := by
  subst hp
  obtain ⟨locs, Y, -, -, -⟩ := X
  exact Go.back (fun t kt => Jvm.Free.XS.astoreN Y.here C.1 rfl (C.cd hd) rfl hv hl kt) hr
theorem go_iconst (C : Cx p s m meth c Z a0 own bytes maxL ret nm) (X : St Z p l e R s m args below meth c n0 T h k n) {i : Int} {z : Int32} (pc' : Nat) (hp : pc + 1 = pc') (hd : decode bytes pc = .ok (.iconst i, 1)) (hz : Int32.ofInt i = z) (hr : Go p e below Q (T.setTop (mkF m pc' Ls (.int z :: st)))) : Go p e below Q (T.setTop (mkF m pc Ls st)) := by
  subst hp
  obtain ⟨locs, Y, -, -, -⟩ := X
  exact Go.back (fun t kt => by subst hz; exact Jvm.Free.XS.iconst Y.here C.1 rfl (C.cd hd) kt) hr
theorem go_bipush (C : Cx p s m meth c Z a0 own bytes maxL ret nm) (X : St Z p l e R s m args below meth c n0 T h k n) {i : Int} {z : Int32} (pc' : Nat) (hp : pc + 2 = pc') (hd : decode bytes pc = .ok (.bipush i, 2)) (hz : (Int8.ofInt i).toInt32 = z) (hr : Go p e below Q (T.setTop (mkF m pc' Ls (.int z :: st)))) : Go p e below Q (T.setTop (mkF m pc Ls st)) := by
  subst hp
  obtain ⟨locs, Y, -, -, -⟩ := X
  exact Go.back (fun t kt => by subst hz; exact Jvm.Free.XS.bipush Y.here C.1 rfl (C.cd hd) kt) hr
theorem go_sipush (C : Cx p s m meth c Z a0 own bytes maxL ret nm) (X : St Z p l e R s m args below meth c n0 T h k n) {i : Int} {z : Int32} (pc' : Nat) (hp : pc + 3 = pc') (hd : decode bytes pc = .ok (.sipush i, 3)) (hz : (Int16.ofInt i).toInt32 = z) (hr : Go p e below Q (T.setTop (mkF m pc' Ls (.int z :: st)))) : Go p e below Q (T.setTop (mkF m pc Ls st)) := by
  subst hp
  obtain ⟨locs, Y, -, -, -⟩ := X
  exact Go.back (fun t kt => by subst hz; exact Jvm.Free.XS.sipush Y.here C.1 rfl (C.cd hd) kt) hr
theorem go_lconst (C : Cx p s m meth c Z a0 own bytes maxL ret nm) (X : St Z p l e R s m args below meth c n0 T h k n) {i : Fin 2} {z : Int64} (pc' : Nat) (hp : pc + 1 = pc') (hd : decode bytes pc = .ok (.lconst i, 1)) (hz : Int64.ofNat i = z) (hr : Go p e below Q (T.setTop (mkF m pc' Ls (.long z :: st)))) : Go p e below Q (T.setTop (mkF m pc Ls st)) := by
  subst hp
  obtain ⟨locs, Y, -, -, -⟩ := X
  exact Go.back (fun t kt => by subst hz; exact Jvm.Free.XS.lconst Y.here C.1 rfl (C.cd hd) kt) hr
theorem go_aconstNull (C : Cx p s m meth c Z a0 own bytes maxL ret nm) (X : St Z p l e R s m args below meth c n0 T h k n)  (pc' : Nat) (hp : pc + 1 = pc') (hd : decode bytes pc = .ok (.aconst_null, 1)) (hr : Go p e below Q (T.setTop (mkF m pc' Ls (.null :: st)))) : Go p e below Q (T.setTop (mkF m pc Ls st)) := by
  subst hp
  obtain ⟨locs, Y, -, -, -⟩ := X
  exact Go.back (fun t kt => Jvm.Free.XS.aconstNull Y.here C.1 rfl (C.cd hd) kt) hr
theorem go_iaddL (C : Cx p s m meth c Z a0 own bytes maxL ret nm) (X : St Z p l e R s m args below meth c n0 T h k n) {x y z : Int32} (pc' : Nat) (hp : pc + 1 = pc') (hd : decode bytes pc = .ok (.iadd, 1)) (hz : x + y = z) (hr : Go p e below Q (T.setTop (mkF m pc' Ls (.int z :: st)))) : Go p e below Q (T.setTop (mkF m pc Ls (.int y :: .int x :: st))) := by
  subst hp
  obtain ⟨locs, Y, -, -, -⟩ := X
  exact Go.back (fun t kt => by subst hz; exact Jvm.Free.XS.iadd Y.here C.1 rfl (C.cd hd) rfl kt) hr
theorem go_iadd (C : Cx p s m meth c Z a0 own bytes maxL ret nm) (X : St Z p l e R s m args below meth c n0 T h k n) {x y : Int32} (pc' : Nat) (hp : pc + 1 = pc') (hd : decode bytes pc = .ok (.iadd, 1)) (hr : Go p e below Q (T.setTop (mkF m pc' Ls (.int (x + y) :: st)))) : Go p e below Q (T.setTop (mkF m pc Ls (.int y :: .int x :: st))) := by
  subst hp
  obtain ⟨locs, Y, -, -, -⟩ := X
  exact Go.back (fun t kt => Jvm.Free.XS.iadd Y.here C.1 rfl (C.cd hd) rfl kt) hr
theorem go_isubL (C : Cx p s m meth c Z a0 own bytes maxL ret nm) (X : St Z p l e R s m args below meth c n0 T h k n) {x y z : Int32} (pc' : Nat) (hp : pc + 1 = pc') (hd : decode bytes pc = .ok (.isub, 1)) (hz : x - y = z) (hr : Go p e below Q (T.setTop (mkF m pc' Ls (.int z :: st)))) : Go p e below Q (T.setTop (mkF m pc Ls (.int y :: .int x :: st))) := by
  subst hp
  obtain ⟨locs, Y, -, -, -⟩ := X
  exact Go.back (fun t kt => by subst hz; exact Jvm.Free.XS.isub Y.here C.1 rfl (C.cd hd) rfl kt) hr
theorem go_isub (C : Cx p s m meth c Z a0 own bytes maxL ret nm) (X : St Z p l e R s m args below meth c n0 T h k n) {x y : Int32} (pc' : Nat) (hp : pc + 1 = pc') (hd : decode bytes pc = .ok (.isub, 1)) (hr : Go p e below Q (T.setTop (mkF m pc' Ls (.int (x - y) :: st)))) : Go p e below Q (T.setTop (mkF m pc Ls (.int y :: .int x :: st))) := by
  subst hp
  obtain ⟨locs, Y, -, -, -⟩ := X
  exact Go.back (fun t kt => Jvm.Free.XS.isub Y.here C.1 rfl (C.cd hd) rfl kt) hr
theorem go_imulL (C : Cx p s m meth c Z a0 own bytes maxL ret nm) (X : St Z p l e R s m args below meth c n0 T h k n) {x y z : Int32} (pc' : Nat) (hp : pc + 1 = pc') (hd : decode bytes pc = .ok (.imul, 1)) (hz : x * y = z) (hr : Go p e below Q (T.setTop (mkF m pc' Ls (.int z :: st)))) : Go p e below Q (T.setTop (mkF m pc Ls (.int y :: .int x :: st))) := by
  subst hp
  obtain ⟨locs, Y, -, -, -⟩ := X
  exact Go.back (fun t kt => by subst hz; exact Jvm.Free.XS.imul Y.here C.1 rfl (C.cd hd) rfl kt) hr
theorem go_imul (C : Cx p s m meth c Z a0 own bytes maxL ret nm) (X : St Z p l e R s m args below meth c n0 T h k n) {x y : Int32} (pc' : Nat) (hp : pc + 1 = pc') (hd : decode bytes pc = .ok (.imul, 1)) (hr : Go p e below Q (T.setTop (mkF m pc' Ls (.int (x * y) :: st)))) : Go p e below Q (T.setTop (mkF m pc Ls (.int y :: .int x :: st))) := by
  subst hp
  obtain ⟨locs, Y, -, -, -⟩ := X
  exact Go.back (fun t kt => Jvm.Free.XS.imul Y.here C.1 rfl (C.cd hd) rfl kt) hr
theorem go_iandL (C : Cx p s m meth c Z a0 own bytes maxL ret nm) (X : St Z p l e R s m args below meth c n0 T h k n) {x y z : Int32} (pc' : Nat) (hp : pc + 1 = pc') (hd : decode bytes pc = .ok (.iand, 1)) (hz : x &&& y = z) (hr : Go p e below Q (T.setTop (mkF m pc' Ls (.int z :: st)))) : Go p e below Q (T.setTop (mkF m pc Ls (.int y :: .int x :: st))) := by
  subst hp
  obtain ⟨locs, Y, -, -, -⟩ := X
  exact Go.back (fun t kt => by subst hz; exact Jvm.Free.XS.iand Y.here C.1 rfl (C.cd hd) rfl kt) hr
theorem go_iand (C : Cx p s m meth c Z a0 own bytes maxL ret nm) (X : St Z p l e R s m args below meth c n0 T h k n) {x y : Int32} (pc' : Nat) (hp : pc + 1 = pc') (hd : decode bytes pc = .ok (.iand, 1)) (hr : Go p e below Q (T.setTop (mkF m pc' Ls (.int (x &&& y) :: st)))) : Go p e below Q (T.setTop (mkF m pc Ls (.int y :: .int x :: st))) := by
  subst hp
  obtain ⟨locs, Y, -, -, -⟩ := X
  exact Go.back (fun t kt => Jvm.Free.XS.iand Y.here C.1 rfl (C.cd hd) rfl kt) hr
theorem go_iorL (C : Cx p s m meth c Z a0 own bytes maxL ret nm) (X : St Z p l e R s m args below meth c n0 T h k n) {x y z : Int32} (pc' : Nat) (hp : pc + 1 = pc') (hd : decode bytes pc = .ok (.ior, 1)) (hz : x ||| y = z) (hr : Go p e below Q (T.setTop (mkF m pc' Ls (.int z :: st)))) : Go p e below Q (T.setTop (mkF m pc Ls (.int y :: .int x :: st))) := by
  subst hp
  obtain ⟨locs, Y, -, -, -⟩ := X
  exact Go.back (fun t kt => by subst hz; exact Jvm.Free.XS.ior Y.here C.1 rfl (C.cd hd) rfl kt) hr
theorem go_ior (C : Cx p s m meth c Z a0 own bytes maxL ret nm) (X : St Z p l e R s m args below meth c n0 T h k n) {x y : Int32} (pc' : Nat) (hp : pc + 1 = pc') (hd : decode bytes pc = .ok (.ior, 1)) (hr : Go p e below Q (T.setTop (mkF m pc' Ls (.int (x ||| y) :: st)))) : Go p e below Q (T.setTop (mkF m pc Ls (.int y :: .int x :: st))) := by
  subst hp
  obtain ⟨locs, Y, -, -, -⟩ := X
  exact Go.back (fun t kt => Jvm.Free.XS.ior Y.here C.1 rfl (C.cd hd) rfl kt) hr
theorem go_ixorL (C : Cx p s m meth c Z a0 own bytes maxL ret nm) (X : St Z p l e R s m args below meth c n0 T h k n) {x y z : Int32} (pc' : Nat) (hp : pc + 1 = pc') (hd : decode bytes pc = .ok (.ixor, 1)) (hz : x ^^^ y = z) (hr : Go p e below Q (T.setTop (mkF m pc' Ls (.int z :: st)))) : Go p e below Q (T.setTop (mkF m pc Ls (.int y :: .int x :: st))) := by
  subst hp
  obtain ⟨locs, Y, -, -, -⟩ := X
  exact Go.back (fun t kt => by subst hz; exact Jvm.Free.XS.ixor Y.here C.1 rfl (C.cd hd) rfl kt) hr
theorem go_ixor (C : Cx p s m meth c Z a0 own bytes maxL ret nm) (X : St Z p l e R s m args below meth c n0 T h k n) {x y : Int32} (pc' : Nat) (hp : pc + 1 = pc') (hd : decode bytes pc = .ok (.ixor, 1)) (hr : Go p e below Q (T.setTop (mkF m pc' Ls (.int (x ^^^ y) :: st)))) : Go p e below Q (T.setTop (mkF m pc Ls (.int y :: .int x :: st))) := by
  subst hp
  obtain ⟨locs, Y, -, -, -⟩ := X
  exact Go.back (fun t kt => Jvm.Free.XS.ixor Y.here C.1 rfl (C.cd hd) rfl kt) hr
theorem go_idiv (C : Cx p s m meth c Z a0 own bytes maxL ret nm) (X : St Z p l e R s m args below meth c n0 T h k n) {x y : Int32} (pc' : Nat) (hp : pc + 1 = pc') (hd : decode bytes pc = .ok (.idiv, 1)) (hy : y ≠ 0) (hr : Go p e below Q (T.setTop (mkF m pc' Ls (.int (x / y) :: st)))) : Go p e below Q (T.setTop (mkF m pc Ls (.int y :: .int x :: st))) := by
  subst hp
  obtain ⟨locs, Y, -, -, -⟩ := X
  exact Go.back (fun t kt => Jvm.Free.XS.idiv Y.here C.1 rfl (C.cd hd) rfl hy kt) hr
theorem go_ineg (C : Cx p s m meth c Z a0 own bytes maxL ret nm) (X : St Z p l e R s m args below meth c n0 T h k n) {x : Int32} (pc' : Nat) (hp : pc + 1 = pc') (hd : decode bytes pc = .ok (.ineg, 1)) (hr : Go p e below Q (T.setTop (mkF m pc' Ls (.int (-x) :: st)))) : Go p e below Q (T.setTop (mkF m pc Ls (.int x :: st))) := by
  subst hp
  obtain ⟨locs, Y, -, -, -⟩ := X
  exact Go.back (fun t kt => Jvm.Free.XS.ineg Y.here C.1 rfl (C.cd hd) rfl kt) hr
theorem go_laddL (C : Cx p s m meth c Z a0 own bytes maxL ret nm) (X : St Z p l e R s m args below meth c n0 T h k n) {x y z : Int64} (pc' : Nat) (hp : pc + 1 = pc') (hd : decode bytes pc = .ok (.ladd, 1)) (hz : x + y = z) (hr : Go p e below Q (T.setTop (mkF m pc' Ls (.long z :: st)))) : Go p e below Q (T.setTop (mkF m pc Ls (.long y :: .long x :: st))) := by
  subst hp
  obtain ⟨locs, Y, -, -, -⟩ := X
  exact Go.back (fun t kt => by subst hz; exact Jvm.Free.XS.ladd Y.here C.1 rfl (C.cd hd) rfl kt) hr
theorem go_ladd (C : Cx p s m meth c Z a0 own bytes maxL ret nm) (X : St Z p l e R s m args below meth c n0 T h k n) {x y : Int64} (pc' : Nat) (hp : pc + 1 = pc') (hd : decode bytes pc = .ok (.ladd, 1)) (hr : Go p e below Q (T.setTop (mkF m pc' Ls (.long (x + y) :: st)))) : Go p e below Q (T.setTop (mkF m pc Ls (.long y :: .long x :: st))) := by
  subst hp
  obtain ⟨locs, Y, -, -, -⟩ := X
  exact Go.back (fun t kt => Jvm.Free.XS.ladd Y.here C.1 rfl (C.cd hd) rfl kt) hr
theorem go_lsubL (C : Cx p s m meth c Z a0 own bytes maxL ret nm) (X : St Z p l e R s m args below meth c n0 T h k n) {x y z : Int64} (pc' : Nat) (hp : pc + 1 = pc') (hd : decode bytes pc = .ok (.lsub, 1)) (hz : x - y = z) (hr : Go p e below Q (T.setTop (mkF m pc' Ls (.long z :: st)))) : Go p e below Q (T.setTop (mkF m pc Ls (.long y :: .long x :: st))) := by
  subst hp
  obtain ⟨locs, Y, -, -, -⟩ := X
  exact Go.back (fun t kt => by subst hz; exact Jvm.Free.XS.lsub Y.here C.1 rfl (C.cd hd) rfl kt) hr
theorem go_lsub (C : Cx p s m meth c Z a0 own bytes maxL ret nm) (X : St Z p l e R s m args below meth c n0 T h k n) {x y : Int64} (pc' : Nat) (hp : pc + 1 = pc') (hd : decode bytes pc = .ok (.lsub, 1)) (hr : Go p e below Q (T.setTop (mkF m pc' Ls (.long (x - y) :: st)))) : Go p e below Q (T.setTop (mkF m pc Ls (.long y :: .long x :: st))) := by
  subst hp
  obtain ⟨locs, Y, -, -, -⟩ := X
  exact Go.back (fun t kt => Jvm.Free.XS.lsub Y.here C.1 rfl (C.cd hd) rfl kt) hr
theorem go_lmulL (C : Cx p s m meth c Z a0 own bytes maxL ret nm) (X : St Z p l e R s m args below meth c n0 T h k n) {x y z : Int64} (pc' : Nat) (hp : pc + 1 = pc') (hd : decode bytes pc = .ok (.lmul, 1)) (hz : x * y = z) (hr : Go p e below Q (T.setTop (mkF m pc' Ls (.long z :: st)))) : Go p e below Q (T.setTop (mkF m pc Ls (.long y :: .long x :: st))) := by
  subst hp
  obtain ⟨locs, Y, -, -, -⟩ := X
  exact Go.back (fun t kt => by subst hz; exact Jvm.Free.XS.lmul Y.here C.1 rfl (C.cd hd) rfl kt) hr
theorem go_lmul (C : Cx p s m meth c Z a0 own bytes maxL ret nm) (X : St Z p l e R s m args below meth c n0 T h k n) {x y : Int64} (pc' : Nat) (hp : pc + 1 = pc') (hd : decode bytes pc = .ok (.lmul, 1)) (hr : Go p e below Q (T.setTop (mkF m pc' Ls (.long (x * y) :: st)))) : Go p e below Q (T.setTop (mkF m pc Ls (.long y :: .long x :: st))) := by
  subst hp
  obtain ⟨locs, Y, -, -, -⟩ := X
  exact Go.back (fun t kt => Jvm.Free.XS.lmul Y.here C.1 rfl (C.cd hd) rfl kt) hr
theorem go_landL (C : Cx p s m meth c Z a0 own bytes maxL ret nm) (X : St Z p l e R s m args below meth c n0 T h k n) {x y z : Int64} (pc' : Nat) (hp : pc + 1 = pc') (hd : decode bytes pc = .ok (.land, 1)) (hz : x &&& y = z) (hr : Go p e below Q (T.setTop (mkF m pc' Ls (.long z :: st)))) : Go p e below Q (T.setTop (mkF m pc Ls (.long y :: .long x :: st))) := by
  subst hp
  obtain ⟨locs, Y, -, -, -⟩ := X
  exact Go.back (fun t kt => by subst hz; exact Jvm.Free.XS.land Y.here C.1 rfl (C.cd hd) rfl kt) hr
theorem go_land (C : Cx p s m meth c Z a0 own bytes maxL ret nm) (X : St Z p l e R s m args below meth c n0 T h k n) {x y : Int64} (pc' : Nat) (hp : pc + 1 = pc') (hd : decode bytes pc = .ok (.land, 1)) (hr : Go p e below Q (T.setTop (mkF m pc' Ls (.long (x &&& y) :: st)))) : Go p e below Q (T.setTop (mkF m pc Ls (.long y :: .long x :: st))) := by
  subst hp
  obtain ⟨locs, Y, -, -, -⟩ := X
  exact Go.back (fun t kt => Jvm.Free.XS.land Y.here C.1 rfl (C.cd hd) rfl kt) hr
theorem go_lorL (C : Cx p s m meth c Z a0 own bytes maxL ret nm) (X : St Z p l e R s m args below meth c n0 T h k n) {x y z : Int64} (pc' : Nat) (hp : pc + 1 = pc') (hd : decode bytes pc = .ok (.lor, 1)) (hz : x ||| y = z) (hr : Go p e below Q (T.setTop (mkF m pc' Ls (.long z :: st)))) : Go p e below Q (T.setTop (mkF m pc Ls (.long y :: .long x :: st))) := by
  subst hp
  obtain ⟨locs, Y, -, -, -⟩ := X
  exact Go.back (fun t kt => by subst hz; exact Jvm.Free.XS.lor Y.here C.1 rfl (C.cd hd) rfl kt) hr
theorem go_lor (C : Cx p s m meth c Z a0 own bytes maxL ret nm) (X : St Z p l e R s m args below meth c n0 T h k n) {x y : Int64} (pc' : Nat) (hp : pc + 1 = pc') (hd : decode bytes pc = .ok (.lor, 1)) (hr : Go p e below Q (T.setTop (mkF m pc' Ls (.long (x ||| y) :: st)))) : Go p e below Q (T.setTop (mkF m pc Ls (.long y :: .long x :: st))) := by
  subst hp
  obtain ⟨locs, Y, -, -, -⟩ := X
  exact Go.back (fun t kt => Jvm.Free.XS.lor Y.here C.1 rfl (C.cd hd) rfl kt) hr
theorem go_lxorL (C : Cx p s m meth c Z a0 own bytes maxL ret nm) (X : St Z p l e R s m args below meth c n0 T h k n) {x y z : Int64} (pc' : Nat) (hp : pc + 1 = pc') (hd : decode bytes pc = .ok (.lxor, 1)) (hz : x ^^^ y = z) (hr : Go p e below Q (T.setTop (mkF m pc' Ls (.long z :: st)))) : Go p e below Q (T.setTop (mkF m pc Ls (.long y :: .long x :: st))) := by
  subst hp
  obtain ⟨locs, Y, -, -, -⟩ := X
  exact Go.back (fun t kt => by subst hz; exact Jvm.Free.XS.lxor Y.here C.1 rfl (C.cd hd) rfl kt) hr
theorem go_lxor (C : Cx p s m meth c Z a0 own bytes maxL ret nm) (X : St Z p l e R s m args below meth c n0 T h k n) {x y : Int64} (pc' : Nat) (hp : pc + 1 = pc') (hd : decode bytes pc = .ok (.lxor, 1)) (hr : Go p e below Q (T.setTop (mkF m pc' Ls (.long (x ^^^ y) :: st)))) : Go p e below Q (T.setTop (mkF m pc Ls (.long y :: .long x :: st))) := by
  subst hp
  obtain ⟨locs, Y, -, -, -⟩ := X
  exact Go.back (fun t kt => Jvm.Free.XS.lxor Y.here C.1 rfl (C.cd hd) rfl kt) hr
theorem go_ldiv (C : Cx p s m meth c Z a0 own bytes maxL ret nm) (X : St Z p l e R s m args below meth c n0 T h k n) {x y : Int64} (pc' : Nat) (hp : pc + 1 = pc') (hd : decode bytes pc = .ok (.ldiv, 1)) (hy : y ≠ 0) (hr : Go p e below Q (T.setTop (mkF m pc' Ls (.long (x / y) :: st)))) : Go p e below Q (T.setTop (mkF m pc Ls (.long y :: .long x :: st))) := by
  subst hp
  obtain ⟨locs, Y, -, -, -⟩ := X
  exact Go.back (fun t kt => Jvm.Free.XS.ldiv Y.here C.1 rfl (C.cd hd) rfl hy kt) hr
theorem go_lneg (C : Cx p s m meth c Z a0 own bytes maxL ret nm) (X : St Z p l e R s m args below meth c n0 T h k n) {x : Int64} (pc' : Nat) (hp : pc + 1 = pc') (hd : decode bytes pc = .ok (.lneg, 1)) (hr : Go p e below Q (T.setTop (mkF m pc' Ls (.long (-x) :: st)))) : Go p e below Q (T.setTop (mkF m pc Ls (.long x :: st))) := by
  subst hp
  obtain ⟨locs, Y, -, -, -⟩ := X
  exact Go.back (fun t kt => Jvm.Free.XS.lneg Y.here C.1 rfl (C.cd hd) rfl kt) hr
theorem go_irem (C : Cx p s m meth c Z a0 own bytes maxL ret nm) (X : St Z p l e R s m args below meth c n0 T h k n) {x y : Int32} (pc' : Nat) (hp : pc + 1 = pc') (hd : decode bytes pc = .ok (.irem, 1)) (hy : y ≠ 0) (hr : Go p e below Q (T.setTop (mkF m pc' Ls (.int (x % y) :: st)))) : Go p e below Q (T.setTop (mkF m pc Ls (.int y :: .int x :: st))) := by
  subst hp
  obtain ⟨locs, Y, -, -, -⟩ := X
  exact Go.back (fun t kt => iremM Y C.1 rfl (C.cd hd) rfl hy kt) hr
theorem go_lrem (C : Cx p s m meth c Z a0 own bytes maxL ret nm) (X : St Z p l e R s m args below meth c n0 T h k n) {x y : Int64} (pc' : Nat) (hp : pc + 1 = pc') (hd : decode bytes pc = .ok (.lrem, 1)) (hy : y ≠ 0) (hr : Go p e below Q (T.setTop (mkF m pc' Ls (.long (x % y) :: st)))) : Go p e below Q (T.setTop (mkF m pc Ls (.long y :: .long x :: st))) := by
  subst hp
  obtain ⟨locs, Y, -, -, -⟩ := X
  exact Go.back (fun t kt => by rw [← lrem_mod] at kt; exact Jvm.Free.XS.lrem Y.here C.1 rfl (C.cd hd) rfl hy kt) hr
theorem go_i2l (C : Cx p s m meth c Z a0 own bytes maxL ret nm) (X : St Z p l e R s m args below meth c n0 T h k n) {x : Int32} (pc' : Nat) (hp : pc + 1 = pc') (hd : decode bytes pc = .ok (.i2l, 1)) (hr : Go p e below Q (T.setTop (mkF m pc' Ls (.long (x.toInt64) :: st)))) : Go p e below Q (T.setTop (mkF m pc Ls (.int x :: st))) := by
  subst hp
  obtain ⟨locs, Y, -, -, -⟩ := X
  exact Go.back (fun t kt => Jvm.Free.XS.i2l Y.here C.1 rfl (C.cd hd) rfl kt) hr
theorem go_l2i (C : Cx p s m meth c Z a0 own bytes maxL ret nm) (X : St Z p l e R s m args below meth c n0 T h k n) {x : Int64} (pc' : Nat) (hp : pc + 1 = pc') (hd : decode bytes pc = .ok (.l2i, 1)) (hr : Go p e below Q (T.setTop (mkF m pc' Ls (.int (x.toInt32) :: st)))) : Go p e below Q (T.setTop (mkF m pc Ls (.long x :: st))) := by
  subst hp
  obtain ⟨locs, Y, -, -, -⟩ := X
  exact Go.back (fun t kt => Jvm.Free.XS.l2i Y.here C.1 rfl (C.cd hd) rfl kt) hr
theorem go_i2b (C : Cx p s m meth c Z a0 own bytes maxL ret nm) (X : St Z p l e R s m args below meth c n0 T h k n) {x : Int32} (pc' : Nat) (hp : pc + 1 = pc') (hd : decode bytes pc = .ok (.i2b, 1)) (hr : Go p e below Q (T.setTop (mkF m pc' Ls (.int (x.toInt8.toInt32) :: st)))) : Go p e below Q (T.setTop (mkF m pc Ls (.int x :: st))) := by
  subst hp
  obtain ⟨locs, Y, -, -, -⟩ := X
  exact Go.back (fun t kt => Jvm.Free.XS.i2b Y.here C.1 rfl (C.cd hd) rfl kt) hr
theorem go_i2s (C : Cx p s m meth c Z a0 own bytes maxL ret nm) (X : St Z p l e R s m args below meth c n0 T h k n) {x : Int32} (pc' : Nat) (hp : pc + 1 = pc') (hd : decode bytes pc = .ok (.i2s, 1)) (hr : Go p e below Q (T.setTop (mkF m pc' Ls (.int (x.toInt16.toInt32) :: st)))) : Go p e below Q (T.setTop (mkF m pc Ls (.int x :: st))) := by
  subst hp
  obtain ⟨locs, Y, -, -, -⟩ := X
  exact Go.back (fun t kt => Jvm.Free.XS.i2s Y.here C.1 rfl (C.cd hd) rfl kt) hr
theorem go_i2c (C : Cx p s m meth c Z a0 own bytes maxL ret nm) (X : St Z p l e R s m args below meth c n0 T h k n) {x : Int32} (pc' : Nat) (hp : pc + 1 = pc') (hd : decode bytes pc = .ok (.i2c, 1)) (hr : Go p e below Q (T.setTop (mkF m pc' Ls (.int (x.toUInt32.toUInt16.toUInt32.toInt32) :: st)))) : Go p e below Q (T.setTop (mkF m pc Ls (.int x :: st))) := by
  subst hp
  obtain ⟨locs, Y, -, -, -⟩ := X
  exact Go.back (fun t kt => Jvm.Free.XS.i2c Y.here C.1 rfl (C.cd hd) rfl kt) hr
theorem go_ishl (C : Cx p s m meth c Z a0 own bytes maxL ret nm) (X : St Z p l e R s m args below meth c n0 T h k n) {x : Int32} {y : Int32} (pc' : Nat) (hp : pc + 1 = pc') (hd : decode bytes pc = .ok (.ishl, 1)) (hr : Go p e below Q (T.setTop (mkF m pc' Ls (.int (x <<< (y &&& 31)) :: st)))) : Go p e below Q (T.setTop (mkF m pc Ls (.int y :: .int x :: st))) := by
  subst hp
  obtain ⟨locs, Y, -, -, -⟩ := X
  exact Go.back (fun t kt => Jvm.Free.XS.ishl Y.here C.1 rfl (C.cd hd) rfl kt) hr
theorem go_ishr (C : Cx p s m meth c Z a0 own bytes maxL ret nm) (X : St Z p l e R s m args below meth c n0 T h k n) {x : Int32} {y : Int32} (pc' : Nat) (hp : pc + 1 = pc') (hd : decode bytes pc = .ok (.ishr, 1)) (hr : Go p e below Q (T.setTop (mkF m pc' Ls (.int (x >>> (y &&& 31)) :: st)))) : Go p e below Q (T.setTop (mkF m pc Ls (.int y :: .int x :: st))) := by
  subst hp
  obtain ⟨locs, Y, -, -, -⟩ := X
  exact Go.back (fun t kt => Jvm.Free.XS.ishr Y.here C.1 rfl (C.cd hd) rfl kt) hr
theorem go_iushr (C : Cx p s m meth c Z a0 own bytes maxL ret nm) (X : St Z p l e R s m args below meth c n0 T h k n) {x : Int32} {y : Int32} (pc' : Nat) (hp : pc + 1 = pc') (hd : decode bytes pc = .ok (.iushr, 1)) (hr : Go p e below Q (T.setTop (mkF m pc' Ls (.int ((x.toUInt32 >>> (y &&& 31).toUInt32).toInt32) :: st)))) : Go p e below Q (T.setTop (mkF m pc Ls (.int y :: .int x :: st))) := by
  subst hp
  obtain ⟨locs, Y, -, -, -⟩ := X
  exact Go.back (fun t kt => Jvm.Free.XS.iushr Y.here C.1 rfl (C.cd hd) rfl kt) hr
theorem go_lshl (C : Cx p s m meth c Z a0 own bytes maxL ret nm) (X : St Z p l e R s m args below meth c n0 T h k n) {x : Int64} {y : Int32} (pc' : Nat) (hp : pc + 1 = pc') (hd : decode bytes pc = .ok (.lshl, 1)) (hr : Go p e below Q (T.setTop (mkF m pc' Ls (.long (x <<< (y &&& 0x3f).toInt64) :: st)))) : Go p e below Q (T.setTop (mkF m pc Ls (.int y :: .long x :: st))) := by
  subst hp
  obtain ⟨locs, Y, -, -, -⟩ := X
  exact Go.back (fun t kt => Jvm.Free.XS.lshl Y.here C.1 rfl (C.cd hd) rfl kt) hr
theorem go_lshr (C : Cx p s m meth c Z a0 own bytes maxL ret nm) (X : St Z p l e R s m args below meth c n0 T h k n) {x : Int64} {y : Int32} (pc' : Nat) (hp : pc + 1 = pc') (hd : decode bytes pc = .ok (.lshr, 1)) (hr : Go p e below Q (T.setTop (mkF m pc' Ls (.long (x >>> (y &&& 0x3f).toInt64) :: st)))) : Go p e below Q (T.setTop (mkF m pc Ls (.int y :: .long x :: st))) := by
  subst hp
  obtain ⟨locs, Y, -, -, -⟩ := X
  exact Go.back (fun t kt => Jvm.Free.XS.lshr Y.here C.1 rfl (C.cd hd) rfl kt) hr
theorem go_lushr (C : Cx p s m meth c Z a0 own bytes maxL ret nm) (X : St Z p l e R s m args below meth c n0 T h k n) {x : Int64} {y : Int32} (pc' : Nat) (hp : pc + 1 = pc') (hd : decode bytes pc = .ok (.lushr, 1)) (hr : Go p e below Q (T.setTop (mkF m pc' Ls (.long ((x.toUInt64 >>> (y &&& 0x3f).toInt64.toUInt64).toInt64) :: st)))) : Go p e below Q (T.setTop (mkF m pc Ls (.int y :: .long x :: st))) := by
  subst hp
  obtain ⟨locs, Y, -, -, -⟩ := X
  exact Go.back (fun t kt => Jvm.Free.XS.lushr Y.here C.1 rfl (C.cd hd) rfl kt) hr
theorem go_lcmp (C : Cx p s m meth c Z a0 own bytes maxL ret nm) (X : St Z p l e R s m args below meth c n0 T h k n) {x y : Int64} (pc' : Nat) (hp : pc + 1 = pc') (hd : decode bytes pc = .ok (.lcmp, 1)) (hr : Go p e below Q (T.setTop (mkF m pc' Ls (.int (lcmpW x y) :: st)))) : Go p e below Q (T.setTop (mkF m pc Ls (.long y :: .long x :: st))) := by
  subst hp
  obtain ⟨locs, Y, -, -, -⟩ := X
  exact Go.back (fun t kt => Jvm.Free.XS.lcmp Y.here C.1 rfl (C.cd hd) rfl kt) hr
theorem go_iinc (C : Cx p s m meth c Z a0 own bytes maxL ret nm) (X : St Z p l e R s m args below meth c n0 T h k n) {i : Nat} {cst : Int} {x z : Int32} (pc' : Nat) (hp : pc + 3 = pc') (hd : decode bytes pc = .ok (.iinc i cst, 3)) (hl : Ls[i]? = some (.val (.int x))) (hz : Int32.ofInt cst = z) (Ls' : Array Slot) (hl' : storeLocals Ls i (.int (x + z)) = some Ls') (hr : Go p e below Q (T.setTop (mkF m pc' Ls' st))) : Go p e below Q (T.setTop (mkF m pc Ls st)) := by
  subst hp
  obtain ⟨locs, Y, -, -, -⟩ := X
  exact Go.back (fun t kt => by subst hz; exact Jvm.Free.XS.iinc Y.here C.1 rfl (C.cd hd) hl hl' kt) hr
theorem go_dup (C : Cx p s m meth c Z a0 own bytes maxL ret nm) (X : St Z p l e R s m args below meth c n0 T h k n) {v : Value} (pc' : Nat) (hp : pc + 1 = pc') (hd : decode bytes pc = .ok (.dup, 1)) (hc : v.category = 1) (hr : Go p e below Q (T.setTop (mkF m pc' Ls (v :: v :: st)))) : Go p e below Q (T.setTop (mkF m pc Ls (v :: st))) := by
  subst hp
  obtain ⟨locs, Y, -, -, -⟩ := X
  exact Go.back (fun t kt => Jvm.Free.XS.dup Y.here C.1 rfl (C.cd hd) rfl hc kt) hr
theorem go_pop (C : Cx p s m meth c Z a0 own bytes maxL ret nm) (X : St Z p l e R s m args below meth c n0 T h k n) {v : Value} (pc' : Nat) (hp : pc + 1 = pc') (hd : decode bytes pc = .ok (.pop, 1)) (hc : v.category = 1) (hr : Go p e below Q (T.setTop (mkF m pc' Ls st))) : Go p e below Q (T.setTop (mkF m pc Ls (v :: st))) := by
  subst hp
  obtain ⟨locs, Y, -, -, -⟩ := X
  exact Go.back (fun t kt => Jvm.Free.XS.pop Y.here C.1 rfl (C.cd hd) rfl hc kt) hr
theorem go_dupX1 (C : Cx p s m meth c Z a0 own bytes maxL ret nm) (X : St Z p l e R s m args below meth c n0 T h k n) {v w : Value} (pc' : Nat) (hp : pc + 1 = pc') (hd : decode bytes pc = .ok (.dup_x1, 1)) (hc : v.category = 1) (hc2 : w.category = 1) (hr : Go p e below Q (T.setTop (mkF m pc' Ls (v :: w :: v :: st)))) : Go p e below Q (T.setTop (mkF m pc Ls (v :: w :: st))) := by
  subst hp
  obtain ⟨locs, Y, -, -, -⟩ := X
  exact Go.back (fun t kt => Jvm.Free.XS.dupX1 Y.here C.1 rfl (C.cd hd) rfl hc hc2 kt) hr
theorem go_dup2 (C : Cx p s m meth c Z a0 own bytes maxL ret nm) (X : St Z p l e R s m args below meth c n0 T h k n) {v w : Value} (pc' : Nat) (hp : pc + 1 = pc') (hd : decode bytes pc = .ok (.dup2, 1)) (hc : v.category = 1) (hc2 : w.category = 1) (hr : Go p e below Q (T.setTop (mkF m pc' Ls (v :: w :: v :: w :: st)))) : Go p e below Q (T.setTop (mkF m pc Ls (v :: w :: st))) := by
  subst hp
  obtain ⟨locs, Y, -, -, -⟩ := X
  refine Go.back (fun t kt => ?_) hr
  show Steps p.tables e below (T.setTop { method := m, pc := pc, locals := Ls, stack := v :: w :: st, locked := none }) _
  jvm_step Y.here [Y.here.top, C.1, C.cd hd, hc, hc2]
  exact kt
theorem go_goto (C : Cx p s m meth c Z a0 own bytes maxL ret nm) (X : St Z p l e R s m args below meth c n0 T h k n) {o : Int} (hd : decode bytes pc = .ok (.goto o, 3)) (ho : 0 ≤ (pc : Int) + o) (hp : ((pc : Int) + o).toNat = pc') (hr : Go p e below Q (T.setTop (mkF m pc' Ls st))) : Go p e below Q (T.setTop (mkF m pc Ls st)) := by
  obtain ⟨locs, Y, -, -, -⟩ := X
  exact Go.back (fun t kt => Jvm.Free.XS.goto Y.here C.1 rfl (pc0 := pc) rfl (C.cd hd) ho hp kt) hr
theorem go_icmp (C : Cx p s m meth c Z a0 own bytes maxL ret nm) (X : St Z p l e R s m args below meth c n0 T h k n) {cd : ClassFile.Cond} {o : Int} {x y : Int32} (hd : decode bytes pc = .ok (.if_icmp cd o, 3)) (hp : pc + 3 = pc') (ho : 0 ≤ (pc : Int) + o) (hp2 : ((pc : Int) + o).toNat = pc2) (h1 : if_icmp.holds cd x y = true → Go p e below Q (T.setTop (mkF m pc2 Ls st))) (h2 : if_icmp.holds cd x y = false → Go p e below Q (T.setTop (mkF m pc' Ls st))) : Go p e below Q (T.setTop (mkF m pc Ls (.int y :: .int x :: st))) := by
  subst hp
  obtain ⟨locs, Y, -, -, -⟩ := X
  cases hc : if_icmp.holds cd x y with
  | true => exact Go.back (fun t kt => Jvm.Free.XS.icmpYes Y.here C.1 rfl (pc0 := pc) rfl (C.cd hd) rfl hc ho hp2 kt) (h1 hc)
  | false => exact Go.back (fun t kt => Jvm.Free.XS.icmpNo Y.here C.1 rfl (C.cd hd) rfl hc kt) (h2 hc)
theorem go_if (C : Cx p s m meth c Z a0 own bytes maxL ret nm) (X : St Z p l e R s m args below meth c n0 T h k n) {cd : ClassFile.Cond} {o : Int} {x : Int32} (hd : decode bytes pc = .ok (.ifCond cd o, 3)) (hp : pc + 3 = pc') (ho : 0 ≤ (pc : Int) + o) (hp2 : ((pc : Int) + o).toNat = pc2) (h1 : if_icmp.holds cd x 0 = true → Go p e below Q (T.setTop (mkF m pc2 Ls st))) (h2 : if_icmp.holds cd x 0 = false → Go p e below Q (T.setTop (mkF m pc' Ls st))) : Go p e below Q (T.setTop (mkF m pc Ls (.int x :: st))) := by
  subst hp
  obtain ⟨locs, Y, -, -, -⟩ := X
  cases hc : if_icmp.holds cd x 0 with
  | true => exact Go.back (fun t kt => Jvm.Free.XS.ifYes Y.here C.1 rfl (pc0 := pc) rfl (C.cd hd) rfl ((if0 _ _).trans hc) ho hp2 kt) (h1 hc)
  | false => exact Go.back (fun t kt => Jvm.Free.XS.ifNo Y.here C.1 rfl (C.cd hd) rfl ((if0 _ _).trans hc) kt) (h2 hc)
theorem i32lt {x y : Int32} : x < y ↔ x.toInt < y.toInt := Int32.lt_iff_toInt_lt
theorem ic_lt {x y : Int32} : (if_icmp.holds .lt x y = true ↔ x.toInt < y.toInt) ∧ (if_icmp.holds .lt x y = false ↔ y.toInt ≤ x.toInt) := by
  by_cases q : x < y
  · have := i32lt.mp q; simp [(tlt q).1]; omega
  · have := mt i32lt.mpr q; simp [(flt q).1]; omega
theorem ic_ge {x y : Int32} : (if_icmp.holds .ge x y = true ↔ y.toInt ≤ x.toInt) ∧ (if_icmp.holds .ge x y = false ↔ x.toInt < y.toInt) := by
  by_cases q : x < y
  · have := i32lt.mp q; simp [(tlt q).2.1]; omega
  · have := mt i32lt.mpr q; simp [(flt q).2.1]; omega
theorem ic_gt {x y : Int32} : (if_icmp.holds .gt x y = true ↔ y.toInt < x.toInt) ∧ (if_icmp.holds .gt x y = false ↔ x.toInt ≤ y.toInt) := by
  by_cases q : y < x
  · have := i32lt.mp q; simp [(tlt q).2.2.1]; omega
  · have := mt i32lt.mpr q; simp [(flt q).2.2.1]; omega
theorem ic_le {x y : Int32} : (if_icmp.holds .le x y = true ↔ x.toInt ≤ y.toInt) ∧ (if_icmp.holds .le x y = false ↔ y.toInt < x.toInt) := by
  by_cases q : y < x
  · have := i32lt.mp q; simp [(tlt q).2.2.2]; omega
  · have := mt i32lt.mpr q; simp [(flt q).2.2.2]; omega
theorem ic_eq {x y : Int32} : (if_icmp.holds .eq x y = true ↔ x = y) ∧ (if_icmp.holds .eq x y = false ↔ ¬ x = y) := by
  by_cases q : x = y
  · subst q; exact ⟨⟨fun _ => rfl, fun _ => (teq rfl).1⟩, ⟨fun h => (by rw [(teq rfl).1] at h; cases h), fun h => absurd rfl h⟩⟩
  · exact ⟨⟨fun h => (by rw [(feq q).1] at h; cases h), fun h => absurd h q⟩, ⟨fun _ => q, fun _ => (feq q).1⟩⟩
theorem ic_ne {x y : Int32} : (if_icmp.holds .ne x y = true ↔ ¬ x = y) ∧ (if_icmp.holds .ne x y = false ↔ x = y) := by
  by_cases q : x = y
  · subst q; exact ⟨⟨fun h => (by rw [(teq rfl).2] at h; cases h), fun h => absurd rfl h⟩, ⟨fun _ => rfl, fun _ => (teq rfl).2⟩⟩
  · exact ⟨⟨fun _ => q, fun _ => (feq q).2⟩, ⟨fun h => (by rw [(feq q).2] at h; cases h), fun h => absurd h q⟩⟩
theorem lc_i (x y : Int64) : ((lcmpW x y).toInt < 0 ↔ x.toInt < y.toInt) ∧ (0 < (lcmpW x y).toInt ↔ y.toInt < x.toInt) ∧ (lcmpW x y = 0 ↔ x = y) := by
  obtain ⟨a, b, c⟩ := c_lcmp x y
  refine ⟨?_, ?_, lw_eq x y⟩ <;> rcases Int.lt_trichotomy x.toInt y.toInt with q | q | q <;> (first | have := a q | have := b q | have := c q) <;> omega
theorem go_icmp_lt (C : Cx p s m meth c Z a0 own bytes maxL ret nm) (X : St Z p l e R s m args below meth c n0 T h k n) {o : Int} {x y : Int32} (hd : decode bytes pc = .ok (.if_icmp .lt o, 3)) (hp : pc + 3 = pc') (ho : 0 ≤ (pc : Int) + o) (hp2 : ((pc : Int) + o).toNat = pc2) (h1 : x.toInt < y.toInt → Go p e below Q (T.setTop (mkF m pc2 Ls st))) (h2 : y.toInt ≤ x.toInt → Go p e below Q (T.setTop (mkF m pc' Ls st))) : Go p e below Q (T.setTop (mkF m pc Ls (.int y :: .int x :: st))) := go_icmp C X hd hp ho hp2 (fun q => h1 (ic_lt.1.mp q)) (fun q => h2 (ic_lt.2.mp q))
theorem go_if_lt (C : Cx p s m meth c Z a0 own bytes maxL ret nm) (X : St Z p l e R s m args below meth c n0 T h k n) {o : Int} {x : Int32} (hd : decode bytes pc = .ok (.ifCond .lt o, 3)) (hp : pc + 3 = pc') (ho : 0 ≤ (pc : Int) + o) (hp2 : ((pc : Int) + o).toNat = pc2) (h1 : x.toInt < 0 → Go p e below Q (T.setTop (mkF m pc2 Ls st))) (h2 : 0 ≤ x.toInt → Go p e below Q (T.setTop (mkF m pc' Ls st))) : Go p e below Q (T.setTop (mkF m pc Ls (.int x :: st))) := go_if C X hd hp ho hp2 (fun q => h1 (ic_lt.1.mp q)) (fun q => h2 (ic_lt.2.mp q))
theorem go_lif_lt (C : Cx p s m meth c Z a0 own bytes maxL ret nm) (X : St Z p l e R s m args below meth c n0 T h k n) {o : Int} {x y : Int64} {pc1 : Nat} (hp1 : pc + 1 = pc1) (hd1 : decode bytes pc = .ok (.lcmp, 1)) (hd : decode bytes pc1 = .ok (.ifCond .lt o, 3)) (hp : pc1 + 3 = pc') (ho : 0 ≤ (pc1 : Int) + o) (hp2 : ((pc1 : Int) + o).toNat = pc2) (h1 : x.toInt < y.toInt → Go p e below Q (T.setTop (mkF m pc2 Ls st))) (h2 : y.toInt ≤ x.toInt → Go p e below Q (T.setTop (mkF m pc' Ls st))) : Go p e below Q (T.setTop (mkF m pc Ls (.long y :: .long x :: st))) := go_lcmp C X _ hp1 hd1 (go_if_lt C X hd hp ho hp2 (fun q => h1 ((lc_i x y).1.mp q)) (fun q => h2 (by have := mt (lc_i x y).1.mpr (by omega); omega)))
theorem go_icmp_ge (C : Cx p s m meth c Z a0 own bytes maxL ret nm) (X : St Z p l e R s m args below meth c n0 T h k n) {o : Int} {x y : Int32} (hd : decode bytes pc = .ok (.if_icmp .ge o, 3)) (hp : pc + 3 = pc') (ho : 0 ≤ (pc : Int) + o) (hp2 : ((pc : Int) + o).toNat = pc2) (h1 : y.toInt ≤ x.toInt → Go p e below Q (T.setTop (mkF m pc2 Ls st))) (h2 : x.toInt < y.toInt → Go p e below Q (T.setTop (mkF m pc' Ls st))) : Go p e below Q (T.setTop (mkF m pc Ls (.int y :: .int x :: st))) := go_icmp C X hd hp ho hp2 (fun q => h1 (ic_ge.1.mp q)) (fun q => h2 (ic_ge.2.mp q))
theorem go_if_ge (C : Cx p s m meth c Z a0 own bytes maxL ret nm) (X : St Z p l e R s m args below meth c n0 T h k n) {o : Int} {x : Int32} (hd : decode bytes pc = .ok (.ifCond .ge o, 3)) (hp : pc + 3 = pc') (ho : 0 ≤ (pc : Int) + o) (hp2 : ((pc : Int) + o).toNat = pc2) (h1 : 0 ≤ x.toInt → Go p e below Q (T.setTop (mkF m pc2 Ls st))) (h2 : x.toInt < 0 → Go p e below Q (T.setTop (mkF m pc' Ls st))) : Go p e below Q (T.setTop (mkF m pc Ls (.int x :: st))) := go_if C X hd hp ho hp2 (fun q => h1 (ic_ge.1.mp q)) (fun q => h2 (ic_ge.2.mp q))
theorem go_lif_ge (C : Cx p s m meth c Z a0 own bytes maxL ret nm) (X : St Z p l e R s m args below meth c n0 T h k n) {o : Int} {x y : Int64} {pc1 : Nat} (hp1 : pc + 1 = pc1) (hd1 : decode bytes pc = .ok (.lcmp, 1)) (hd : decode bytes pc1 = .ok (.ifCond .ge o, 3)) (hp : pc1 + 3 = pc') (ho : 0 ≤ (pc1 : Int) + o) (hp2 : ((pc1 : Int) + o).toNat = pc2) (h1 : y.toInt ≤ x.toInt → Go p e below Q (T.setTop (mkF m pc2 Ls st))) (h2 : x.toInt < y.toInt → Go p e below Q (T.setTop (mkF m pc' Ls st))) : Go p e below Q (T.setTop (mkF m pc Ls (.long y :: .long x :: st))) := go_lcmp C X _ hp1 hd1 (go_if_ge C X hd hp ho hp2 (fun q => h1 (by have := mt (lc_i x y).1.mpr (by omega); omega)) (fun q => h2 ((lc_i x y).1.mp q)))
theorem go_icmp_gt (C : Cx p s m meth c Z a0 own bytes maxL ret nm) (X : St Z p l e R s m args below meth c n0 T h k n) {o : Int} {x y : Int32} (hd : decode bytes pc = .ok (.if_icmp .gt o, 3)) (hp : pc + 3 = pc') (ho : 0 ≤ (pc : Int) + o) (hp2 : ((pc : Int) + o).toNat = pc2) (h1 : y.toInt < x.toInt → Go p e below Q (T.setTop (mkF m pc2 Ls st))) (h2 : x.toInt ≤ y.toInt → Go p e below Q (T.setTop (mkF m pc' Ls st))) : Go p e below Q (T.setTop (mkF m pc Ls (.int y :: .int x :: st))) := go_icmp C X hd hp ho hp2 (fun q => h1 (ic_gt.1.mp q)) (fun q => h2 (ic_gt.2.mp q))
theorem go_if_gt (C : Cx p s m meth c Z a0 own bytes maxL ret nm) (X : St Z p l e R s m args below meth c n0 T h k n) {o : Int} {x : Int32} (hd : decode bytes pc = .ok (.ifCond .gt o, 3)) (hp : pc + 3 = pc') (ho : 0 ≤ (pc : Int) + o) (hp2 : ((pc : Int) + o).toNat = pc2) (h1 : 0 < x.toInt → Go p e below Q (T.setTop (mkF m pc2 Ls st))) (h2 : x.toInt ≤ 0 → Go p e below Q (T.setTop (mkF m pc' Ls st))) : Go p e below Q (T.setTop (mkF m pc Ls (.int x :: st))) := go_if C X hd hp ho hp2 (fun q => h1 (ic_gt.1.mp q)) (fun q => h2 (ic_gt.2.mp q))
theorem go_lif_gt (C : Cx p s m meth c Z a0 own bytes maxL ret nm) (X : St Z p l e R s m args below meth c n0 T h k n) {o : Int} {x y : Int64} {pc1 : Nat} (hp1 : pc + 1 = pc1) (hd1 : decode bytes pc = .ok (.lcmp, 1)) (hd : decode bytes pc1 = .ok (.ifCond .gt o, 3)) (hp : pc1 + 3 = pc') (ho : 0 ≤ (pc1 : Int) + o) (hp2 : ((pc1 : Int) + o).toNat = pc2) (h1 : y.toInt < x.toInt → Go p e below Q (T.setTop (mkF m pc2 Ls st))) (h2 : x.toInt ≤ y.toInt → Go p e below Q (T.setTop (mkF m pc' Ls st))) : Go p e below Q (T.setTop (mkF m pc Ls (.long y :: .long x :: st))) := go_lcmp C X _ hp1 hd1 (go_if_gt C X hd hp ho hp2 (fun q => h1 ((lc_i x y).2.1.mp q)) (fun q => h2 (by have := mt (lc_i x y).2.1.mpr (by omega); omega)))
theorem go_icmp_le (C : Cx p s m meth c Z a0 own bytes maxL ret nm) (X : St Z p l e R s m args below meth c n0 T h k n) {o : Int} {x y : Int32} (hd : decode bytes pc = .ok (.if_icmp .le o, 3)) (hp : pc + 3 = pc') (ho : 0 ≤ (pc : Int) + o) (hp2 : ((pc : Int) + o).toNat = pc2) (h1 : x.toInt ≤ y.toInt → Go p e below Q (T.setTop (mkF m pc2 Ls st))) (h2 : y.toInt < x.toInt → Go p e below Q (T.setTop (mkF m pc' Ls st))) : Go p e below Q (T.setTop (mkF m pc Ls (.int y :: .int x :: st))) := go_icmp C X hd hp ho hp2 (fun q => h1 (ic_le.1.mp q)) (fun q => h2 (ic_le.2.mp q))
theorem go_if_le (C : Cx p s m meth c Z a0 own bytes maxL ret nm) (X : St Z p l e R s m args below meth c n0 T h k n) {o : Int} {x : Int32} (hd : decode bytes pc = .ok (.ifCond .le o, 3)) (hp : pc + 3 = pc') (ho : 0 ≤ (pc : Int) + o) (hp2 : ((pc : Int) + o).toNat = pc2) (h1 : x.toInt ≤ 0 → Go p e below Q (T.setTop (mkF m pc2 Ls st))) (h2 : 0 < x.toInt → Go p e below Q (T.setTop (mkF m pc' Ls st))) : Go p e below Q (T.setTop (mkF m pc Ls (.int x :: st))) := go_if C X hd hp ho hp2 (fun q => h1 (ic_le.1.mp q)) (fun q => h2 (ic_le.2.mp q))
theorem go_lif_le (C : Cx p s m meth c Z a0 own bytes maxL ret nm) (X : St Z p l e R s m args below meth c n0 T h k n) {o : Int} {x y : Int64} {pc1 : Nat} (hp1 : pc + 1 = pc1) (hd1 : decode bytes pc = .ok (.lcmp, 1)) (hd : decode bytes pc1 = .ok (.ifCond .le o, 3)) (hp : pc1 + 3 = pc') (ho : 0 ≤ (pc1 : Int) + o) (hp2 : ((pc1 : Int) + o).toNat = pc2) (h1 : x.toInt ≤ y.toInt → Go p e below Q (T.setTop (mkF m pc2 Ls st))) (h2 : y.toInt < x.toInt → Go p e below Q (T.setTop (mkF m pc' Ls st))) : Go p e below Q (T.setTop (mkF m pc Ls (.long y :: .long x :: st))) := go_lcmp C X _ hp1 hd1 (go_if_le C X hd hp ho hp2 (fun q => h1 (by have := mt (lc_i x y).2.1.mpr (by omega); omega)) (fun q => h2 ((lc_i x y).2.1.mp q)))
theorem go_icmp_eq (C : Cx p s m meth c Z a0 own bytes maxL ret nm) (X : St Z p l e R s m args below meth c n0 T h k n) {o : Int} {x y : Int32} (hd : decode bytes pc = .ok (.if_icmp .eq o, 3)) (hp : pc + 3 = pc') (ho : 0 ≤ (pc : Int) + o) (hp2 : ((pc : Int) + o).toNat = pc2) (h1 : x = y → Go p e below Q (T.setTop (mkF m pc2 Ls st))) (h2 : ¬ x = y → Go p e below Q (T.setTop (mkF m pc' Ls st))) : Go p e below Q (T.setTop (mkF m pc Ls (.int y :: .int x :: st))) := go_icmp C X hd hp ho hp2 (fun q => h1 (ic_eq.1.mp q)) (fun q => h2 (ic_eq.2.mp q))
theorem go_if_eq (C : Cx p s m meth c Z a0 own bytes maxL ret nm) (X : St Z p l e R s m args below meth c n0 T h k n) {o : Int} {x : Int32} (hd : decode bytes pc = .ok (.ifCond .eq o, 3)) (hp : pc + 3 = pc') (ho : 0 ≤ (pc : Int) + o) (hp2 : ((pc : Int) + o).toNat = pc2) (h1 : x = 0 → Go p e below Q (T.setTop (mkF m pc2 Ls st))) (h2 : ¬ x = 0 → Go p e below Q (T.setTop (mkF m pc' Ls st))) : Go p e below Q (T.setTop (mkF m pc Ls (.int x :: st))) := go_if C X hd hp ho hp2 (fun q => h1 (ic_eq.1.mp q)) (fun q => h2 (ic_eq.2.mp q))
theorem go_lif_eq (C : Cx p s m meth c Z a0 own bytes maxL ret nm) (X : St Z p l e R s m args below meth c n0 T h k n) {o : Int} {x y : Int64} {pc1 : Nat} (hp1 : pc + 1 = pc1) (hd1 : decode bytes pc = .ok (.lcmp, 1)) (hd : decode bytes pc1 = .ok (.ifCond .eq o, 3)) (hp : pc1 + 3 = pc') (ho : 0 ≤ (pc1 : Int) + o) (hp2 : ((pc1 : Int) + o).toNat = pc2) (h1 : x = y → Go p e below Q (T.setTop (mkF m pc2 Ls st))) (h2 : ¬ x = y → Go p e below Q (T.setTop (mkF m pc' Ls st))) : Go p e below Q (T.setTop (mkF m pc Ls (.long y :: .long x :: st))) := go_lcmp C X _ hp1 hd1 (go_if_eq C X hd hp ho hp2 (fun q => h1 ((lc_i x y).2.2.mp q)) (fun q => h2 (mt (lc_i x y).2.2.mpr q)))
theorem go_icmp_ne (C : Cx p s m meth c Z a0 own bytes maxL ret nm) (X : St Z p l e R s m args below meth c n0 T h k n) {o : Int} {x y : Int32} (hd : decode bytes pc = .ok (.if_icmp .ne o, 3)) (hp : pc + 3 = pc') (ho : 0 ≤ (pc : Int) + o) (hp2 : ((pc : Int) + o).toNat = pc2) (h1 : ¬ x = y → Go p e below Q (T.setTop (mkF m pc2 Ls st))) (h2 : x = y → Go p e below Q (T.setTop (mkF m pc' Ls st))) : Go p e below Q (T.setTop (mkF m pc Ls (.int y :: .int x :: st))) := go_icmp C X hd hp ho hp2 (fun q => h1 (ic_ne.1.mp q)) (fun q => h2 (ic_ne.2.mp q))
theorem go_if_ne (C : Cx p s m meth c Z a0 own bytes maxL ret nm) (X : St Z p l e R s m args below meth c n0 T h k n) {o : Int} {x : Int32} (hd : decode bytes pc = .ok (.ifCond .ne o, 3)) (hp : pc + 3 = pc') (ho : 0 ≤ (pc : Int) + o) (hp2 : ((pc : Int) + o).toNat = pc2) (h1 : ¬ x = 0 → Go p e below Q (T.setTop (mkF m pc2 Ls st))) (h2 : x = 0 → Go p e below Q (T.setTop (mkF m pc' Ls st))) : Go p e below Q (T.setTop (mkF m pc Ls (.int x :: st))) := go_if C X hd hp ho hp2 (fun q => h1 (ic_ne.1.mp q)) (fun q => h2 (ic_ne.2.mp q))
theorem go_lif_ne (C : Cx p s m meth c Z a0 own bytes maxL ret nm) (X : St Z p l e R s m args below meth c n0 T h k n) {o : Int} {x y : Int64} {pc1 : Nat} (hp1 : pc + 1 = pc1) (hd1 : decode bytes pc = .ok (.lcmp, 1)) (hd : decode bytes pc1 = .ok (.ifCond .ne o, 3)) (hp : pc1 + 3 = pc') (ho : 0 ≤ (pc1 : Int) + o) (hp2 : ((pc1 : Int) + o).toNat = pc2) (h1 : ¬ x = y → Go p e below Q (T.setTop (mkF m pc2 Ls st))) (h2 : x = y → Go p e below Q (T.setTop (mkF m pc' Ls st))) : Go p e below Q (T.setTop (mkF m pc Ls (.long y :: .long x :: st))) := go_lcmp C X _ hp1 hd1 (go_if_ne C X hd hp ho hp2 (fun q => h1 (mt (lc_i x y).2.2.mpr q)) (fun q => h2 ((lc_i x y).2.2.mp q)))
theorem go_dload (C : Cx p s m meth c Z a0 own bytes maxL ret nm) (X : St Z p l e R s m args below meth c n0 T h k n) {i : Nat} {v : UInt64} (pc' : Nat) (hp : pc + 2 = pc') (hd : decode bytes pc = .ok (.dload i, 2)) (hl : Ls[i]? = some (.val (.double v))) (hr : Go p e below Q (T.setTop (mkF m pc' Ls (.double v :: st)))) : Go p e below Q (T.setTop (mkF m pc Ls st)) := by
  subst hp
  obtain ⟨locs, Y, -, -, -⟩ := X
  exact Go.back (fun t kt => Jvm.Free.XS.dload Y.here C.1 rfl (C.cd hd) hl kt) hr
theorem go_dloadN (C : Cx p s m meth c Z a0 own bytes maxL ret nm) (X : St Z p l e R s m args below meth c n0 T h k n) {i : Fin 4} {v : UInt64} (pc' : Nat) (hp : pc + 1 = pc') (hd : decode bytes pc = .ok (.dload_n i, 1)) (hl : Ls[i.val]? = some (.val (.double v))) (hr : Go p e below Q (T.setTop (mkF m pc' Ls (.double v :: st)))) : Go p e below Q (T.setTop (mkF m pc Ls st)) := by
  subst hp
  obtain ⟨locs, Y, -, -, -⟩ := X
  exact Go.back (fun t kt => Jvm.Free.XS.dloadN Y.here C.1 rfl (C.cd hd) hl kt) hr
theorem go_dstore (C : Cx p s m meth c Z a0 own bytes maxL ret nm) (X : St Z p l e R s m args below meth c n0 T h k n) {i : Nat} {v : UInt64} (pc' : Nat) (hp : pc + 2 = pc') (hd : decode bytes pc = .ok (.dstore i, 2)) (Ls' : Array Slot) (hl : storeLocals Ls i (.double v) = some Ls') (hr : Go p e below Q (T.setTop (mkF m pc' Ls' st))) : Go p e below Q (T.setTop (mkF m pc Ls (.double v :: st))) := by
  subst hp
  obtain ⟨locs, Y, -, -, -⟩ := X
  exact Go.back (fun t kt => Jvm.Free.XS.dstore Y.here C.1 rfl (C.cd hd) rfl hl kt) hr
theorem go_dstoreN (C : Cx p s m meth c Z a0 own bytes maxL ret nm) (X : St Z p l e R s m args below meth c n0 T h k n) {i : Fin 4} {v : UInt64} (pc' : Nat) (hp : pc + 1 = pc') (hd : decode bytes pc = .ok (.dstore_n i, 1)) (Ls' : Array Slot) (hl : storeLocals Ls i.val (.double v) = some Ls') (hr : Go p e below Q (T.setTop (mkF m pc' Ls' st))) : Go p e below Q (T.setTop (mkF m pc Ls (.double v :: st))) := by
  subst hp
  obtain ⟨locs, Y, -, -, -⟩ := X
  exact Go.back (fun t kt => Jvm.Free.XS.dstoreN Y.here C.1 rfl (C.cd hd) rfl hl kt) hr
theorem go_dconst0 (C : Cx p s m meth c Z a0 own bytes maxL ret nm) (X : St Z p l e R s m args below meth c n0 T h k n)  (pc' : Nat) (hp : pc + 1 = pc') (hd : decode bytes pc = .ok (.dconst 0, 1)) (hr : Go p e below Q (T.setTop (mkF m pc' Ls (.double (FP.l2d 0) :: st)))) : Go p e below Q (T.setTop (mkF m pc Ls st)) := by
  subst hp
  obtain ⟨locs, Y, -, -, -⟩ := X
  exact Go.back (fun t kt => Jvm.Free.XS.dconst0 Y.here C.1 rfl (C.cd hd) (by decide +kernel) kt) hr
theorem go_i2d (C : Cx p s m meth c Z a0 own bytes maxL ret nm) (X : St Z p l e R s m args below meth c n0 T h k n) {x : Int32} (pc' : Nat) (hp : pc + 1 = pc') (hd : decode bytes pc = .ok (.i2d, 1)) (hr : Go p e below Q (T.setTop (mkF m pc' Ls (.double (FP.l2d x.toInt64) :: st)))) : Go p e below Q (T.setTop (mkF m pc Ls (.int x :: st))) := by
  subst hp
  obtain ⟨locs, Y, -, -, -⟩ := X
  exact Go.back (fun t kt => Jvm.Free.XS.i2dS Y.here C.1 rfl (C.cd hd) rfl (i2d_w x) kt) hr
theorem go_l2d (C : Cx p s m meth c Z a0 own bytes maxL ret nm) (X : St Z p l e R s m args below meth c n0 T h k n) {x : Int64} (pc' : Nat) (hp : pc + 1 = pc') (hd : decode bytes pc = .ok (.l2d, 1)) (hr : Go p e below Q (T.setTop (mkF m pc' Ls (.double (FP.l2d x) :: st)))) : Go p e below Q (T.setTop (mkF m pc Ls (.long x :: st))) := by
  subst hp
  obtain ⟨locs, Y, -, -, -⟩ := X
  exact Go.back (fun t kt => Jvm.Free.XS.l2dS Y.here C.1 rfl (C.cd hd) rfl rfl kt) hr
theorem go_dadd (C : Cx p s m meth c Z a0 own bytes maxL ret nm) (X : St Z p l e R s m args below meth c n0 T h k n) {x y : Int64} (pc' : Nat) (hp : pc + 1 = pc') (hd : decode bytes pc = .ok (.dadd, 1)) (ha : B53 x) (hb : B53 y) (hr : Go p e below Q (T.setTop (mkF m pc' Ls (.double (FP.l2d (x + y)) :: st)))) : Go p e below Q (T.setTop (mkF m pc Ls (.double (FP.l2d y) :: .double (FP.l2d x) :: st))) := by
  subst hp
  obtain ⟨locs, Y, -, -, -⟩ := X
  exact Go.back (fun t kt => Jvm.Free.XS.daddS Y.here C.1 rfl (C.cd hd) rfl (nn_w (dadd_w ha hb)) (dadd_w ha hb) kt) hr
theorem go_dcmp (C : Cx p s m meth c Z a0 own bytes maxL ret nm) (X : St Z p l e R s m args below meth c n0 T h k n) {o : CmpOp} {x y : Int64} (pc' : Nat) (hp : pc + 1 = pc') (hd : decode bytes pc = .ok (.dcmp o, 1)) (ha : B53 x) (hb : B53 y) (hr : Go p e below Q (T.setTop (mkF m pc' Ls (.int (lcmpW x y) :: st)))) : Go p e below Q (T.setTop (mkF m pc Ls (.double (FP.l2d y) :: .double (FP.l2d x) :: st))) := by
  subst hp
  obtain ⟨locs, Y, -, -, -⟩ := X
  exact Go.back (fun t kt => Jvm.Free.XS.dcmpS Y.here C.1 rfl (C.cd hd) rfl (dcmpV_w ha hb o) kt) hr
theorem go_ldcInt (C : Cx p s m meth c Z a0 own bytes maxL ret nm) (X : St Z p l e R s m args below meth c n0 T h k n) {idx : Nat} {v : Int32} (w : (Jvm.Cond.constant own idx v).before a0 Z = true) (hp : pc + 2 = pc') (hd : decode bytes pc = .ok (.ldc idx, 2)) (hr : Go p e below Q (T.setTop (mkF m pc' Ls (.int v :: st)))) : Go p e below Q (T.setTop (mkF m pc Ls st)) := by
  subst hp
  obtain ⟨locs, Y, -, -, -⟩ := X
  exact Go.back (fun t kt => Y.ldcInt C.1 C.ow (mvT C.hZ w) (g := mkF m pc Ls st) rfl (C.cd hd) t kt) hr
theorem go_ldcwInt (C : Cx p s m meth c Z a0 own bytes maxL ret nm) (X : St Z p l e R s m args below meth c n0 T h k n) {idx : Nat} {v : Int32} (w : (Jvm.Cond.constant own idx v).before a0 Z = true) (hp : pc + 3 = pc') (hd : decode bytes pc = .ok (.ldc_w idx, 3)) (hr : Go p e below Q (T.setTop (mkF m pc' Ls (.int v :: st)))) : Go p e below Q (T.setTop (mkF m pc Ls st)) := by
  subst hp
  obtain ⟨locs, Y, -, -, -⟩ := X
  exact Go.back (fun t kt => Y.ldcwInt C.1 C.ow (mvT C.hZ w) (g := mkF m pc Ls st) rfl (C.cd hd) t kt) hr
theorem go_ldc2Long (C : Cx p s m meth c Z a0 own bytes maxL ret nm) (X : St Z p l e R s m args below meth c n0 T h k n) {idx : Nat} {v : Int64} (w : (Jvm.Cond.constantLong own idx v).before a0 Z = true) (hp : pc + 3 = pc') (hd : decode bytes pc = .ok (.ldc2_w idx, 3)) (hr : Go p e below Q (T.setTop (mkF m pc' Ls (.long v :: st)))) : Go p e below Q (T.setTop (mkF m pc Ls st)) := by
  subst hp
  obtain ⟨locs, Y, -, -, -⟩ := X
  exact Go.back (fun t kt => Y.ldc2Long C.1 C.ow (mvT C.hZ w) (g := mkF m pc Ls st) rfl (C.cd hd) t kt) hr
variable {kc kn : Nat} {Qy : Option Value → Heap → Prop}
theorem go_leave (C : Cx p s m meth c Z a0 own bytes maxL ret nm) (X : St Z p l e R s m args below meth c n0 T h k n) {v : Option Value} {f : JFrame} (hv : meth.sig.returnType = none → v = none) (hQ : Qy v h) (hk : k ≤ kc) (hn : n ≤ kn)
    (go : ∀ {locs : List Loc} (Y : Stand p l e R s m args below meth c T locs k n) {fs : List Frame}, (∀ (f : JFrame) (acts : List Action), f.method = m → f.locked = none → f.entered = [] → (doReturn e (T.setTop f) acts v).1 = T.setFrames fs) → Steps p.tables e below (T.setTop f) (T.setFrames fs)) :
    Go p e below (FinQ s kc kn n0 Qy) (T.setTop f) := by
  obtain ⟨locs, Y, N, -, rfl⟩ := X
  obtain ⟨fs, hr, hrun, hended, hW, hsame⟩ := Y.leave hv C.lk
  exact ⟨_, _, go Y hr, hrun, hended, _, _, rfl, ⟨N, hQ⟩, ⟨_, rfl⟩, hW, hsame.mono hk hn⟩
theorem go_ret0 (C : Cx p s m meth c Z a0 own bytes maxL none nm) (X : St Z p l e R s m args below meth c n0 T h k n) (hd : decode bytes pc = .ok (.return_, 1)) (hQ : Qy none h) (hk : k ≤ kc) (hn : n ≤ kn) : Go p e below (FinQ s kc kn n0 Qy) (T.setTop (mkF m pc Ls [])) :=
  go_leave C X (fun _ => rfl) hQ hk hn fun Y _ hr => Y.returnOut C.1 C.rt (C.cd hd) hr
theorem go_retI (C : Cx p s m meth c Z a0 own bytes maxL (some .int) nm) (X : St Z p l e R s m args below meth c n0 T h k n) {z : Int32} (hd : decode bytes pc = .ok (.ireturn, 1)) (hQ : Qy (some (.int z)) h) (hk : k ≤ kc) (hn : n ≤ kn) : Go p e below (FinQ s kc kn n0 Qy) (T.setTop (mkF m pc Ls (.int z :: st))) :=
  go_leave C X (fun q => by rw [C.rt] at q; cases q) hQ hk hn fun Y _ hr => retOut Y C.1 C.rt rfl (Or.inl ⟨rfl, Or.inl rfl, _, rfl⟩) (C.cd hd) hr
theorem go_retJ (C : Cx p s m meth c Z a0 own bytes maxL (some .long) nm) (X : St Z p l e R s m args below meth c n0 T h k n) {z : Int64} (hd : decode bytes pc = .ok (.lreturn, 1)) (hQ : Qy (some (.long z)) h) (hk : k ≤ kc) (hn : n ≤ kn) : Go p e below (FinQ s kc kn n0 Qy) (T.setTop (mkF m pc Ls (.long z :: st))) :=
  go_leave C X (fun q => by rw [C.rt] at q; cases q) hQ hk hn fun Y _ hr => retOut Y C.1 C.rt rfl (Or.inr (Or.inl ⟨rfl, rfl, _, rfl⟩)) (C.cd hd) hr
theorem go_retD (C : Cx p s m meth c Z a0 own bytes maxL (some .double) nm) (X : St Z p l e R s m args below meth c n0 T h k n) {z : UInt64} (hd : decode bytes pc = .ok (.dreturn, 1)) (hQ : Qy (some (.double z)) h) (hk : k ≤ kc) (hn : n ≤ kn) : Go p e below (FinQ s kc kn n0 Qy) (T.setTop (mkF m pc Ls (.double z :: st))) :=
  go_leave C X (fun q => by rw [C.rt] at q; cases q) hQ hk hn fun Y _ hr => retOut Y C.1 C.rt rfl (Or.inr (Or.inr (Or.inl ⟨rfl, rfl, _, rfl⟩))) (C.cd hd) hr
theorem go_retA {ty : FieldType} (C : Cx p s m meth c Z a0 own bytes maxL (some ty) nm) (X : St Z p l e R s m args below meth c n0 T h k n) {v : Value} (hd : decode bytes pc = .ok (.areturn, 1)) (ht : ty.isReference = true) (hv : v.isRef = true) (hQ : Qy (some v) h) (hk : k ≤ kc) (hn : n ≤ kn) : Go p e below (FinQ s kc kn n0 Qy) (T.setTop (mkF m pc Ls (v :: st))) :=
  go_leave C X (fun q => by rw [C.rt] at q; cases q) hQ hk hn fun Y _ hr => retOut Y C.1 C.rt (by cases ty <;> first | (cases ht; done) | rfl) (Or.inr (Or.inr (Or.inr (Or.inr ⟨rfl, ht, hv⟩)))) (C.cd hd) hr
theorem go_retN {ty : FieldType} (C : Cx p s m meth c Z a0 own bytes maxL (some ty) nm) (X : St Z p l e R s m args below meth c n0 T h k n) {z z' : Int32} (ht : ty = .boolean ∨ ty = .byte ∨ ty = .char ∨ ty = .short) (hz : nar ty z = z') (hd : decode bytes pc = .ok (.ireturn, 1)) (hQ : Qy (some (.int z')) h) (hk : k ≤ kc) (hn : n ≤ kn) : Go p e below (FinQ s kc kn n0 Qy) (T.setTop (mkF m pc Ls (.int z :: st))) := by
  subst hz
  exact go_leave C X (fun q => by rw [C.rt] at q; cases q) hQ hk hn fun Y _ hr => retN Y C.1 C.rt ht (C.cd hd) hr
/-! calls by the callee's contract -/
variable {idx : Nat} {y : MethodName} {yb : ByteArray} {yl : Nat} {yr : Option FieldType} {rm : Room} {as' : Array Value} {QY : Option Value → Heap → Prop} {argsL rest : List Value}
theorem con_back (C : Cx p s m meth c Z a0 own bytes maxL ret nm) (hM : Con l Z y yb yl yr rm as' h n0 QY) {W : Nat} (wc : (Jvm.Cond.code y yb yl yr).before a0 Z = true) (wz : (Jvm.Cond.initialized y.cls).before a0 Z = true) (hf : rm.frames + 1 ≤ R.frames) (hl : W + (yl + 11) + rm.locals ≤ R.locals) :
    Back l R p e below s args y 3 W (fun A a => a = as' ∧ A.U.heap = h ∧ A.cells + rm.cells ≤ R.cells ∧ A.slots + rm.slots ≤ R.slots) (fun A _ v B => ∃ L, (Fr n0 L ∧ QY v B.U.heap) ∧ B.locs = A.locs ++ L ∧ B.cells = A.cells + rm.cells ∧ B.slots = A.slots + rm.slots) :=
  backOf (Q := fun v h' L => Fr n0 L ∧ QY v h') (hM []) C.hZ wc wz hf hl
theorem go_callS (C : Cx p s m meth c Z a0 own bytes maxL ret nm) (X : St Z p l e R s m args below meth c n0 T h k n) (wl : (Jvm.Cond.methodLink own idx y).before a0 Z = true) (ws : (Jvm.Cond.static y).before a0 Z = true) (wi : (Jvm.Cond.initialized y.cls).before a0 Z = true) (wc : (Jvm.Cond.code y yb yl yr).before a0 Z = true)
    (hM : Con l Z y yb yl yr rm as' h n0 QY) (hlen : ∀ sig, parseMethodDescriptor y.desc = some sig → argsL.length = sig.parameters.length) (ha : argsL.toArray = as') (hy : y.cls ≠ "java/lang/invoke/MethodHandle" ∧ y.cls ≠ "java/lang/invoke/VarHandle")
    (hf : rm.frames + 1 ≤ R.frames) (hl : (rest.map fun v => v.category).sum + (yl + 11) + rm.locals ≤ R.locals) (hc : k + rm.cells ≤ R.cells) (hn : n + rm.slots ≤ R.slots) (hst : st = argsL.reverse ++ rest) (hsz : Ls.size = maxL) (hp : pc + 3 = pc') (hd : decode bytes pc = .ok (.invokestatic idx, 3))
    (hr : ∀ T' h' v, QY v h' → St Z p l e R s m args below meth c n0 T' h' (k + rm.cells) (n + rm.slots) → Go p e below Q (T'.setTop (mkF m pc' Ls (v.toList ++ rest)))) : Go p e below Q (T.setTop (mkF m pc Ls st)) := by
  subst hp; subst ha; subst hst
  obtain ⟨locs, Y, N, zs, eT⟩ := X
  obtain ⟨v, _, ⟨T', L', k', n'⟩, -, X', ⟨Lc, ⟨N', hQ⟩, l1, y1, z1⟩, stp⟩ := Jvm.LawKit.callS Y C.1 C.ow (mvT C.hZ wl) (mvT C.hZ ws) (mvT C.hZ wi) (mvT C.hZ wc) hy (con_back C hM (W := (rest.map fun v => v.category).sum) wc wi hf hl) (g := mkF m pc Ls (argsL.reverse ++ rest)) rfl (hsz.trans C.ml.symm) (argsL := argsL) (rest := rest) hlen rfl (by show 2 * 0 + _ ≤ _; omega) (C.cd hd) (fun _ _ => ⟨rfl, eT, hc, hn⟩)
  dsimp only [Pt.U, Pt.locs, Pt.cells, Pt.slots] at X' l1 y1 z1 stp hQ
  subst l1 y1 z1
  exact Go.back stp (hr T' T'.heap v hQ ⟨_, X', N.app N', zs, rfl⟩)
theorem go_special (C : Cx p s m meth c Z a0 own bytes maxL ret nm) (X : St Z p l e R s m args below meth c n0 T h k n) {a : Addr} (wl : (Jvm.Cond.methodLink own idx y).before a0 Z = true) (ws : (Jvm.Cond.instanceMethod y).before a0 Z = true) (wi : (Jvm.Cond.initialized y.cls).before a0 Z = true) (wc : (Jvm.Cond.code y yb yl none).before a0 Z = true) (hy1 : y.name = "<init>")
    (hM : Con l Z y yb yl none rm as' h n0 QY) (hlen : ∀ sig, parseMethodDescriptor y.desc = some sig → argsL.length = sig.parameters.length) (ha : (.ref a :: argsL).toArray = as') (hy : y.cls ≠ "java/lang/invoke/MethodHandle" ∧ y.cls ≠ "java/lang/invoke/VarHandle")
    (hf : rm.frames + 1 ≤ R.frames) (hl : (rest.map fun v => v.category).sum + (yl + 11) + rm.locals ≤ R.locals) (hc : k + rm.cells ≤ R.cells) (hn : n + rm.slots ≤ R.slots) (hst : st = argsL.reverse ++ .ref a :: rest) (hsz : Ls.size = maxL) (hp : pc + 3 = pc') (hd : decode bytes pc = .ok (.invokespecial idx, 3))
    (hr : ∀ T' h' v, QY v h' → St Z p l e R s m args below meth c n0 T' h' (k + rm.cells) (n + rm.slots) → Go p e below Q (T'.setTop (mkF m pc' Ls (v.toList ++ rest)))) : Go p e below Q (T.setTop (mkF m pc Ls st)) := by
  subst hp; subst ha; subst hst
  obtain ⟨locs, Y, N, zs, eT⟩ := X
  obtain ⟨v, _, ⟨T', L', k', n'⟩, -, X', ⟨Lc, ⟨N', hQ⟩, l1, y1, z1⟩, stp⟩ := Y.specialBack C.1 hy1 C.ow (mvT C.hZ wl) (mvT C.hZ ws) (mvT C.hZ wc) hy (con_back C hM (W := (rest.map fun v => v.category).sum) wc wi hf hl) (g := mkF m pc Ls (argsL.reverse ++ .ref a :: rest)) rfl (hsz.trans C.ml.symm) (Steps.refl _) (a := a) (argsL := argsL) (rest := rest) hlen rfl (by show 2 * 0 + _ ≤ _; omega) (C.cd hd) (fun _ _ => ⟨rfl, eT, hc, hn⟩)
  dsimp only [Pt.U, Pt.locs, Pt.cells, Pt.slots] at X' l1 y1 z1 stp hQ
  subst l1 y1 z1
  exact Go.back (fun t kt => stp.trans kt) (hr T' T'.heap v hQ ⟨_, X', N.app N', zs, rfl⟩)
theorem go_virtual (C : Cx p s m meth c Z a0 own bytes maxL ret nm) (X : St Z p l e R s m args below meth c n0 T h k n) {a : Addr} {cn : String} {y0 : MethodName} (E : Exa Z h a cn) (wl : (Jvm.Cond.methodLink own idx y0).before a0 Z = true) (wd : (Jvm.Cond.declares y0).before a0 Z = true) (hnf : NotFace s y0) (wsel : (Jvm.Cond.selects cn y0 y).before a0 Z = true) (ws : (Jvm.Cond.instanceMethod y).before a0 Z = true) (wi : (Jvm.Cond.initialized y.cls).before a0 Z = true) (wc : (Jvm.Cond.code y yb yl yr).before a0 Z = true)
    (hM : Con l Z y yb yl yr rm as' h n0 QY) (hlen : ∀ sig, parseMethodDescriptor y0.desc = some sig → argsL.length = sig.parameters.length) (ha : (.ref a :: argsL).toArray = as') (hy : y0.cls ≠ "java/lang/invoke/MethodHandle" ∧ y0.cls ≠ "java/lang/invoke/VarHandle")
    (hf : rm.frames + 1 ≤ R.frames) (hl : (rest.map fun v => v.category).sum + (yl + 11) + rm.locals ≤ R.locals) (hc : k + rm.cells ≤ R.cells) (hn : n + rm.slots ≤ R.slots) (hst : st = argsL.reverse ++ .ref a :: rest) (hsz : Ls.size = maxL) (hp : pc + 3 = pc') (hd : decode bytes pc = .ok (.invokevirtual idx, 3))
    (hr : ∀ T' h' v, QY v h' → St Z p l e R s m args below meth c n0 T' h' (k + rm.cells) (n + rm.slots) → Go p e below Q (T'.setTop (mkF m pc' Ls (v.toList ++ rest)))) : Go p e below Q (T.setTop (mkF m pc Ls st)) := by
  subst hp; subst ha; subst hst
  obtain ⟨locs, Y, N, zs, eT⟩ := X
  obtain ⟨cq, kq, qa, qb, qc⟩ := isOf C.hZ eT E
  obtain ⟨v, _, ⟨T', L', k', n'⟩, -, X', ⟨Lc, ⟨N', hQ⟩, l1, y1, z1⟩, stp⟩ := Y.virtualBack C.1 C.ow (mvT C.hZ wl) (mvT C.hZ wd) hnf (mvT C.hZ wsel) (mvT C.hZ ws) hy (con_back C hM (W := (rest.map fun v => v.category).sum) wc wi hf hl) qa qc (g := mkF m pc Ls (argsL.reverse ++ .ref a :: rest)) rfl (hsz.trans C.ml.symm) (Steps.refl _) (argsL := argsL) (rest := rest) hlen rfl (by show 2 * 0 + _ ≤ _; omega) (C.cd hd) (fun _ _ => ⟨rfl, eT, hc, hn⟩)
  dsimp only [Pt.U, Pt.locs, Pt.cells, Pt.slots] at X' l1 y1 z1 stp hQ
  subst l1 y1 z1
  exact Go.back (fun t kt => stp.trans kt) (hr T' T'.heap v hQ ⟨_, X', N.app N', zs, rfl⟩)
theorem go_private (C : Cx p s m meth c Z a0 own bytes maxL ret nm) (X : St Z p l e R s m args below meth c n0 T h k n) {a : Addr} {cn : String} (E : Exa Z h a cn) (wl : (Jvm.Cond.methodLink own idx y).before a0 Z = true) (ws : (Jvm.Cond.instanceMethod y).before a0 Z = true) (wsel : (Jvm.Cond.selects y.cls y y).before a0 Z = true) (wp : (Jvm.Cond.privateMethod y).before a0 Z = true) (wi : (Jvm.Cond.initialized y.cls).before a0 Z = true) (wc : (Jvm.Cond.code y yb yl yr).before a0 Z = true)
    (hM : Con l Z y yb yl yr rm as' h n0 QY) (hlen : ∀ sig, parseMethodDescriptor y.desc = some sig → argsL.length = sig.parameters.length) (ha : (.ref a :: argsL).toArray = as') (hy : y.cls ≠ "java/lang/invoke/MethodHandle" ∧ y.cls ≠ "java/lang/invoke/VarHandle")
    (hf : rm.frames + 1 ≤ R.frames) (hl : (rest.map fun v => v.category).sum + (yl + 11) + rm.locals ≤ R.locals) (hc : k + rm.cells ≤ R.cells) (hn : n + rm.slots ≤ R.slots) (hst : st = argsL.reverse ++ .ref a :: rest) (hsz : Ls.size = maxL) (hp : pc + 3 = pc') (hd : decode bytes pc = .ok (.invokevirtual idx, 3))
    (hr : ∀ T' h' v, QY v h' → St Z p l e R s m args below meth c n0 T' h' (k + rm.cells) (n + rm.slots) → Go p e below Q (T'.setTop (mkF m pc' Ls (v.toList ++ rest)))) : Go p e below Q (T.setTop (mkF m pc Ls st)) := by
  subst hp; subst ha; subst hst
  obtain ⟨locs, Y, N, zs, eT⟩ := X
  obtain ⟨cq, q1, q2⟩ := E.cell
  obtain ⟨v, _, ⟨T', L', k', n'⟩, -, X', ⟨Lc, ⟨N', hQ⟩, l1, y1, z1⟩, stp⟩ := Y.privateBack C.1 C.ow (mvT C.hZ wl) (mvT C.hZ ws) (mvT C.hZ wsel) (Cond.privateMethod_at (mvP C.hZ wp (args := #[]))) (mvT C.hZ wc) hy (con_back C hM (W := (rest.map fun v => v.category).sum) wc wi hf hl) (g := mkF m pc Ls (argsL.reverse ++ .ref a :: rest)) rfl (hsz.trans C.ml.symm) (Steps.refl _) (a := a) (by rw [eT]; exact q1) q2 (argsL := argsL) (rest := rest) hlen rfl (by show 2 * 0 + _ ≤ _; omega) (C.cd hd) (fun _ _ => ⟨rfl, eT, hc, hn⟩)
  dsimp only [Pt.U, Pt.locs, Pt.cells, Pt.slots] at X' l1 y1 z1 stp hQ
  subst l1 y1 z1
  exact Go.back (fun t kt => stp.trans kt) (hr T' T'.heap v hQ ⟨_, X', N.app N', zs, rfl⟩)
theorem go_initO (C : Cx p s m meth c Z a0 own bytes maxL ret nm) (X : St Z p l e R s m args below meth c n0 T h k n) {a : Addr} (w1 : (Jvm.Cond.methodLink own idx Lib.objectInit).before a0 Z = true) (w2 : (Jvm.Cond.instanceMethod Lib.objectInit).before a0 Z = true) (w3 : (Jvm.Cond.code Lib.objectInit ⟨#[0xb1]⟩ 1 none).before a0 Z = true)
    (hf : 1 ≤ R.frames) (hl : (st.map fun v => v.category).sum + 12 ≤ R.locals) (hsz : Ls.size = maxL) (hp : pc + 3 = pc') (hd : decode bytes pc = .ok (.invokespecial idx, 3))
    (hr : ∀ T', St Z p l e R s m args below meth c n0 T' h k n → Go p e below Q (T'.setTop (mkF m pc' Ls st))) : Go p e below Q (T.setTop (mkF m pc Ls (.ref a :: st))) := by
  subst hp
  obtain ⟨locs, Y, N, zs, eT⟩ := X
  obtain ⟨T', X', e', stp⟩ := initO Y C.1 C.hZ C.ow w1 w2 w3 eT (g := mkF m pc Ls (.ref a :: st)) rfl (hsz.trans C.ml.symm) rfl (C.cd hd) hf (W := (st.map fun v => v.category).sum) (by show 2 * 0 + _ ≤ _; omega) hl
  exact Go.back stp (hr T' ⟨_, X', N, zs, e'⟩)
/-! fields, new objects, arrays -/
theorem go_getF (C : Cx p s m meth c Z a0 own bytes maxL ret nm) (X : St Z p l e R s m args below meth c n0 T h k n) {R0 O fn d : String} {a : Addr} {v : Value} (w : (Jvm.Cond.fieldLink own idx R0 fn d).before a0 Z = true) (via : Via Z R0 O fn d) (F : Fld Z h a O fn d v) (hp : pc + 3 = pc') (hd : decode bytes pc = .ok (.getfield idx, 3))
    (hr : ∀ T', St Z p l e R s m args below meth c n0 T' h k n → Go p e below Q (T'.setTop (mkF m pc' Ls (v :: st)))) : Go p e below Q (T.setTop (mkF m pc Ls (.ref a :: st))) := by
  subst hp
  obtain ⟨locs, Y, N, zs, eT⟩ := X
  obtain ⟨T', X', e', stp⟩ := getF Y C.1 C.hZ C.ow (host := "") (Or.inl w) via eT F (g := mkF m pc Ls (.ref a :: st)) rfl rfl (C.cd hd)
  exact Go.back stp (hr T' ⟨_, X', N, zs, e'⟩)
theorem go_getFN (C : Cx p s m meth c Z a0 own bytes maxL ret nm) (X : St Z p l e R s m args below meth c n0 T h k n) {R0 O fn d host : String} {a : Addr} {v : Value} (w : (Jvm.Cond.fieldLinkNest own idx R0 fn d host).before a0 Z = true) (via : Via Z R0 O fn d) (F : Fld Z h a O fn d v) (hp : pc + 3 = pc') (hd : decode bytes pc = .ok (.getfield idx, 3))
    (hr : ∀ T', St Z p l e R s m args below meth c n0 T' h k n → Go p e below Q (T'.setTop (mkF m pc' Ls (v :: st)))) : Go p e below Q (T.setTop (mkF m pc Ls (.ref a :: st))) := by
  subst hp
  obtain ⟨locs, Y, N, zs, eT⟩ := X
  obtain ⟨T', X', e', stp⟩ := getF Y C.1 C.hZ C.ow (host := host) (Or.inr w) via eT F (g := mkF m pc Ls (.ref a :: st)) rfl rfl (C.cd hd)
  exact Go.back stp (hr T' ⟨_, X', N, zs, e'⟩)
theorem go_getS (C : Cx p s m meth c Z a0 own bytes maxL ret nm) (X : St Z p l e R s m args below meth c n0 T h k n) {O fn d : String} {v : Value} (w : (Jvm.Cond.fieldLink own idx O fn d).before a0 Z = true) (F : Sta Z h O fn d v) (hp : pc + 3 = pc') (hd : decode bytes pc = .ok (.getstatic idx, 3))
    (hr : ∀ T', St Z p l e R s m args below meth c n0 T' h k n → Go p e below Q (T'.setTop (mkF m pc' Ls (v :: st)))) : Go p e below Q (T.setTop (mkF m pc Ls st)) := by
  subst hp
  obtain ⟨locs, Y, N, zs, eT⟩ := X
  obtain ⟨T', X', e', stp⟩ := getS2 Y C.1 C.hZ C.ow (host := "") (Or.inl w) Via.refl eT F (g := mkF m pc Ls st) rfl (C.cd hd)
  exact Go.back stp (hr T' ⟨_, X', N, zs, e'⟩)
theorem go_putF (C : Cx p s m meth c Z a0 own bytes maxL ret nm) (X : St Z p l e R s m args below meth c n0 T h k n) {R0 O fn d cn : String} {kk : Nat} {ty : FieldType} {a : Addr} {v old : Value} (w : (Jvm.Cond.fieldLink own idx R0 fn d).before a0 Z = true) (via : Via Z R0 O fn d) (F : Fld Z h a O fn d old) (E : Exa Z h a cn) (L : (Jvm.Cond.lays cn O fn d).before a0 Z = true ∨ ((Jvm.Cond.laysFinal cn O fn d).before a0 Z = true ∧ own = O ∧ meth.name = "<init>")) (wi : (Jvm.Cond.instantiable cn kk).before a0 Z = true) (ga : n0 ≤ a)
    (hty : parseFieldDescriptor d = some ty) (hn : narrow ty v = v) (hf : fits ty v = true) (hp : pc + 3 = pc') (hd : decode bytes pc = .ok (.putfield idx, 3))
    (hr : ∀ T' h', Wr h h' a (Jvm.RoadKit.slotOf Z O fn d) v → St Z p l e R s m args below meth c n0 T' h' k n → Go p e below Q (T'.setTop (mkF m pc' Ls st))) : Go p e below Q (T.setTop (mkF m pc Ls (v :: .ref a :: st))) := by
  subst hp
  obtain ⟨locs, Y, N, zs, eT⟩ := X
  obtain ⟨T', h', X', e', W, stp⟩ := putF Y C.1 C.hZ C.ow (host := "") (Or.inl w) via eT F E L wi hty hn hf (g := mkF m pc Ls (v :: .ref a :: st)) rfl rfl (C.cd hd)
  exact Go.back stp (hr T' h' W ⟨_, X', Fr.snoc X' N ga, zs, e'⟩)
theorem go_putFN (C : Cx p s m meth c Z a0 own bytes maxL ret nm) (X : St Z p l e R s m args below meth c n0 T h k n) {R0 O fn d cn : String} {kk : Nat} {ty : FieldType} {a : Addr} {v v' old : Value} (w : (Jvm.Cond.fieldLink own idx R0 fn d).before a0 Z = true) (via : Via Z R0 O fn d) (F : Fld Z h a O fn d old) (E : Exa Z h a cn) (L : (Jvm.Cond.lays cn O fn d).before a0 Z = true ∨ ((Jvm.Cond.laysFinal cn O fn d).before a0 Z = true ∧ own = O ∧ meth.name = "<init>")) (wi : (Jvm.Cond.instantiable cn kk).before a0 Z = true) (ga : n0 ≤ a)
    (hty : parseFieldDescriptor d = some ty) (hn : narrow ty v = v') (hf : fits ty v' = true) (hp : pc + 3 = pc') (hd : decode bytes pc = .ok (.putfield idx, 3))
    (hr : ∀ T' h', Wr h h' a (Jvm.RoadKit.slotOf Z O fn d) v' → St Z p l e R s m args below meth c n0 T' h' k n → Go p e below Q (T'.setTop (mkF m pc' Ls st))) : Go p e below Q (T.setTop (mkF m pc Ls (v :: .ref a :: st))) := by
  subst hp
  obtain ⟨locs, Y, N, zs, eT⟩ := X
  obtain ⟨T', h', X', e', W, stp⟩ := putFN Y C.1 C.hZ C.ow w via eT F E L wi hty hn hf (g := mkF m pc Ls (v :: .ref a :: st)) rfl rfl (C.cd hd)
  exact Go.back stp (hr T' h' W ⟨_, X', Fr.snoc X' N ga, zs, e'⟩)
theorem go_new (C : Cx p s m meth c Z a0 own bytes maxL ret nm) (X : St Z p l e R s m args below meth c n0 T h k n) {cn : String} {kk : Nat} (w : (Jvm.Cond.classLink own idx cn).before a0 Z = true) (wi : (Jvm.Cond.instantiable cn kk).before a0 Z = true) (wz : (Jvm.Cond.initialized cn).before a0 Z = true) (hc : k + 1 ≤ R.cells) (hl : n + kk ≤ R.slots) (hp : pc + 3 = pc') (hd : decode bytes pc = .ok (.new idx, 3))
    (hr : ∀ T' h' a, a = h.size → n0 ≤ a → Ext h h' → Exa Z h' a cn → (∀ {O fn d : String} {ty : FieldType}, Laid Z a0 cn O fn d → parseFieldDescriptor d = some ty → Fld Z h' a O fn d (defaultValue ty)) → St Z p l e R s m args below meth c n0 T' h' (k + 1) (n + kk) → Go p e below Q (T'.setTop (mkF m pc' Ls (.ref a :: st)))) : Go p e below Q (T.setTop (mkF m pc Ls st)) := by
  subst hp
  have hsz := X.sz
  obtain ⟨locs, Y, N, zs, eT⟩ := X
  obtain ⟨T', h', X', e', E, A, D, -, stp⟩ := newO Y C.1 C.hZ C.ow w wi wz eT (g := mkF m pc Ls st) rfl (C.cd hd) hc hl
  exact Go.back stp (hr T' h' _ rfl hsz E A D ⟨_, X', N, zs, e'⟩)
/-- an array whose components are vs -/
def La (Z : State) (h : Heap) (a : Addr) (ty : FieldType) (vs : List Value) : Prop := ∃ c : Cell, Arr Z h a c ty ∧ c.slots = vs.toArray ∧ vs.length < 2 ^ 31 ∧ ∀ v ∈ vs, fits ty v = true
theorem La.lt {a : Addr} {ty : FieldType} {vs : List Value} (F : La Z h a ty vs) : a < h.size := by obtain ⟨c, A, -⟩ := F; exact A.lt
theorem La.len {a : Addr} {ty : FieldType} {vs : List Value} (F : La Z h a ty vs) : vs.length < 2 ^ 31 := by obtain ⟨c, A, -, q, -⟩ := F; exact q
theorem La.ext {h' : Heap} {a : Addr} {ty : FieldType} {vs : List Value} (F : La Z h a ty vs) (E : Ext h h') : La Z h' a ty vs := by obtain ⟨c, A, r⟩ := F; exact ⟨c, A.ext E, r⟩
theorem La.other {h' : Heap} {a b : Addr} {sl : Nat} {v : Value} {ty : FieldType} {vs : List Value} (F : La Z h b ty vs) (W : Wr h h' a sl v) (q : b ≠ a) : La Z h' b ty vs := by obtain ⟨c, A, r⟩ := F; exact ⟨c, A.other W q, r⟩
theorem La.keep {h' : Heap} {a : Addr} {ws : List Addr} {ty : FieldType} {vs : List Value} (F : La Z h a ty vs) (K : Keep h h' ws) (q : a ∉ ws) : La Z h' a ty vs := by obtain ⟨c, A, r⟩ := F; exact ⟨c, ⟨K.2.1 a c A.1 q, A.2⟩, r⟩
theorem La.set {h' : Heap} {a : Addr} {j : Nat} {v : Value} {ty : FieldType} {vs : List Value} (F : La Z h a ty vs) (W : Wr h h' a j v) (hv : fits ty v = true) : La Z h' a ty (vs.set j v) := by
  obtain ⟨c, A, e1, e2, e3⟩ := F
  refine ⟨_, A.same W, ?_, by simpa using e2, fun w hw => ?_⟩
  · simp [Cell.setSlot, e1]
  · rcases List.mem_or_eq_of_mem_set hw with q | q
    · exact e3 w q
    · subst q; exact hv
theorem clamp_eq {j : Int32} (q : 0 ≤ j.toInt) : (j.toNatClampNeg : Int) = j.toInt := by show ((j.toInt.toNat : Nat) : Int) = _; omega
theorem neg_not {j : Int32} (q : 0 ≤ j.toInt) : ¬ j < 0 := by rw [Int32.lt_iff_toInt_lt]; have : (0 : Int32).toInt = 0 := rfl; omega
theorem La.inb {c : Cell} {vs : List Value} {j : Int32} {v : Value} (e : c.slots = vs.toArray) (q : 0 ≤ j.toInt) (hv : vs[j.toNatClampNeg]? = some v) : ¬ (j < 0 ∨ c.slots.size ≤ j.toNatClampNeg) ∧ c.slots[j.toNatClampNeg]? = some v := by
  obtain ⟨hl, -⟩ := List.getElem?_eq_some_iff.mp hv
  refine ⟨fun r => r.elim (neg_not q) fun r => ?_, by rw [e]; simpa using hv⟩
  rw [e] at r; simp at r; omega
theorem go_alen (C : Cx p s m meth c Z a0 own bytes maxL ret nm) (X : St Z p l e R s m args below meth c n0 T h k n) {a : Addr} {ty : FieldType} {vs : List Value} {z : Int32} (A : La Z h a ty vs) (hz : vs.length.toInt32 = z) (hp : pc + 1 = pc') (hd : decode bytes pc = .ok (.arraylength, 1)) (hr : Go p e below Q (T.setTop (mkF m pc' Ls (.int z :: st)))) : Go p e below Q (T.setTop (mkF m pc Ls (.ref a :: st))) := by
  subst hp
  obtain ⟨locs, Y, N, zs, eT⟩ := X
  obtain ⟨cl, B, e1, e2, e3⟩ := A
  have ez : cl.slots.size.toInt32 = z := by rw [e1]; simpa using hz
  subst ez
  exact Go.back (fun t kt => Y.arraylength C.1 (by rw [eT]; exact B.1) (State.isArrayOf_alike C.hZ.alike B.2.1) (g := mkF m pc Ls (.ref a :: st)) rfl rfl (C.cd hd) t kt) hr

theorem go_iaload (C : Cx p s m meth c Z a0 own bytes maxL ret nm) (X : St Z p l e R s m args below meth c n0 T h k n) {a : Addr} {vs : List Value} {j : Int32} {v : Value} (A : La Z h a .int vs) (q : 0 ≤ j.toInt) (hv : vs[j.toNatClampNeg]? = some v) (hp : pc + 1 = pc') (hd : decode bytes pc = .ok (.iaload, 1)) (hr : Go p e below Q (T.setTop (mkF m pc' Ls (v :: st)))) : Go p e below Q (T.setTop (mkF m pc Ls (.int j :: .ref a :: st))) := by
  subst hp
  obtain ⟨locs, Y, N, zs, eT⟩ := X
  obtain ⟨cl, B, e1, e2, e3⟩ := A
  obtain ⟨i1, i2⟩ := La.inb e1 q hv
  exact Go.back (fun t kt => Y.iaload C.1 (by rw [eT]; exact B.1) (State.isArrayOf_alike C.hZ.alike B.2.1) B.2.2 i1 i2 (g := mkF m pc Ls (.int j :: .ref a :: st)) rfl rfl (C.cd hd) t kt) hr
theorem go_laload (C : Cx p s m meth c Z a0 own bytes maxL ret nm) (X : St Z p l e R s m args below meth c n0 T h k n) {a : Addr} {vs : List Value} {j : Int32} {v : Value} (A : La Z h a .long vs) (q : 0 ≤ j.toInt) (hv : vs[j.toNatClampNeg]? = some v) (hp : pc + 1 = pc') (hd : decode bytes pc = .ok (.laload, 1)) (hr : Go p e below Q (T.setTop (mkF m pc' Ls (v :: st)))) : Go p e below Q (T.setTop (mkF m pc Ls (.int j :: .ref a :: st))) := by
  subst hp
  obtain ⟨locs, Y, N, zs, eT⟩ := X
  obtain ⟨cl, B, e1, e2, e3⟩ := A
  obtain ⟨i1, i2⟩ := La.inb e1 q hv
  exact Go.back (fun t kt => Y.laload C.1 (by rw [eT]; exact B.1) (State.isArrayOf_alike C.hZ.alike B.2.1) B.2.2 i1 i2 (g := mkF m pc Ls (.int j :: .ref a :: st)) rfl rfl (C.cd hd) t kt) hr
theorem go_caload (C : Cx p s m meth c Z a0 own bytes maxL ret nm) (X : St Z p l e R s m args below meth c n0 T h k n) {a : Addr} {vs : List Value} {j : Int32} {v : Value} (A : La Z h a .char vs) (q : 0 ≤ j.toInt) (hv : vs[j.toNatClampNeg]? = some v) (hp : pc + 1 = pc') (hd : decode bytes pc = .ok (.caload, 1)) (hr : Go p e below Q (T.setTop (mkF m pc' Ls (v :: st)))) : Go p e below Q (T.setTop (mkF m pc Ls (.int j :: .ref a :: st))) := by
  subst hp
  obtain ⟨locs, Y, N, zs, eT⟩ := X
  obtain ⟨cl, B, e1, e2, e3⟩ := A
  obtain ⟨i1, i2⟩ := La.inb e1 q hv
  exact Go.back (fun t kt => Y.caload C.1 (by rw [eT]; exact B.1) (State.isArrayOf_alike C.hZ.alike B.2.1) B.2.2 i1 i2 (g := mkF m pc Ls (.int j :: .ref a :: st)) rfl rfl (C.cd hd) t kt) hr
theorem go_saload (C : Cx p s m meth c Z a0 own bytes maxL ret nm) (X : St Z p l e R s m args below meth c n0 T h k n) {a : Addr} {vs : List Value} {j : Int32} {v : Value} (A : La Z h a .short vs) (q : 0 ≤ j.toInt) (hv : vs[j.toNatClampNeg]? = some v) (hp : pc + 1 = pc') (hd : decode bytes pc = .ok (.saload, 1)) (hr : Go p e below Q (T.setTop (mkF m pc' Ls (v :: st)))) : Go p e below Q (T.setTop (mkF m pc Ls (.int j :: .ref a :: st))) := by
  subst hp
  obtain ⟨locs, Y, N, zs, eT⟩ := X
  obtain ⟨cl, B, e1, e2, e3⟩ := A
  obtain ⟨i1, i2⟩ := La.inb e1 q hv
  exact Go.back (fun t kt => Y.saload C.1 (by rw [eT]; exact B.1) (State.isArrayOf_alike C.hZ.alike B.2.1) B.2.2 i1 i2 (g := mkF m pc Ls (.int j :: .ref a :: st)) rfl rfl (C.cd hd) t kt) hr
theorem go_daload (C : Cx p s m meth c Z a0 own bytes maxL ret nm) (X : St Z p l e R s m args below meth c n0 T h k n) {a : Addr} {vs : List Value} {j : Int32} {v : Value} (A : La Z h a .double vs) (q : 0 ≤ j.toInt) (hv : vs[j.toNatClampNeg]? = some v) (hp : pc + 1 = pc') (hd : decode bytes pc = .ok (.daload, 1)) (hr : Go p e below Q (T.setTop (mkF m pc' Ls (v :: st)))) : Go p e below Q (T.setTop (mkF m pc Ls (.int j :: .ref a :: st))) := by
  subst hp
  obtain ⟨locs, Y, N, zs, eT⟩ := X
  obtain ⟨cl, B, e1, e2, e3⟩ := A
  obtain ⟨i1, i2⟩ := La.inb e1 q hv
  exact Go.back (fun t kt => Y.daload C.1 (by rw [eT]; exact B.1) (State.isArrayOf_alike C.hZ.alike B.2.1) B.2.2 i1 i2 (g := mkF m pc Ls (.int j :: .ref a :: st)) rfl rfl (C.cd hd) t kt) hr
theorem go_baloadBytes (C : Cx p s m meth c Z a0 own bytes maxL ret nm) (X : St Z p l e R s m args below meth c n0 T h k n) {a : Addr} {vs : List Value} {j : Int32} {v : Value} (A : La Z h a .byte vs) (q : 0 ≤ j.toInt) (hv : vs[j.toNatClampNeg]? = some v) (hp : pc + 1 = pc') (hd : decode bytes pc = .ok (.baload, 1)) (hr : Go p e below Q (T.setTop (mkF m pc' Ls (v :: st)))) : Go p e below Q (T.setTop (mkF m pc Ls (.int j :: .ref a :: st))) := by
  subst hp
  obtain ⟨locs, Y, N, zs, eT⟩ := X
  obtain ⟨cl, B, e1, e2, e3⟩ := A
  obtain ⟨i1, i2⟩ := La.inb e1 q hv
  exact Go.back (fun t kt => Y.baloadBytes C.1 (by rw [eT]; exact B.1) (State.isArrayOf_alike C.hZ.alike B.2.1) B.2.2 i1 i2 (g := mkF m pc Ls (.int j :: .ref a :: st)) rfl rfl (C.cd hd) t kt) hr
theorem go_baloadBooleans (C : Cx p s m meth c Z a0 own bytes maxL ret nm) (X : St Z p l e R s m args below meth c n0 T h k n) {a : Addr} {vs : List Value} {j : Int32} {v : Value} (A : La Z h a .boolean vs) (q : 0 ≤ j.toInt) (hv : vs[j.toNatClampNeg]? = some v) (hp : pc + 1 = pc') (hd : decode bytes pc = .ok (.baload, 1)) (hr : Go p e below Q (T.setTop (mkF m pc' Ls (v :: st)))) : Go p e below Q (T.setTop (mkF m pc Ls (.int j :: .ref a :: st))) := by
  subst hp
  obtain ⟨locs, Y, N, zs, eT⟩ := X
  obtain ⟨cl, B, e1, e2, e3⟩ := A
  obtain ⟨i1, i2⟩ := La.inb e1 q hv
  exact Go.back (fun t kt => Y.baloadBooleans C.1 (by rw [eT]; exact B.1) (State.isArrayOf_alike C.hZ.alike B.2.1) B.2.2 i1 i2 (g := mkF m pc Ls (.int j :: .ref a :: st)) rfl rfl (C.cd hd) t kt) hr
theorem go_aaload (C : Cx p s m meth c Z a0 own bytes maxL ret nm) (X : St Z p l e R s m args below meth c n0 T h k n) {a : Addr} {vs : List Value} {ty : FieldType} {j : Int32} {v : Value} (A : La Z h a ty vs) (ht : ty.isReference = true) (q : 0 ≤ j.toInt) (hv : vs[j.toNatClampNeg]? = some v) (hp : pc + 1 = pc') (hd : decode bytes pc = .ok (.aaload, 1)) (hr : Go p e below Q (T.setTop (mkF m pc' Ls (v :: st)))) : Go p e below Q (T.setTop (mkF m pc Ls (.int j :: .ref a :: st))) := by
  subst hp
  obtain ⟨locs, Y, N, zs, eT⟩ := X
  obtain ⟨cl, B, e1, e2, e3⟩ := A
  obtain ⟨i1, i2⟩ := La.inb e1 q hv
  exact Go.back (fun t kt => Y.aaload C.1 (by rw [eT]; exact B.1) (State.isArrayOf_alike C.hZ.alike B.2.1) ht B.2.2 i1 i2 (g := mkF m pc Ls (.int j :: .ref a :: st)) rfl rfl (C.cd hd) t kt) hr
theorem go_iastore (C : Cx p s m meth c Z a0 own bytes maxL ret nm) (X : St Z p l e R s m args below meth c n0 T h k n) {a : Addr} {vs : List Value} {j : Int32} {x : Int32} (A : La Z h a .int vs) (q : 0 ≤ j.toInt) (hj : j.toInt < vs.length) (ga : n0 ≤ a) (hp : pc + 1 = pc') (hd : decode bytes pc = .ok (.iastore, 1))
    (hr : ∀ T' h', Wr h h' a j.toNatClampNeg (.int x) → La Z h' a .int (vs.set j.toNatClampNeg (.int x)) → St Z p l e R s m args below meth c n0 T' h' k n → Go p e below Q (T'.setTop (mkF m pc' Ls st))) : Go p e below Q (T.setTop (mkF m pc Ls (.int x :: .int j :: .ref a :: st))) := by
  subst hp
  obtain ⟨locs, Y, N, zs, eT⟩ := X
  have A' := A
  obtain ⟨cl, B, e1, e2, e3⟩ := A
  have i1 : ¬ (j < 0 ∨ cl.slots.size ≤ j.toNatClampNeg) := fun r => r.elim (neg_not q) fun r => by
    rw [e1] at r; simp at r; have := clamp_eq q; omega
  obtain ⟨T', h', X', e', W, stp⟩ := stI Y C.1 C.hZ eT B i1 (g := mkF m pc Ls (.int x :: .int j :: .ref a :: st)) rfl rfl (C.cd hd)
  exact Go.back stp (hr T' h' W (A'.set W rfl) ⟨_, X', Fr.snoc X' N ga, zs, e'⟩)
theorem go_lastore (C : Cx p s m meth c Z a0 own bytes maxL ret nm) (X : St Z p l e R s m args below meth c n0 T h k n) {a : Addr} {vs : List Value} {j : Int32} {x : Int64} (A : La Z h a .long vs) (q : 0 ≤ j.toInt) (hj : j.toInt < vs.length) (ga : n0 ≤ a) (hp : pc + 1 = pc') (hd : decode bytes pc = .ok (.lastore, 1))
    (hr : ∀ T' h', Wr h h' a j.toNatClampNeg (.long x) → La Z h' a .long (vs.set j.toNatClampNeg (.long x)) → St Z p l e R s m args below meth c n0 T' h' k n → Go p e below Q (T'.setTop (mkF m pc' Ls st))) : Go p e below Q (T.setTop (mkF m pc Ls (.long x :: .int j :: .ref a :: st))) := by
  subst hp
  obtain ⟨locs, Y, N, zs, eT⟩ := X
  have A' := A
  obtain ⟨cl, B, e1, e2, e3⟩ := A
  have i1 : ¬ (j < 0 ∨ cl.slots.size ≤ j.toNatClampNeg) := fun r => r.elim (neg_not q) fun r => by
    rw [e1] at r; simp at r; have := clamp_eq q; omega
  obtain ⟨T', h', X', e', W, stp⟩ := stJ Y C.1 C.hZ eT B i1 (g := mkF m pc Ls (.long x :: .int j :: .ref a :: st)) rfl rfl (C.cd hd)
  exact Go.back stp (hr T' h' W (A'.set W rfl) ⟨_, X', Fr.snoc X' N ga, zs, e'⟩)
theorem go_dastore (C : Cx p s m meth c Z a0 own bytes maxL ret nm) (X : St Z p l e R s m args below meth c n0 T h k n) {a : Addr} {vs : List Value} {j : Int32} {x : UInt64} (A : La Z h a .double vs) (q : 0 ≤ j.toInt) (hj : j.toInt < vs.length) (ga : n0 ≤ a) (hp : pc + 1 = pc') (hd : decode bytes pc = .ok (.dastore, 1))
    (hr : ∀ T' h', Wr h h' a j.toNatClampNeg (.double x) → La Z h' a .double (vs.set j.toNatClampNeg (.double x)) → St Z p l e R s m args below meth c n0 T' h' k n → Go p e below Q (T'.setTop (mkF m pc' Ls st))) : Go p e below Q (T.setTop (mkF m pc Ls (.double x :: .int j :: .ref a :: st))) := by
  subst hp
  obtain ⟨locs, Y, N, zs, eT⟩ := X
  have A' := A
  obtain ⟨cl, B, e1, e2, e3⟩ := A
  have i1 : ¬ (j < 0 ∨ cl.slots.size ≤ j.toNatClampNeg) := fun r => r.elim (neg_not q) fun r => by
    rw [e1] at r; simp at r; have := clamp_eq q; omega
  obtain ⟨T', h', X', e', W, stp⟩ := stD Y C.1 C.hZ eT B i1 (g := mkF m pc Ls (.double x :: .int j :: .ref a :: st)) rfl rfl (C.cd hd)
  exact Go.back stp (hr T' h' W (A'.set W rfl) ⟨_, X', Fr.snoc X' N ga, zs, e'⟩)
theorem go_newarr (C : Cx p s m meth c Z a0 own bytes maxL ret nm) (X : St Z p l e R s m args below meth c n0 T h k n) {aty : ArrayType} (w : (Jvm.Cond.arrayClass (newarray.typeOf aty)).before a0 Z = true) {z : Int32} {cap : Nat} (hz : 0 ≤ z.toInt) (hcap : z.toInt ≤ cap) (hb8 : cap * 8 ≤ 536870912) (hc : k + 1 ≤ R.cells) (hl : n + cap ≤ R.slots) (hp : pc + 2 = pc') (hd : decode bytes pc = .ok (.newarray aty, 2))
    (hr : ∀ T' h' a, a = h.size → n0 ≤ a → Ext h h' → La Z h' a (newarray.typeOf aty) (List.replicate z.toNatClampNeg (defaultValue (newarray.typeOf aty))) → St Z p l e R s m args below meth c n0 T' h' (k + 1) (n + cap) → Go p e below Q (T'.setTop (mkF m pc' Ls (.ref a :: st)))) : Go p e below Q (T.setTop (mkF m pc Ls (.int z :: st))) := by
  subst hp
  have hsz := X.sz
  obtain ⟨locs, Y, N, zs, eT⟩ := X
  have hzc := clamp_eq hz
  obtain ⟨T', h', cA, X', e', E, A, stp⟩ := newP Y C.1 C.hZ w eT (g := mkF m pc Ls (.int z :: st)) rfl (C.cd hd) rfl (neg_not hz) (cap := cap) (by omega) hb8 hc hl
  refine Go.back stp (hr T' h' _ rfl hsz E ⟨_, A, by simp [newA], ?_, fun v hv => ?_⟩ ⟨_, X', N, zs, e'⟩)
  · have := z.toInt_lt; simp; omega
  · obtain ⟨-, rfl⟩ := List.mem_replicate.mp hv; cases aty <;> rfl
theorem go_newarrE (C : Cx p s m meth c Z a0 own bytes maxL ret nm) (X : St Z p l e R s m args below meth c n0 T h k n) {aty : ArrayType} (w : (Jvm.Cond.arrayClass (newarray.typeOf aty)).before a0 Z = true) {z : Int32} {cap : Nat} {ad : String} (had : "[" ++ (newarray.typeOf aty).toString = ad) (hz : 0 ≤ z.toInt) (hcap : z.toInt ≤ cap) (hb8 : cap * 8 ≤ 536870912) (hc : k + 1 ≤ R.cells) (hl : n + cap ≤ R.slots) (hp : pc + 2 = pc') (hd : decode bytes pc = .ok (.newarray aty, 2))
    (hr : ∀ T' h' a, a = h.size → n0 ≤ a → Ext h h' → La Z h' a (newarray.typeOf aty) (List.replicate z.toNatClampNeg (defaultValue (newarray.typeOf aty))) → Exa Z h' a ad → St Z p l e R s m args below meth c n0 T' h' (k + 1) (n + cap) → Go p e below Q (T'.setTop (mkF m pc' Ls (.ref a :: st)))) : Go p e below Q (T.setTop (mkF m pc Ls (.int z :: st))) := by
  subst hp
  have hsz := X.sz
  obtain ⟨locs, Y, N, zs, eT⟩ := X
  have hzc := clamp_eq hz
  obtain ⟨T', h', cA, X', e', E, A, EX, stp⟩ := newPE Y C.1 C.hZ w eT (g := mkF m pc Ls (.int z :: st)) rfl (C.cd hd) rfl (neg_not hz) (cap := cap) (by omega) hb8 hc hl had
  refine Go.back stp (hr T' h' _ rfl hsz E ⟨_, A, by simp [newA], ?_, fun v hv => ?_⟩ EX ⟨_, X', N, zs, e'⟩)
  · have := z.toInt_lt; simp; omega
  · obtain ⟨-, rfl⟩ := List.mem_replicate.mp hv; cases aty <;> rfl
theorem go_ifnull_n (C : Cx p s m meth c Z a0 own bytes maxL ret nm) (X : St Z p l e R s m args below meth c n0 T h k n) {o : Int} (hd : decode bytes pc = .ok (.ifnull o, 3)) (ho : 0 ≤ (pc : Int) + o) (hp2 : ((pc : Int) + o).toNat = pc2) (hr : Go p e below Q (T.setTop (mkF m pc2 Ls st))) : Go p e below Q (T.setTop (mkF m pc Ls (.null :: st))) := by
  obtain ⟨locs, Y, -, -, -⟩ := X
  exact Go.back (fun t kt => Jvm.Free.XS.ifnullYes Y.here C.1 rfl (pc0 := pc) rfl (C.cd hd) rfl ho hp2 kt) hr
theorem go_ifnull_r (C : Cx p s m meth c Z a0 own bytes maxL ret nm) (X : St Z p l e R s m args below meth c n0 T h k n) {o : Int} {b : Addr} (hp : pc + 3 = pc') (hd : decode bytes pc = .ok (.ifnull o, 3)) (hr : Go p e below Q (T.setTop (mkF m pc' Ls st))) : Go p e below Q (T.setTop (mkF m pc Ls (.ref b :: st))) := by
  subst hp
  obtain ⟨locs, Y, -, -, -⟩ := X
  exact Go.back (fun t kt => Jvm.Free.XS.ifnullNo Y.here C.1 rfl (C.cd hd) rfl kt) hr
theorem go_ifnonnull_r (C : Cx p s m meth c Z a0 own bytes maxL ret nm) (X : St Z p l e R s m args below meth c n0 T h k n) {o : Int} {b : Addr} (hd : decode bytes pc = .ok (.ifnonnull o, 3)) (ho : 0 ≤ (pc : Int) + o) (hp2 : ((pc : Int) + o).toNat = pc2) (hr : Go p e below Q (T.setTop (mkF m pc2 Ls st))) : Go p e below Q (T.setTop (mkF m pc Ls (.ref b :: st))) := by
  obtain ⟨locs, Y, -, -, -⟩ := X
  exact Go.back (fun t kt => Jvm.Free.XS.ifnonnullYes Y.here C.1 rfl (pc0 := pc) rfl (C.cd hd) rfl ho hp2 kt) hr
theorem go_ifnonnull_n (C : Cx p s m meth c Z a0 own bytes maxL ret nm) (X : St Z p l e R s m args below meth c n0 T h k n) {o : Int} (hp : pc + 3 = pc') (hd : decode bytes pc = .ok (.ifnonnull o, 3)) (hr : Go p e below Q (T.setTop (mkF m pc' Ls st))) : Go p e below Q (T.setTop (mkF m pc Ls (.null :: st))) := by
  subst hp
  obtain ⟨locs, Y, -, -, -⟩ := X
  exact Go.back (fun t kt => Jvm.Free.XS.ifnonnullNo Y.here C.1 rfl (C.cd hd) rfl kt) hr
theorem go_acmp_eq (C : Cx p s m meth c Z a0 own bytes maxL ret nm) (X : St Z p l e R s m args below meth c n0 T h k n) {o : Int} {x y : Value} (hx : x.isRef = true) (hy : y.isRef = true) (hd : decode bytes pc = .ok (.if_acmp .eq o, 3)) (hp : pc + 3 = pc') (ho : 0 ≤ (pc : Int) + o) (hp2 : ((pc : Int) + o).toNat = pc2) (h1 : x = y → Go p e below Q (T.setTop (mkF m pc2 Ls st))) (h2 : ¬ x = y → Go p e below Q (T.setTop (mkF m pc' Ls st))) : Go p e below Q (T.setTop (mkF m pc Ls (y :: x :: st))) := by
  obtain ⟨locs, Y, -, -, -⟩ := X
  by_cases q : x = y
  · exact Go.back (fun t kt => acmp (g := mkF m pc Ls (y :: x :: st)) Y C.1 rfl hx hy (pc0 := pc) (pc' := pc2) (same := true) rfl (C.cd hd) rfl (decide_eq_true q) ho (by simp [acV, hp2]) kt) (h1 q)
  · exact Go.back (fun t kt => acmp (g := mkF m pc Ls (y :: x :: st)) Y C.1 rfl hx hy (pc0 := pc) (pc' := pc') (same := false) rfl (C.cd hd) rfl (decide_eq_false q) ho (by simp [acV, hp]) kt) (h2 q)
theorem go_acmp_ne (C : Cx p s m meth c Z a0 own bytes maxL ret nm) (X : St Z p l e R s m args below meth c n0 T h k n) {o : Int} {x y : Value} (hx : x.isRef = true) (hy : y.isRef = true) (hd : decode bytes pc = .ok (.if_acmp .ne o, 3)) (hp : pc + 3 = pc') (ho : 0 ≤ (pc : Int) + o) (hp2 : ((pc : Int) + o).toNat = pc2) (h1 : ¬ x = y → Go p e below Q (T.setTop (mkF m pc2 Ls st))) (h2 : x = y → Go p e below Q (T.setTop (mkF m pc' Ls st))) : Go p e below Q (T.setTop (mkF m pc Ls (y :: x :: st))) := by
  obtain ⟨locs, Y, -, -, -⟩ := X
  by_cases q : x = y
  · exact Go.back (fun t kt => acmp (g := mkF m pc Ls (y :: x :: st)) Y C.1 rfl hx hy (pc0 := pc) (pc' := pc') (same := true) rfl (C.cd hd) rfl (decide_eq_true q) ho (by simp [acV, hp]) kt) (h2 q)
  · exact Go.back (fun t kt => acmp (g := mkF m pc Ls (y :: x :: st)) Y C.1 rfl hx hy (pc0 := pc) (pc' := pc2) (same := false) rfl (C.cd hd) rfl (decide_eq_false q) ho (by simp [acV, hp2]) kt) (h1 q)
theorem go_cast (C : Cx p s m meth c Z a0 own bytes maxL ret nm) (X : St Z p l e R s m args below meth c n0 T h k n) {cn : String} {a : Addr} (w : (Jvm.Cond.classLink own idx cn).before a0 Z = true) (F : Ins Z h a cn true) (hp : pc + 3 = pc') (hd : decode bytes pc = .ok (.checkcast idx, 3)) (hr : ∀ T', St Z p l e R s m args below meth c n0 T' h k n → Go p e below Q (T'.setTop (mkF m pc' Ls (.ref a :: st)))) : Go p e below Q (T.setTop (mkF m pc Ls (.ref a :: st))) := by
  subst hp
  obtain ⟨locs, Y, N, zs, eT⟩ := X
  obtain ⟨T', X', e', stp⟩ := castY Y C.1 C.hZ C.ow w eT F (g := mkF m pc Ls (.ref a :: st)) rfl rfl (C.cd hd)
  exact Go.back stp (hr T' ⟨_, X', N, zs, e'⟩)
theorem go_clone (C : Cx p s m meth c Z a0 own bytes maxL ret nm) (X : St Z p l e R s m args below meth c n0 T h k n) {ad : String} {a : Addr} {ty : FieldType} {vs : List Value} {cap : Nat} (w1 : (Jvm.Cond.methodLink own idx ⟨ad, "clone", "()Ljava/lang/Object;"⟩).before a0 Z = true) (w2 : (Jvm.Cond.sameMethod ad "java/lang/Object" "clone" "()Ljava/lang/Object;").before a0 Z = true) (w3 : (Jvm.Cond.native ⟨"java/lang/Object", "clone", "()Ljava/lang/Object;"⟩).before a0 Z = true)
    (w4 : (Jvm.Cond.instanceMethod ⟨"java/lang/Object", "clone", "()Ljava/lang/Object;"⟩).before a0 Z = true) (w5 : (Jvm.Cond.selects ad ⟨ad, "clone", "()Ljava/lang/Object;"⟩ ⟨"java/lang/Object", "clone", "()Ljava/lang/Object;"⟩).before a0 Z = true) (w6 : (Jvm.Cond.castable ad "java/lang/Cloneable").before a0 Z = true)
    (A : La Z h a ty vs) (E : Exa Z h a ad) (hf : 1 ≤ R.frames) (hl : (st.map fun v => v.category).sum + 14 ≤ R.locals) (hcap : vs.length ≤ cap) (hc : k + 1 ≤ R.cells) (hsl : n + cap ≤ R.slots) (hsz : Ls.size = maxL) (hp : pc + 3 = pc') (hd : decode bytes pc = .ok (.invokevirtual idx, 3))
    (hr : ∀ T' h' b, b = h.size → n0 ≤ b → Ext h h' → La Z h' b ty vs → Exa Z h' b ad → St Z p l e R s m args below meth c n0 T' h' (k + 1) (n + cap) → Go p e below Q (T'.setTop (mkF m pc' Ls (.ref b :: st)))) : Go p e below Q (T.setTop (mkF m pc Ls (.ref a :: st))) := by
  subst hp
  have hs0 := X.sz
  obtain ⟨locs, Y, N, zs, eT⟩ := X
  obtain ⟨cl, B, e1, e2, e3⟩ := A
  have FC : FitC Z cl := fitC_of B fun i hi v hv => e3 v (by rw [e1] at hv; simp at hv; exact List.mem_of_getElem? hv)
  obtain ⟨T', h', X', e', ex, A', E', stp⟩ := cloneA Y C.1 C.hZ C.ow w1 w2 w3 w4 w5 w6 eT B E FC (g := mkF m pc Ls (.ref a :: st)) rfl (hsz.trans C.ml.symm) rfl (C.cd hd) hf (W := (st.map fun v => v.category).sum) (cap := cap) (by show 2 * 0 + _ ≤ _; omega) hl (by rw [e1]; simpa using hcap) hc hsl
  exact Go.back stp (hr T' h' _ rfl hs0 ex ⟨_, A', e1, e2, e3⟩ E' ⟨_, X', N, zs, e'⟩)

theorem Laid.of {cn O fn d : String} (w : (Jvm.Cond.lays cn O fn d).before a0 Z = true) : Laid Z a0 cn O fn d := Or.inl w
theorem Laid.ofF {cn O fn d : String} (w : (Jvm.Cond.laysFinal cn O fn d).before a0 Z = true) : Laid Z a0 cn O fn d := Or.inr w
end Steps1
/-! numbers -/
theorem i_add {a b : Int32} {x y : Int} (ha : a.toInt = x) (hb : b.toInt = y) (h1 : -2147483648 ≤ x + y) (h2 : x + y < 2147483648) : (a + b).toInt = x + y := by have := c_iadd a b; have := rng32 (a + b); omega
theorem i_sub {a b : Int32} {x y : Int} (ha : a.toInt = x) (hb : b.toInt = y) (h1 : -2147483648 ≤ x - y) (h2 : x - y < 2147483648) : (a - b).toInt = x - y := by have := c_isub a b; have := rng32 (a - b); omega
theorem i_mul {a b : Int32} {x y : Int} (ha : a.toInt = x) (hb : b.toInt = y) (h1 : -2147483648 ≤ x * y) (h2 : x * y < 2147483648) : (a * b).toInt = x * y := by have := c_imul a b; have := rng32 (a * b); rw [ha, hb] at *; generalize x * y = z at *; omega
theorem l_add {a b : Int64} {x y : Int} (ha : a.toInt = x) (hb : b.toInt = y) (h1 : -9223372036854775808 ≤ x + y) (h2 : x + y < 9223372036854775808) : (a + b).toInt = x + y := by have := c_ladd a b; have := rng64 (a + b); omega
theorem l_sub {a b : Int64} {x y : Int} (ha : a.toInt = x) (hb : b.toInt = y) (h1 : -9223372036854775808 ≤ x - y) (h2 : x - y < 9223372036854775808) : (a - b).toInt = x - y := by have := c_lsub a b; have := rng64 (a - b); omega
theorem l_mul {a b : Int64} {x y : Int} (ha : a.toInt = x) (hb : b.toInt = y) (h1 : -9223372036854775808 ≤ x * y) (h2 : x * y < 9223372036854775808) : (a * b).toInt = x * y := by have := c_lmul a b; have := rng64 (a * b); rw [ha, hb] at *; generalize x * y = z at *; omega
theorem i_div {a b : Int32} {x y : Int} (ha : a.toInt = x) (hb : b.toInt = y) (h1 : 0 ≤ x) (h2 : 0 < y) : (a / b).toInt = x / y := by
  have := (c_idiv a b y hb (fun q => by subst q; have : (-1 : Int32).toInt = -1 := rfl; omega)).1 (by omega); rw [this, ha]
theorem l_div {a b : Int64} {x y : Int} (ha : a.toInt = x) (hb : b.toInt = y) (h1 : 0 ≤ x) (h2 : 0 < y) : (a / b).toInt = x / y := by
  have := (c_ldiv a b y hb (fun q => by subst q; have : (-1 : Int64).toInt = -1 := rfl; omega)).1 (by omega); rw [this, ha]
theorem i_rem {a b : Int32} {x y : Int} (ha : a.toInt = x) (hb : b.toInt = y) (h1 : 0 ≤ x) : (a % b).toInt = x % y := by
  have := (c_irem a b y hb).1 (by omega); rw [this, ha]
theorem l_rem {a b : Int64} {x y : Int} (ha : a.toInt = x) (hb : b.toInt = y) (h1 : 0 ≤ x) : (a % b).toInt = x % y := by
  rw [← lrem_mod]; have := (c_lrem a b y hb).1 (by omega); rw [this, ha]
/-- arrays of ints and longs as lists -/
def ia (xs : List Int32) : List Value := xs.map Value.int
def ja (xs : List Int64) : List Value := xs.map Value.long
def at32 (xs : List Int32) (i : Int32) : Int32 := xs.getD i.toNatClampNeg 0
def at64 (xs : List Int64) (i : Int32) : Int64 := xs.getD i.toNatClampNeg 0
def put32 (xs : List Int32) (i y : Int32) : List Int32 := xs.set i.toNatClampNeg y
def put64 (xs : List Int64) (i : Int32) (y : Int64) : List Int64 := xs.set i.toNatClampNeg y
theorem clamp_lt {i : Int32} {n : Nat} (h0 : 0 ≤ i.toInt) (h1 : i.toInt < n) : i.toNatClampNeg < n := by
  have := clamp_eq h0
  omega
theorem ia_at {xs : List Int32} {i : Int32} (h0 : 0 ≤ i.toInt) (h1 : i.toInt < xs.length) : (ia xs)[i.toNatClampNeg]? = some (.int (at32 xs i)) := by
  have := clamp_lt h0 h1; simp [ia, at32, this]
theorem ja_at {xs : List Int64} {i : Int32} (h0 : 0 ≤ i.toInt) (h1 : i.toInt < xs.length) : (ja xs)[i.toNatClampNeg]? = some (.long (at64 xs i)) := by
  have := clamp_lt h0 h1; simp [ja, at64, this]
theorem ia_put (xs : List Int32) (i y : Int32) : (ia xs).set i.toNatClampNeg (.int y) = ia (put32 xs i y) := by simp [ia, put32, List.map_set]
theorem ja_put (xs : List Int64) (i : Int32) (y : Int64) : (ja xs).set i.toNatClampNeg (.long y) = ja (put64 xs i y) := by simp [ja, put64, List.map_set]
theorem ia_len (xs : List Int32) : (ia xs).length = xs.length := by simp [ia]
theorem ja_len (xs : List Int64) : (ja xs).length = xs.length := by simp [ja]
theorem put32_len (xs : List Int32) (i y : Int32) : (put32 xs i y).length = xs.length := by simp [put32]
theorem put64_len (xs : List Int64) (i : Int32) (y : Int64) : (put64 xs i y).length = xs.length := by simp [put64]
theorem La.of {Z : State} {h : Heap} {a : Addr} {ty : FieldType} {c : Cell} (A : Arr Z h a c ty) (vs : List Value) (hl : c.slots.size = vs.length) (h31 : vs.length < 2 ^ 31) (H : ∀ i, i < vs.length → c.slots[i]? = vs[i]?) (G : ∀ v ∈ vs, fits ty v = true) : La Z h a ty vs := by
  refine ⟨c, A, Array.ext_getElem? fun i => ?_, h31, G⟩
  by_cases q : i < vs.length
  · rw [H i q]; simp
  · rw [Array.getElem?_eq_none (by omega)]; simp; omega
theorem eqv_r {Z : State} {args : Array Value} {X F : Term} {idx : List Nat} {y : Addr} (hF : F.eval args Z none idx Z = some (.ref y)) (h : (Jvm.Cond.eq X F).value args Z none Z idx = some true) : X.eval args Z none idx Z = some (.ref y) := by
  simp only [Jvm.Cond.value, hF] at h
  cases hx : X.eval args Z none idx Z with
  | none => simp [hx] at h
  | some v => cases v <;> simp [hx] at h ⊢; exact h
theorem i_eq {a b : Int32} (h : a.toInt = b.toInt) : a = b := Int32.toInt_inj.mp h
theorem l_eq {a b : Int64} (h : a.toInt = b.toInt) : a = b := Int64.toInt_inj.mp h
theorem i_ne {a b : Int32} (h : ¬ a = b) : ¬ a.toInt = b.toInt := fun q => h (i_eq q)
theorem l_ne {a b : Int64} (h : ¬ a = b) : ¬ a.toInt = b.toInt := fun q => h (l_eq q)
section Steps2
variable {p : Program} {l : Launch} {e : Env} {R : Room} {s : State} {m : MethodId} {args : Array Value} {below : List Frame} {meth : Method} {c : Code} {Z : State} {a0 : Array Value} {own : String} {bytes : ByteArray} {maxL : Nat} {ret : Option FieldType} {nm : String} {n0 : Nat} {T : State} {h : Heap} {k n : Nat} {Q : Outcome → State → Prop} {pc pc' pc2 idx : Nat} {Ls Ls' : Array Slot} {st : List Value}
theorem la_arv {a : Addr} {ty : FieldType} {vs : List Value} (F : La Z h a ty vs) (d : Value) : ∃ k, Arv Z h a k ty (Int32.ofNat vs.length) vs d := by
  obtain ⟨c, A, e1, e2, e3⟩ := F
  have ec : (Int32.ofNat vs.length).toNatClampNeg = vs.length := Int32.toNatClampNeg_ofNat_of_lt e2
  refine ⟨c.cls, c, A, rfl, ?_, ?_, fun i hi => ?_, fun i hi => ?_⟩
  · rw [ec, e1]; simp
  · have q := Int32.toInt_ofNat_of_lt e2
    exact neg_not (by rw [q]; omega)
  · rw [e1] at hi ⊢; simp at hi; simp [hi]
  · rw [e1] at hi; simp at hi
    have q : vs.getD i d = vs[i] := by simp [hi]
    rw [q]; exact e3 _ (List.getElem_mem hi)
theorem arv_la {a : Addr} {kc : ClassId} {ty : FieldType} {z : Int32} {vs : List Value} {d : Value} (F : Arv Z h a kc ty z vs d) (hl : z.toNatClampNeg = vs.length) (h31 : vs.length < 2 ^ 31) : La Z h a ty vs := by
  obtain ⟨c, A, -, e2, -, H, G⟩ := F
  refine La.of A vs (e2.trans hl) h31 (fun i hi => ?_) (fun v hv => ?_)
  · rw [H i (by omega)]; simp [hi]
  · obtain ⟨i, hi, rfl⟩ := List.mem_iff_getElem.mp hv
    have q := G i (by omega)
    simpa [hi] using q
theorem go_copy0 (C : Cx p s m meth c Z a0 own bytes maxL ret nm) (X : St Z p l e R s m args below meth c n0 T h k n) {a b : Addr} {ty : FieldType} {vs vd : List Value} (w1 : (Jvm.Cond.methodLink own idx Jvm.Stand.acN).before a0 Z = true) (w2 : (Jvm.Cond.native Jvm.Stand.acN).before a0 Z = true) (w3 : (Jvm.Cond.static Jvm.Stand.acN).before a0 Z = true) (w4 : (Jvm.Cond.initialized "java/lang/System").before a0 Z = true) (A : La Z h a ty vs) (B : La Z h b ty vd) (hty : refKind ty = false) (ge : n0 ≤ b)
    (hf : 1 ≤ R.frames) (hl : (st.map fun v => v.category).sum + (nativeFrameWords "java/lang/System" "arraycopy" 5 + 11) ≤ R.locals) (hsz : Ls.size = maxL) (hp : pc + 3 = pc') (hd : decode bytes pc = .ok (.invokestatic idx, 3))
    (hr : ∀ T' h', Keep h h' [b] → La Z h' b ty vd → St Z p l e R s m args below meth c n0 T' h' k n → Go p e below Q (T'.setTop (mkF m pc' Ls st))) : Go p e below Q (T.setTop (mkF m pc Ls (.int 0 :: .int 0 :: .ref b :: .int 0 :: .ref a :: st))) := by
  subst hp
  obtain ⟨locs, Y, N, zs, eT⟩ := X
  obtain ⟨k1, A1⟩ := la_arv A .null
  obtain ⟨k2, B1⟩ := la_arv B .null
  have z0 : (0 : Int32).toNatClampNeg = 0 := by decide
  obtain ⟨T', h', L, X', e', N', K, B2, stp⟩ := cpA Y C.1 C.hZ C.ow w1 w2 w3 w4 eT A1 B1 (us := []) (sp := 0) (dp := 0) (nn := 0) (Or.inl ⟨rfl, hty⟩) (by decide) (by decide) (by decide) (by rw [z0]; omega) (by rw [z0]; omega) (by first | rfl | simp [z0]) (by rw [z0]; omega) N ge (g := mkF m pc Ls (.int 0 :: .int 0 :: .ref b :: .int 0 :: .ref a :: st)) rfl (hsz.trans C.ml.symm) rfl (C.cd hd) hf (W := (st.map fun v => v.category).sum) (by show 2 * 0 + _ ≤ _; omega) hl
  rw [z0] at B2
  have ev : vd.take 0 ++ [] ++ vd.drop (0 + 0) = vd := by simp
  rw [ev] at B2
  exact Go.back stp (hr T' h' K (arv_la B2 (Int32.toNatClampNeg_ofNat_of_lt B.len) B.len) ⟨_, X', N', zs, e'⟩)
end Steps2
section Wide
variable {p : Program} {l : Launch} {e : Env} {R : Room} {s s0 : State} {m : MethodId} {args : Array Value} {below : List Frame} {meth : Method} {c : Code} {Z : State} {a0 : Array Value} {own : String} {bytes : ByteArray} {maxL : Nat} {ret : Option FieldType} {nm : String} {n0 : Nat} {T : State} {h h' : Heap} {k n : Nat} {Q : Outcome → State → Prop} {pc pc' pc2 idx : Nat} {Ls Ls' : Array Slot} {st : List Value} {EL : List (String × Nat)} {kc kn : Nat} {Qy : Option Value → Heap → Prop} {y : MethodName} {yb : ByteArray} {yl : Nat} {yr : Option FieldType} {rm : Room} {as' : Array Value} {QY : Option Value → Heap → Prop} {argsL rest : List Value}
/-- beside St, in a walk that may intern: s is the true start s0 with the tables at hand; whatever is booked for an entry of EL says its text -/
def Wi (Z : State) (EL : List (String × Nat)) (s0 s : State) (h : Heap) : Prop := s = s0.setVm s.vm ∧ (∃ k0, s0.Since s.vm k0 ∧ k0 ≤ h.size) ∧ CHr Z EL s0.vm s0.heap s.vm h
theorem Wi.start (H : CHv Z EL s.vm h) (hh : s.heap = h) : Wi Z EL s s h := ⟨rfl, ⟨h.size, (State.WarmedH.refl s).since _, Nat.le_refl _⟩, by subst hh; exact CHr.refl H⟩
theorem Wi.on (W : Wi Z EL s0 s h) (B : CHr Z EL s.vm h s.vm h') : Wi Z EL s0 s h' := by
  obtain ⟨e1, ⟨k0, hS, hk⟩, A⟩ := W
  exact ⟨e1, ⟨k0, hS, Nat.le_trans hk B.2.1⟩, A.trans B⟩
theorem Wi.ext (W : Wi Z EL s0 s h) (E : Ext h h') : Wi Z EL s0 s h' := W.on (CHr.ext E W.2.2.1)
theorem Wi.wr (W : Wi Z EL s0 s h) {a : Addr} {sl : Nat} {v : Value} (X : Wr h h' a sl v) (S : Safe Z EL s.vm h a) : Wi Z EL s0 s h' := W.on (CHr.wr X S W.2.2.1)
theorem Wi.keep (W : Wi Z EL s0 s h) {ws : List Addr} (K : Keep h h' ws) (S : ∀ x ∈ ws, Safe Z EL s.vm h x) : Wi Z EL s0 s h' := W.on (CHr.keep K S W.2.2.1)
theorem safeE (C : Cx p s m meth c Z a0 own bytes maxL ret nm) {a : Addr} {cn : String} (E : Exa Z h a cn) (h1 : cn ≠ "java/lang/String") (h2 : cn ≠ "[B") : Safe Z EL s.vm h a := Safe.exa C.hZ.alike E h1 h2
theorem safeA (C : Cx p s m meth c Z a0 own bytes maxL ret nm) {a : Addr} {ty : FieldType} {vs : List Value} (A : La Z h a ty vs) (h1 : ty ≠ .byte) : Safe Z EL s.vm h a := by
  obtain ⟨cl, B, -⟩ := A
  exact Safe.arr C.hZ.alike B h1
theorem Cx.re (C : Cx p s m meth c Z a0 own bytes maxL ret nm) {vm1 : Vm} (W : s.Warmed39 vm1) : Cx p (s.setVm vm1) m meth c Z a0 own bytes maxL ret nm :=
  ⟨C.1, State.Warmed39.trans (t := s) C.hZ W, C.2.2.1, (W.alike.findClass _ _).trans C.ow, C.2.2.2.2⟩
/-- the end of such a walk -/
def FinW (Z : State) (EL : List (String × Nat)) (s0 : State) (k n n0 : Nat) (Q : Option Value → Heap → Prop) (o : Outcome) (t : State) : Prop := ∃ v L, o = .returned v ∧ (Fr n0 L ∧ Q v t.heap) ∧ CHr Z EL s0.vm s0.heap t.vm t.heap ∧ ReturnedEndW s0 o t L k n
def ConW (l : Launch) (Z : State) (EL : List (String × Nat)) (y : MethodName) (bytes : ByteArray) (maxL : Nat) (ret : Option FieldType) (rm : Room) (as' : Array Value) (h : Heap) (n0 : Nat) (Q : Option Value → Heap → Prop) : Prop :=
  ∀ ws, MetFree l y (head1 (Jvm.Cond.code y bytes maxL ret :: ws) rm) (fun a U => a = as' ∧ Z.Warmed39 U.vm ∧ U.heap = h ∧ CHv Z EL U.vm h) (fun _ _ _ _ _ => True) (fun _ U o U' => ∃ v L, o = .returned v ∧ (Fr n0 L ∧ Q v U'.heap) ∧ CHr Z EL U.vm U.heap U'.vm U'.heap ∧ ReturnedEndW U o U' L rm.cells rm.slots)
theorem conW_of (hw : ∀ d ∈ tables_1, d.before a0 Z = true) (hpl : plainFor y = true) (hn0 : Old Z n0 h)
    (body : ∀ p e sv0 s m below meth c T, Cx p s m meth c Z a0 y.cls bytes maxL ret y.name → Wi Z EL sv0 s h → St Z p l e rm s m as' below meth c n0 T h 0 0 → Go p e below (FinW Z EL sv0 rm.cells rm.slots n0 Qy) (T.setTop (entryFrame m as' maxL))) :
    ConW l Z EL y bytes maxL ret rm as' h n0 Qy := by
  intro ws
  refine MetFree.of_bodySF hpl hisR ?_
  intro p e s m args below meth c s₁ Bd hml0 hP hK
  obtain ⟨rfl, hZ, hh, H⟩ := hP
  have e0 : s₁.heap = h := by rw [← hh, Bd.state]; rfl
  exact body p e s s m below meth c s₁ ⟨Bd.exec, hZ, hw, findClass_of_methodNamed Bd.named, Bd.bytes, hml0, Bd.returns, Bd.notSynchronized, (name_of_methodNamed Bd.named Bd.method).1⟩ (Wi.start H hh) ⟨[], Stand.of_body Bd, Fr.nil n0, by rw [hh]; exact hn0, e0⟩
theorem go_leaveW (C : Cx p s m meth c Z a0 own bytes maxL ret nm) (X : St Z p l e R s m args below meth c n0 T h k n) (W : Wi Z EL s0 s h) (hEL : EW Z a0 EL) {v : Option Value} {f : JFrame} (hv : meth.sig.returnType = none → v = none) (hQ : Qy v h) (hk : k ≤ kc) (hn : n ≤ kn)
    (go : ∀ {locs : List Loc} (Y : Stand p l e R s m args below meth c T locs k n) {fs : List Frame}, (∀ (f : JFrame) (acts : List Action), f.method = m → f.locked = none → f.entered = [] → (doReturn e (T.setTop f) acts v).1 = T.setFrames fs) → Steps p.tables e below (T.setTop f) (T.setFrames fs)) :
    Go p e below (FinW Z EL s0 kc kn n0 Qy) (T.setTop f) := by
  obtain ⟨locs, Y, N, -, rfl⟩ := X
  obtain ⟨es, ⟨k0, hS, hk0⟩, A⟩ := W
  have Y' : Stand p l e R (s0.setVm s.vm) m args below meth c T locs k n := by rw [← es]; exact Y
  obtain ⟨fs, hr, hrun, hended, hE⟩ := Jvm.Stand.leaveW Y' hS hk0 hv C.lk
  have B : CHr Z EL s.vm T.heap T.vm T.heap := CHv.at Y' C.hZ hEL A.1
  exact ⟨_, _, go Y hr, hrun, hended, _, _, rfl, ⟨N, hQ⟩, A.trans B, hE.1, hE.2.1, hE.2.2.1, hE.2.2.2.mono hk hn⟩
theorem go_retAW {ty : FieldType} (C : Cx p s m meth c Z a0 own bytes maxL (some ty) nm) (X : St Z p l e R s m args below meth c n0 T h k n) (W : Wi Z EL s0 s h) (hEL : EW Z a0 EL) {v : Value} (hd : decode bytes pc = .ok (.areturn, 1)) (ht : ty.isReference = true) (hv : v.isRef = true) (hQ : Qy (some v) h) (hk : k ≤ kc) (hn : n ≤ kn) : Go p e below (FinW Z EL s0 kc kn n0 Qy) (T.setTop (mkF m pc Ls (v :: st))) :=
  go_leaveW C X W hEL (fun q => by rw [C.rt] at q; cases q) hQ hk hn fun Y _ hr => retOut Y C.1 C.rt (by cases ty <;> first | (cases ht; done) | rfl) (Or.inr (Or.inr (Or.inr (Or.inr ⟨rfl, ht, hv⟩)))) (C.cd hd) hr
theorem go_retNW {ty : FieldType} (C : Cx p s m meth c Z a0 own bytes maxL (some ty) nm) (X : St Z p l e R s m args below meth c n0 T h k n) (W : Wi Z EL s0 s h) (hEL : EW Z a0 EL) {z z' : Int32} (ht : ty = .boolean ∨ ty = .byte ∨ ty = .char ∨ ty = .short) (hz : nar ty z = z') (hd : decode bytes pc = .ok (.ireturn, 1)) (hQ : Qy (some (.int z')) h) (hk : k ≤ kc) (hn : n ≤ kn) : Go p e below (FinW Z EL s0 kc kn n0 Qy) (T.setTop (mkF m pc Ls (.int z :: st))) := by
  subst hz
  exact go_leaveW C X W hEL (fun q => by rw [C.rt] at q; cases q) hQ hk hn fun Y _ hr => retN Y C.1 C.rt ht (C.cd hd) hr
theorem go_ret0W (C : Cx p s m meth c Z a0 own bytes maxL none nm) (X : St Z p l e R s m args below meth c n0 T h k n) (W : Wi Z EL s0 s h) (hEL : EW Z a0 EL) (hd : decode bytes pc = .ok (.return_, 1)) (hQ : Qy none h) (hk : k ≤ kc) (hn : n ≤ kn) : Go p e below (FinW Z EL s0 kc kn n0 Qy) (T.setTop (mkF m pc Ls [])) :=
  go_leaveW C X W hEL (fun _ => rfl) hQ hk hn fun Y _ hr => Y.returnOut C.1 C.rt (C.cd hd) hr
theorem go_ldcH (C : Cx p s m meth c Z a0 own bytes maxL ret nm) (X : St Z p l e R s m args below meth c n0 T h k n) (W : Wi Z EL s0 s h) (hEL : EW Z a0 EL) {text : String} (w : (Jvm.Cond.stringLink own idx text).before a0 Z = true) (wS : ∀ a ∈ Bundle.stringAtoms, a.before a0 Z = true) (hmem : (own, idx) ∈ EL)
    {vs : List Value} {z : Int32} (ht : (∀ c ∈ text.toList, c.toNat < 256) ∧ text.toList.map (fun c => Value.int (Jvm.Lit.byteI c.toNat.toUInt16)) = vs) (hz : ¬ z < 0) (hzl : z.toNatClampNeg = vs.length) {q : Nat} (hq : 4 * text.toList.length ≤ q) (hbig : q ≤ 536870912) (hc : k + 2 ≤ R.cells) (hl : n + (q + 4) ≤ R.slots) (hp : pc + 2 = pc') (hd : decode bytes pc = .ok (.ldc idx, 2))
    (hr : ∀ s' T' h' a b, Cx p s' m meth c Z a0 own bytes maxL ret nm → Wi Z EL s0 s' h' → Ext h h' → Exa Z h' a "java/lang/String" → Fld Z h' a "java/lang/String" "coder" "B" (.int 0) → Fld Z h' a "java/lang/String" "value" "[B" (.ref b) → La Z h' b .byte vs → (∀ x, Safe Z EL s'.vm h' x → x ≠ a ∧ x ≠ b) → (∀ x, x < h.size → Safe Z EL s.vm h x → Safe Z EL s'.vm h' x) → St Z p l e R s' m args below meth c n0 T' h' (k + 2) (n + (q + 4)) → Go p e below Q (T'.setTop (mkF m pc' Ls (.ref a :: st)))) :
    Go p e below Q (T.setTop (mkF m pc Ls st)) := by
  subst hp
  obtain ⟨locs, Y, N, zs, eT⟩ := X
  obtain ⟨es, ⟨k0, hS, hk0⟩, A⟩ := W
  have Y' : Stand p l e R (s0.setVm s.vm) m args below meth c T locs k n := by rw [← es]; exact Y
  obtain ⟨a, T', h', k1, b, kk, X', e', E, hS', hk1, hW, hf, r1, r2, r3, r4, -, -, hC, -, hne, stp⟩ := ldcCH Y' C.1 C.hZ C.ow w wS eT hS hk0 hEL hmem A.1 ht hz hzl (g := mkF m pc Ls st) rfl (C.cd hd) hq hbig hc hl
  have l31 : vs.length < 2 ^ 31 := by rw [← hzl]; exact (back32 hz).2
  refine Go.back stp (hr (s0.setVm T'.vm) T' h' a b ⟨C.1, hW, C.2.2.1, hf, C.2.2.2.2⟩ ⟨rfl, ⟨k1, hS', hk1⟩, A.trans hC⟩ E r1 r2 r3 (arv_la r4 hzl l31) hne (fun x hx S => hC.safe hx S) ⟨_, X', N, ?_, e'⟩)
  have q0 : Old Z n0 (s0.setVm s.vm).heap := by rw [← es]; exact zs
  exact q0
theorem go_callSW (C : Cx p s m meth c Z a0 own bytes maxL ret nm) (X : St Z p l e R s m args below meth c n0 T h k n) (W : Wi Z EL s0 s h) (hEL : EW Z a0 EL) (wl : (Jvm.Cond.methodLink own idx y).before a0 Z = true) (ws : (Jvm.Cond.static y).before a0 Z = true) (wi : (Jvm.Cond.initialized y.cls).before a0 Z = true) (wc : (Jvm.Cond.code y yb yl yr).before a0 Z = true)
    (hM : ConW l Z EL y yb yl yr rm as' h n0 QY) (hlen : ∀ sig, parseMethodDescriptor y.desc = some sig → argsL.length = sig.parameters.length) (ha : argsL.toArray = as') (hy : y.cls ≠ "java/lang/invoke/MethodHandle" ∧ y.cls ≠ "java/lang/invoke/VarHandle")
    (hf : rm.frames + 1 ≤ R.frames) (hl : (rest.map fun v => v.category).sum + (yl + 11) + rm.locals ≤ R.locals) (hc : k + rm.cells ≤ R.cells) (hn : n + rm.slots ≤ R.slots) (hst : st = argsL.reverse ++ rest) (hsz : Ls.size = maxL) (hp : pc + 3 = pc') (hd : decode bytes pc = .ok (.invokestatic idx, 3))
    (hr : ∀ s' T' h' v, QY v h' → Cx p s' m meth c Z a0 own bytes maxL ret nm → Wi Z EL s0 s' h' → St Z p l e R s' m args below meth c n0 T' h' (k + rm.cells) (n + rm.slots) → Go p e below Q (T'.setTop (mkF m pc' Ls (v.toList ++ rest)))) : Go p e below Q (T.setTop (mkF m pc Ls st)) := by
  subst hp; subst ha; subst hst
  obtain ⟨locs, Y, N, zs, eT⟩ := X
  obtain ⟨es, ⟨k0, hS, hk0⟩, A⟩ := W
  have BK : BackS l R p e below s args y 3 ((rest.map fun v => v.category).sum) (fun A a => a = argsL.toArray ∧ A.U.heap = h ∧ A.cells + rm.cells ≤ R.cells ∧ A.slots + rm.slots ≤ R.slots) (fun A _ v B => ∃ L, (Fr n0 L ∧ QY v B.U.heap) ∧ B.locs = A.locs ++ L ∧ B.cells = A.cells + rm.cells ∧ B.slots = A.slots + rm.slots ∧ CHr Z EL s.vm h B.U.vm B.U.heap) :=
    backOfSH (s := s) (vm0 := s.vm) (Q := fun v h' L => Fr n0 L ∧ QY v h') (hM []) C.hZ wc wi hf hl hEL A.1
  obtain ⟨v, _, ⟨T', L', k', n'⟩, -, X', hS2, hg, ⟨Lc, ⟨N', hQ⟩, l1, y1, z1, hR⟩, stp⟩ := callSS Y C.1 C.ow (mvT C.hZ wl) (mvT C.hZ ws) (mvT C.hZ wi) (mvT C.hZ wc) hy BK (g := mkF m pc Ls (argsL.reverse ++ rest)) rfl (hsz.trans C.ml.symm) (argsL := argsL) (rest := rest) hlen rfl (by show 2 * 0 + _ ≤ _; omega) (C.cd hd) (fun _ _ => ⟨rfl, eT, hc, hn⟩)
  dsimp only [Pt.U, Pt.locs, Pt.cells, Pt.slots] at X' l1 y1 z1 stp hQ hS2 hg hR
  subst l1 y1 z1
  have h2 : (s0.setVm s.vm).Since T'.vm T'.heap.size := by rw [← es]; exact hS2
  have hk2 : k0 ≤ T'.heap.size := Nat.le_trans hk0 (by rw [← eT]; exact hg)
  exact Go.back (fun t kt => stp.trans kt) (hr (s.setVm T'.vm) T' T'.heap v hQ (C.re hS2.1) ⟨congrArg (fun z => z.setVm T'.vm) es, ⟨_, hS.trans h2 hk2, Nat.le_refl _⟩, A.trans hR⟩ ⟨_, X', N.app N', zs, rfl⟩)
theorem go_bastore (C : Cx p s m meth c Z a0 own bytes maxL ret nm) (X : St Z p l e R s m args below meth c n0 T h k n) {a : Addr} {vs : List Value} {j x : Int32} (A : La Z h a .byte vs) (q : 0 ≤ j.toInt) (hj : j.toInt < vs.length) (ga : n0 ≤ a) (hp : pc + 1 = pc') (hd : decode bytes pc = .ok (.bastore, 1))
    (hr : ∀ T' h', Wr h h' a j.toNatClampNeg (.int (nar .byte x)) → La Z h' a .byte (vs.set j.toNatClampNeg (.int (nar .byte x))) → St Z p l e R s m args below meth c n0 T' h' k n → Go p e below Q (T'.setTop (mkF m pc' Ls st))) : Go p e below Q (T.setTop (mkF m pc Ls (.int x :: .int j :: .ref a :: st))) := by
  subst hp
  obtain ⟨locs, Y, N, zs, eT⟩ := X
  have A' := A
  obtain ⟨cl, B, e1, e2, e3⟩ := A
  have i1 : ¬ (j < 0 ∨ cl.slots.size ≤ j.toNatClampNeg) := fun r => r.elim (neg_not q) fun r => by
    rw [e1] at r; simp at r; have := clamp_eq q; omega
  obtain ⟨T', h', X', e', W, stp⟩ := stB Y C.1 C.hZ eT B i1 (g := mkF m pc Ls (.int x :: .int j :: .ref a :: st)) rfl rfl (C.cd hd)
  exact Go.back stp (hr T' h' W (A'.set W (fits_nar_byte _)) ⟨_, X', Fr.snoc X' N ga, zs, e'⟩)
theorem go_lookMiss (C : Cx p s m meth c Z a0 own bytes maxL ret nm) (X : St Z p l e R s m args below meth c n0 T h k n) {df : Int} {prs : Array (Int × Int)} {ln : Nat} {z : Int32} (hd : decode bytes pc = .ok (.lookupswitch df prs, ln)) (hs : (prs.toList.zip (prs.toList.drop 1)).all (fun (a, next) => a.1 < next.1) = true) (hf : prs.find? (·.1 == z.toInt) = none) (ho : 0 ≤ (pc : Int) + df) (hp2 : ((pc : Int) + df).toNat = pc2)
    (hr : Go p e below Q (T.setTop (mkF m pc2 Ls st))) : Go p e below Q (T.setTop (mkF m pc Ls (.int z :: st))) := by
  subst hp2
  obtain ⟨locs, Y, -, -, -⟩ := X
  exact Go.back (fun t kt => Jvm.Stand.lookupswitchMiss Y C.1 (g := mkF m pc Ls (.int z :: st)) rfl rfl (C.cd hd) hs hf ho t kt) hr
theorem go_specialW (C : Cx p s m meth c Z a0 own bytes maxL ret nm) (X : St Z p l e R s m args below meth c n0 T h k n) (W : Wi Z EL s0 s h) (hEL : EW Z a0 EL) {a : Addr} (wl : (Jvm.Cond.methodLink own idx y).before a0 Z = true) (ws : (Jvm.Cond.instanceMethod y).before a0 Z = true) (wi : (Jvm.Cond.initialized y.cls).before a0 Z = true) (wc : (Jvm.Cond.code y yb yl none).before a0 Z = true) (hy1 : y.name = "<init>")
    (hM : ConW l Z EL y yb yl none rm as' h n0 QY) (hlen : ∀ sig, parseMethodDescriptor y.desc = some sig → argsL.length = sig.parameters.length) (ha : (.ref a :: argsL).toArray = as') (hy : y.cls ≠ "java/lang/invoke/MethodHandle" ∧ y.cls ≠ "java/lang/invoke/VarHandle")
    (hf : rm.frames + 1 ≤ R.frames) (hl : (rest.map fun v => v.category).sum + (yl + 11) + rm.locals ≤ R.locals) (hc : k + rm.cells ≤ R.cells) (hn : n + rm.slots ≤ R.slots) (hst : st = argsL.reverse ++ .ref a :: rest) (hsz : Ls.size = maxL) (hp : pc + 3 = pc') (hd : decode bytes pc = .ok (.invokespecial idx, 3))
    (hr : ∀ s' T' h' v, QY v h' → Cx p s' m meth c Z a0 own bytes maxL ret nm → Wi Z EL s0 s' h' → St Z p l e R s' m args below meth c n0 T' h' (k + rm.cells) (n + rm.slots) → Go p e below Q (T'.setTop (mkF m pc' Ls (v.toList ++ rest)))) : Go p e below Q (T.setTop (mkF m pc Ls st)) := by
  subst hp; subst ha; subst hst
  obtain ⟨locs, Y, N, zs, eT⟩ := X
  obtain ⟨es, ⟨k0, hS, hk0⟩, A⟩ := W
  have BK : BackS l R p e below s args y 3 ((rest.map fun v => v.category).sum) (fun A b => b = (.ref a :: argsL).toArray ∧ A.U.heap = h ∧ A.cells + rm.cells ≤ R.cells ∧ A.slots + rm.slots ≤ R.slots) (fun A _ v B => ∃ L, (Fr n0 L ∧ QY v B.U.heap) ∧ B.locs = A.locs ++ L ∧ B.cells = A.cells + rm.cells ∧ B.slots = A.slots + rm.slots ∧ CHr Z EL s.vm h B.U.vm B.U.heap) :=
    backOfSH (s := s) (vm0 := s.vm) (Q := fun v h' L => Fr n0 L ∧ QY v h') (hM []) C.hZ wc wi hf hl hEL A.1
  obtain ⟨v, _, ⟨T', L', k', n'⟩, -, X', hS2, hg, ⟨Lc, ⟨N', hQ⟩, l1, y1, z1, hR⟩, stp⟩ := Y.specialBackS C.1 hy1 C.ow (mvT C.hZ wl) (mvT C.hZ ws) (mvT C.hZ wc) hy BK (g := mkF m pc Ls (argsL.reverse ++ .ref a :: rest)) rfl (hsz.trans C.ml.symm) (Steps.refl _) (a := a) (argsL := argsL) (rest := rest) hlen rfl (by show 2 * 0 + _ ≤ _; omega) (C.cd hd) (fun _ _ => ⟨rfl, eT, hc, hn⟩)
  dsimp only [Pt.U, Pt.locs, Pt.cells, Pt.slots] at X' l1 y1 z1 stp hQ hS2 hg hR
  subst l1 y1 z1
  have h2 : (s0.setVm s.vm).Since T'.vm T'.heap.size := by rw [← es]; exact hS2
  have hk2 : k0 ≤ T'.heap.size := Nat.le_trans hk0 (by rw [← eT]; exact hg)
  exact Go.back (fun t kt => stp.trans kt) (hr (s.setVm T'.vm) T' T'.heap v hQ (C.re hS2.1) ⟨congrArg (fun z => z.setVm T'.vm) es, ⟨_, hS.trans h2 hk2, Nat.le_refl _⟩, A.trans hR⟩ ⟨_, X', N.app N', zs, rfl⟩)
theorem go_castore (C : Cx p s m meth c Z a0 own bytes maxL ret nm) (X : St Z p l e R s m args below meth c n0 T h k n) {a : Addr} {vs : List Value} {j x : Int32} (A : La Z h a .char vs) (q : 0 ≤ j.toInt) (hj : j.toInt < vs.length) (ga : n0 ≤ a) (hp : pc + 1 = pc') (hd : decode bytes pc = .ok (.castore, 1))
    (hr : ∀ T' h', Wr h h' a j.toNatClampNeg (.int (nar .char x)) → La Z h' a .char (vs.set j.toNatClampNeg (.int (nar .char x))) → St Z p l e R s m args below meth c n0 T' h' k n → Go p e below Q (T'.setTop (mkF m pc' Ls st))) : Go p e below Q (T.setTop (mkF m pc Ls (.int x :: .int j :: .ref a :: st))) := by
  subst hp
  obtain ⟨locs, Y, N, zs, eT⟩ := X
  have A' := A
  obtain ⟨cl, B, e1, e2, e3⟩ := A
  have i1 : ¬ (j < 0 ∨ cl.slots.size ≤ j.toNatClampNeg) := fun r => r.elim (neg_not q) fun r => by
    rw [e1] at r; simp at r; have := clamp_eq q; omega
  obtain ⟨T', h', X', e', W, stp⟩ := stC Y C.1 C.hZ eT B i1 (g := mkF m pc Ls (.int x :: .int j :: .ref a :: st)) rfl rfl (C.cd hd)
  exact Go.back stp (hr T' h' W (A'.set W (fits_nar_char _)) ⟨_, X', Fr.snoc X' N ga, zs, e'⟩)
theorem go_inst (C : Cx p s m meth c Z a0 own bytes maxL ret nm) (X : St Z p l e R s m args below meth c n0 T h k n) {cn : String} {a : Addr} (w : (Jvm.Cond.classLink own idx cn).before a0 Z = true) (F : Ins Z h a cn true) (hp : pc + 3 = pc') (hd : decode bytes pc = .ok (.instanceof idx, 3)) (hr : ∀ T', St Z p l e R s m args below meth c n0 T' h k n → Go p e below Q (T'.setTop (mkF m pc' Ls (.int 1 :: st)))) : Go p e below Q (T.setTop (mkF m pc Ls (.ref a :: st))) := by
  subst hp
  obtain ⟨locs, Y, N, zs, eT⟩ := X
  obtain ⟨T', X', e', stp⟩ := instY Y C.1 C.hZ C.ow w eT F (g := mkF m pc Ls (.ref a :: st)) rfl rfl (C.cd hd)
  exact Go.back stp (hr T' ⟨_, X', N, zs, e'⟩)
/-- a String whose bytes aren't laid yet is no booked one -/
theorem safeN (C : Cx p s m meth c Z a0 own bytes maxL ret nm) {a : Addr} (E : Exa Z h a "java/lang/String") (F : Fld Z h a "java/lang/String" "value" "[B" .null) : Safe Z EL s.vm h a := fun B => by
  obtain ⟨pp, -, u, a', -, q, -, G, hy⟩ := B
  rcases hy with rfl | rfl
  · obtain ⟨cS, ⟨⟨s1, s2, s3, ⟨cv, kv, iv, s4, s4'⟩, -, s6, s7, s8, -⟩, -, -⟩, -⟩ := G
    obtain ⟨kv', z4⟩ := ff_back (U := Wst Z s.vm h) C.hZ.alike s4
    obtain ⟨cell, cf, k, i, f, h1, h2, h3, h4, h5, h6, h7⟩ := F
    cases h1.symm.trans (show h[q.sa]? = some q.sC from s1)
    cases h2.symm.trans z4
    rw [s8] at h7
    cases h7
  · obtain ⟨cell, k, e1, e2, e3, -, -⟩ := E
    cases (show h[q.sd]? = some q.SA from G.hd).symm.trans e1
    obtain ⟨cS, -, -, f, -⟩ := G
    have f' : s.vm.findClass "[B" = some q.SA.cls := f
    rw [C.hZ.alike.findClass] at f'
    obtain ⟨k1, q1, q2⟩ := Vm.findClass_spec f'
    obtain ⟨k2, q3, q4⟩ := Vm.findClass_spec e2
    cases q1.symm.trans q3
    have bad : "[B" = "java/lang/String" := q2.symm.trans q4
    exact absurd bad (by decide)
theorem la_uni {a : Addr} {ty ty' : FieldType} {vs vs' : List Value} (A : La Z h a ty vs) (B : La Z h a ty' vs') : vs = vs' := by
  obtain ⟨c1, A1, A2, -⟩ := A
  obtain ⟨c2, B1, B2, -⟩ := B
  cases A1.1.symm.trans B1.1
  have e := A2.symm.trans B2
  simpa using e
end Wide

theorem own_wS {Z : State} {a0 : Array Value} (hw : ∀ d ∈ tables_1, d.before a0 Z = true) : ∀ a ∈ Bundle.stringAtoms, a.before a0 Z = true := by
  intro a ha
  have e : Bundle.stringAtoms = [.initialized "java/lang/String", .instantiable "java/lang/String" 4, .arrayClass .byte, .laysFinal "java/lang/String" "java/lang/String" "value" "[B", .laysFinal "java/lang/String" "java/lang/String" "coder" "B", .soleField "java/lang/String" "value", .soleField "java/lang/String" "coder"] := rfl
  rw [e] at ha
  simp only [List.mem_cons, List.not_mem_nil, or_false] at ha
  rcases ha with rfl | rfl | rfl | rfl | rfl | rfl | rfl
  · exact hw _ (List.mem_of_getElem? (i := 3) rfl)
  · exact hw _ (List.mem_of_getElem? (i := 2) rfl)
  · exact hw _ (List.mem_of_getElem? (i := 15) rfl)
  · exact hw _ (List.mem_of_getElem? (i := 16) rfl)
  · exact hw _ (List.mem_of_getElem? (i := 17) rfl)
  · exact hw _ (List.mem_of_getElem? (i := 18) rfl)
  · exact hw _ (List.mem_of_getElem? (i := 19) rfl)
theorem own_ch76 : "--help".toList = ['-', '-', 'h', 'e', 'l', 'p'] := by first | rfl | exact String.toList_ofList | decide +kernel | simp
theorem own_lit76 : (∀ c ∈ "--help".toList, c.toNat < 256) ∧ "--help".toList.map (fun c => Value.int (Jvm.Lit.byteI c.toNat.toUInt16)) = [.int 45, .int 45, .int 104, .int 101, .int 108, .int 112] := by
  rw [own_ch76]
  exact ⟨by decide, by first | rfl | decide +kernel⟩
theorem own_len76 : 4 * "--help".toList.length ≤ 24 := by rw [own_ch76]; decide
theorem own_ch81 : "-h".toList = ['-', 'h'] := by first | rfl | exact String.toList_ofList | decide +kernel | simp
theorem own_lit81 : (∀ c ∈ "-h".toList, c.toNat < 256) ∧ "-h".toList.map (fun c => Value.int (Jvm.Lit.byteI c.toNat.toUInt16)) = [.int 45, .int 104] := by
  rw [own_ch81]
  exact ⟨by decide, by first | rfl | decide +kernel⟩
theorem own_len81 : 4 * "-h".toList.length ≤ 8 := by rw [own_ch81]; decide
theorem own_ch26 : "--help".toList = ['-', '-', 'h', 'e', 'l', 'p'] := by first | rfl | exact String.toList_ofList | decide +kernel | simp
theorem own_lit26 : (∀ c ∈ "--help".toList, c.toNat < 256) ∧ "--help".toList.map (fun c => Value.int (Jvm.Lit.byteI c.toNat.toUInt16)) = [.int 45, .int 45, .int 104, .int 101, .int 108, .int 112] := by
  rw [own_ch26]
  exact ⟨by decide, by first | rfl | decide +kernel⟩
theorem own_len26 : 4 * "--help".toList.length ≤ 24 := by rw [own_ch26]; decide
theorem own_ch32 : "-h".toList = ['-', 'h'] := by first | rfl | exact String.toList_ofList | decide +kernel | simp
theorem own_lit32 : (∀ c ∈ "-h".toList, c.toNat < 256) ∧ "-h".toList.map (fun c => Value.int (Jvm.Lit.byteI c.toNat.toUInt16)) = [.int 45, .int 104] := by
  rw [own_ch32]
  exact ⟨by decide, by first | rfl | decide +kernel⟩
theorem own_len32 : 4 * "-h".toList.length ≤ 8 := by rw [own_ch32]; decide
theorem own_ch7 : "".toList = [] := by first | rfl | exact String.toList_ofList | decide +kernel | simp
theorem own_lit7 : (∀ c ∈ "".toList, c.toNat < 256) ∧ "".toList.map (fun c => Value.int (Jvm.Lit.byteI c.toNat.toUInt16)) = [] := by
  rw [own_ch7]
  exact ⟨by decide, by first | rfl | decide +kernel⟩
theorem own_len7 : 4 * "".toList.length ≤ 0 := by rw [own_ch7]; decide
theorem own_nar255 {z : Int32} (h0 : 0 ≤ z.toInt) (h1 : z.toInt ≤ 255) : 0 ≤ (nar .char z).toInt ∧ (nar .char z).toInt ≤ 255 := by
  have e1 := c_i2c z
  show 0 ≤ (z.toUInt32.toUInt16.toUInt32.toInt32).toInt ∧ (z.toUInt32.toUInt16.toUInt32.toInt32).toInt ≤ 255
  omega
theorem own_nc {z : Int32} (h0 : 0 ≤ z.toInt) (h1 : z.toInt ≤ 255) : nar .char z = z := by
  have e1 := c_i2c z
  apply i_eq
  show z.toUInt32.toUInt16.toUInt32.toInt32.toInt = z.toInt
  omega
theorem own_pb2 (x : Int32) : 0 ≤ ((x &&& 255).toUInt32.toUInt16.toUInt32.toInt32).toInt ∧ ((x &&& 255).toUInt32.toUInt16.toUInt32.toInt32).toInt ≤ 255 := by
  have e := c_mask x 255 8 (by decide) (by decide)
  have e1 := c_i2c (x &&& 255)
  omega
theorem own_pb1 (x : Int64) : 0 ≤ ((x &&& 255).toInt32.toUInt32.toUInt16.toUInt32.toInt32).toInt ∧ ((x &&& 255).toInt32.toUInt32.toUInt16.toUInt32.toInt32).toInt ≤ 255 := by
  have e := c_maskL x 255 8 (by decide) (by decide)
  have e0 := c_l2i (x &&& 255)
  have r := rng32 (x &&& 255).toInt32
  have e1 := c_i2c (x &&& 255).toInt32
  omega
theorem own_l32 {n : Nat} {z : Int32} (h : (n : Int) = z.toInt) : n.toInt32 = z := by
  have r := rng32 z
  have q : (Int32.ofNat n).toInt = (n : Int) := Int32.toInt_ofNat_of_lt (by show n < 2147483648; omega)
  exact i_eq (q.trans h)
theorem own_irep (n : Nat) (z : Int32) : List.replicate n (Value.int z) = ia (List.replicate n z) := by simp [ia]
def own_b (c : Int32) : Int32 := nar .byte (c.toInt8.toInt32)
def own_ok (n : Int32) (xs : List Int32) : Prop := (xs.length : Int) = n.toInt ∧ ∀ q ∈ xs, 0 ≤ q.toInt ∧ q.toInt ≤ 255
theorem own_ok_rep {n : Int32} (h : 0 ≤ n.toInt) : own_ok n (List.replicate n.toNatClampNeg 0) := by
  refine ⟨by rw [List.length_replicate]; exact clamp_eq h, fun q hq => ?_⟩
  obtain ⟨-, rfl⟩ := List.mem_replicate.mp hq
  decide
theorem own_ok_put {n : Int32} {xs : List Int32} {j c : Int32} (h : own_ok n xs) (h0 : 0 ≤ c.toInt) (h1 : c.toInt ≤ 255) : own_ok n (put32 xs j c) := by
  refine ⟨by rw [put32_len]; exact h.1, fun q hq => ?_⟩
  rcases List.mem_or_eq_of_mem_set hq with r | r
  · exact h.2 q r
  · subst r; exact ⟨h0, h1⟩
theorem own_at_ok {n : Int32} {xs : List Int32} {i : Int32} (h : own_ok n xs) (h0 : 0 ≤ i.toInt) (h1 : i.toInt < xs.length) : 0 ≤ (at32 xs i).toInt ∧ (at32 xs i).toInt ≤ 255 := by
  have l := clamp_lt h0 h1
  have e : at32 xs i = xs[i.toNatClampNeg] := by simp [at32, l]
  rw [e]
  exact h.2 _ (List.getElem_mem l)
theorem own_cstep {xs : List Int32} {i : Int32} (h0 : 0 ≤ i.toInt) (h1 : i.toInt < xs.length) (h2 : xs.length < 2147483648) : put32 ((xs.map own_b).take i.toNatClampNeg ++ List.replicate (xs.length - i.toNatClampNeg) 0) i (own_b (at32 xs i)) = (xs.map own_b).take (i + 1).toNatClampNeg ++ List.replicate (xs.length - (i + 1).toNatClampNeg) 0 := by
  have e1 : (i + 1).toInt = i.toInt + 1 := i_add rfl rfl (by omega) (by omega)
  have c1 := clamp_eq h0
  have c2 := clamp_eq (j := i + 1) (by omega)
  have e2 : (i + 1).toNatClampNeg = i.toNatClampNeg + 1 := by omega
  have hk : i.toNatClampNeg < xs.length := by omega
  have hm : i.toNatClampNeg < (xs.map own_b).length := by rw [List.length_map]; exact hk
  have lt : ((xs.map own_b).take i.toNatClampNeg).length = i.toNatClampNeg := by rw [List.length_take, List.length_map]; omega
  have ea : own_b (at32 xs i) = (xs.map own_b)[i.toNatClampNeg] := by simp [at32, hk]
  have er : xs.length - i.toNatClampNeg = (xs.length - (i.toNatClampNeg + 1)) + 1 := by omega
  unfold put32
  rw [List.set_append_right _ _ (by rw [lt]; exact Nat.le_refl _), lt, Nat.sub_self, er, List.replicate_succ, List.set_cons_zero, e2, List.take_succ_eq_append_getElem hm, List.append_assoc, ea]
  all_goals rfl
theorem own_ss (n : Int32) : n - n = 0 := i_eq (by have e := c_isub n n; have r := rng32 (n - n); have z : (0 : Int32).toInt = 0 := rfl; omega)
def own_eqb (bs ys : List Int32) : Int32 := if bs = ys then 1 else 0
theorem own_eqb1 {bs ys : List Int32} (h : ¬ own_eqb bs ys = 0) : own_eqb bs ys = 1 := by
  unfold own_eqb at h ⊢
  by_cases q : bs = ys
  · rw [if_pos q]
  · rw [if_neg q] at h; exact absurd rfl h
theorem own_eqb0 {bs ys : List Int32} (h : own_eqb bs ys = 0) : ¬ bs = ys := fun q => by
  unfold own_eqb at h
  rw [if_pos q] at h
  exact absurd h (by decide)
def own_hp (bs : List Int32) : Int32 := if own_eqb bs [45, 45, 104, 101, 108, 112] = 0 then (if own_eqb bs [45, 104] = 0 then 0 else 1) else 1
theorem own_l6 : ∀ {xs : List Int32}, xs.length = 6 → ∃ a b c d e f, xs = [a, b, c, d, e, f]
  | [a, b, c, d, e, f], _ => ⟨a, b, c, d, e, f, rfl⟩
theorem own_l2 : ∀ {xs : List Int32}, xs.length = 2 → ∃ a b, xs = [a, b]
  | [a, b], _ => ⟨a, b, rfl⟩
theorem own_all6 {bs : List Int32} (hl : bs.length = 6) (h0 : at32 bs 0 = 45) (h1 : at32 bs 1 = 45) (h2 : at32 bs 2 = 104) (h3 : at32 bs 3 = 101) (h4 : at32 bs 4 = 108) (h5 : at32 bs 5 = 112) : bs = [45, 45, 104, 101, 108, 112] := by
  obtain ⟨a, b, c, d, e, f, rfl⟩ := own_l6 hl
  have e0 : a = 45 := h0
  have e1 : b = 45 := h1
  have e2 : c = 104 := h2
  have e3 : d = 101 := h3
  have e4 : e = 108 := h4
  have e5 : f = 112 := h5
  rw [e0, e1, e2, e3, e4, e5]
theorem own_all2 {bs : List Int32} (hl : bs.length = 2) (h0 : at32 bs 0 = 45) (h1 : at32 bs 1 = 104) : bs = [45, 104] := by
  obtain ⟨a, b, rfl⟩ := own_l2 hl
  have e0 : a = 45 := h0
  have e1 : b = 104 := h1
  rw [e0, e1]
theorem own_bi {c v : Int32} (h0 : 0 ≤ c.toInt) (h1 : c.toInt ≤ 255) (v0 : 0 ≤ v.toInt) (v1 : v.toInt < 128) : own_b c = v ↔ c = v := by
  have e1 := c_i2b c
  have e2 := c_i2b (c.toInt8.toInt32)
  have e3 : (own_b c).toInt = ((c.toInt8.toInt32).toInt8.toInt32).toInt := rfl
  exact ⟨fun q => i_eq (by have := congrArg Int32.toInt q; omega), fun q => i_eq (by have := congrArg Int32.toInt q; omega)⟩
def own_ex6 (n : Int32) (xs : List Int32) : Int32 := if n = 6 ∧ at32 xs 0 = 45 ∧ at32 xs 1 = 45 ∧ at32 xs 2 = 104 ∧ at32 xs 3 = 101 ∧ at32 xs 4 = 108 ∧ at32 xs 5 = 112 then 1 else 0
def own_ex (n : Int32) (xs : List Int32) : Int32 := if n = 2 then (if at32 xs 0 = 45 ∧ at32 xs 1 = 104 then 1 else 0) else own_ex6 n xs
theorem own_fin {n : Int32} {xs : List Int32} (h : own_ok n xs) : own_hp (xs.map own_b) = own_ex n xs := by
  obtain ⟨hl, hb⟩ := h
  unfold own_hp own_ex own_ex6
  by_cases h6 : xs.length = 6
  · have n6 : n = 6 := i_eq (by have : (6 : Int32).toInt = 6 := rfl; omega)
    have n2 : ¬ n = 2 := by rw [n6]; decide
    obtain ⟨a, b, c, d, e, f, rfl⟩ := own_l6 h6
    have ba := hb a (by simp)
    have bb := hb b (by simp)
    have bc := hb c (by simp)
    have bd := hb d (by simp)
    have be := hb e (by simp)
    have bf := hb f (by simp)
    rw [if_neg n2]
    have key : ([a, b, c, d, e, f].map own_b = [45, 45, 104, 101, 108, 112]) ↔ (n = 6 ∧ at32 [a, b, c, d, e, f] 0 = 45 ∧ at32 [a, b, c, d, e, f] 1 = 45 ∧ at32 [a, b, c, d, e, f] 2 = 104 ∧ at32 [a, b, c, d, e, f] 3 = 101 ∧ at32 [a, b, c, d, e, f] 4 = 108 ∧ at32 [a, b, c, d, e, f] 5 = 112) := by
      have k0 := own_bi (v := 45) ba.1 ba.2 (by decide) (by decide)
      have k1 := own_bi (v := 45) bb.1 bb.2 (by decide) (by decide)
      have k2 := own_bi (v := 104) bc.1 bc.2 (by decide) (by decide)
      have k3 := own_bi (v := 101) bd.1 bd.2 (by decide) (by decide)
      have k4 := own_bi (v := 108) be.1 be.2 (by decide) (by decide)
      have k5 := own_bi (v := 112) bf.1 bf.2 (by decide) (by decide)
      constructor
      · intro q
        simp only [List.map_cons, List.map_nil, List.cons.injEq, and_true] at q
        exact ⟨n6, k0.mp q.1, k1.mp q.2.1, k2.mp q.2.2.1, k3.mp q.2.2.2.1, k4.mp q.2.2.2.2.1, k5.mp q.2.2.2.2.2⟩
      · intro q
        have q0 : a = 45 := q.2.1
        have q1 : b = 45 := q.2.2.1
        have q2 : c = 104 := q.2.2.2.1
        have q3 : d = 101 := q.2.2.2.2.1
        have q4 : e = 108 := q.2.2.2.2.2.1
        have q5 : f = 112 := q.2.2.2.2.2.2
        simp only [List.map_cons, List.map_nil, List.cons.injEq, and_true]
        exact ⟨k0.mpr q0, k1.mpr q1, k2.mpr q2, k3.mpr q3, k4.mpr q4, k5.mpr q5⟩
    have no2 : ¬ [a, b, c, d, e, f].map own_b = [45, 104] := fun q => by simp at q
    have z2 : own_eqb ([a, b, c, d, e, f].map own_b) [45, 104] = 0 := if_neg no2
    rw [if_pos z2]
    by_cases q : [a, b, c, d, e, f].map own_b = [45, 45, 104, 101, 108, 112]
    · have o1 : ¬ own_eqb ([a, b, c, d, e, f].map own_b) [45, 45, 104, 101, 108, 112] = 0 := by unfold own_eqb; rw [if_pos q]; decide
      rw [if_neg o1, if_pos (key.mp q)]
    · have o1 : own_eqb ([a, b, c, d, e, f].map own_b) [45, 45, 104, 101, 108, 112] = 0 := if_neg q
      rw [if_pos o1, if_neg (fun r => q (key.mpr r))]
  · have n6 : ¬ n = 6 := fun q => h6 (by have := congrArg Int32.toInt q; have z : (6 : Int32).toInt = 6 := rfl; omega)
    have no1 : ¬ xs.map own_b = [45, 45, 104, 101, 108, 112] := fun q => h6 (by have := congrArg List.length q; simpa using this)
    have o1 : own_eqb (xs.map own_b) [45, 45, 104, 101, 108, 112] = 0 := if_neg no1
    rw [if_pos o1]
    by_cases h2 : xs.length = 2
    · have n2 : n = 2 := i_eq (by have : (2 : Int32).toInt = 2 := rfl; omega)
      obtain ⟨a, b, rfl⟩ := own_l2 h2
      have ba := hb a (by simp)
      have bb := hb b (by simp)
      rw [if_pos n2]
      have k0 := own_bi (v := 45) ba.1 ba.2 (by decide) (by decide)
      have k1 := own_bi (v := 104) bb.1 bb.2 (by decide) (by decide)
      by_cases q : [a, b].map own_b = [45, 104]
      · have o2 : ¬ own_eqb ([a, b].map own_b) [45, 104] = 0 := by unfold own_eqb; rw [if_pos q]; decide
        simp only [List.map_cons, List.map_nil, List.cons.injEq, and_true] at q
        rw [if_neg o2, if_pos ⟨k0.mp q.1, k1.mp q.2⟩]
      · have o2 : own_eqb ([a, b].map own_b) [45, 104] = 0 := if_neg q
        rw [if_pos o2, if_neg (fun r => q (by
          have q0 : a = 45 := r.1
          have q1 : b = 104 := r.2
          simp only [List.map_cons, List.map_nil, List.cons.injEq, and_true]
          exact ⟨k0.mpr q0, k1.mpr q1⟩))]
    · have n2 : ¬ n = 2 := fun q => h2 (by have := congrArg Int32.toInt q; have z : (2 : Int32).toInt = 2 := rfl; omega)
      have no2 : ¬ xs.map own_b = [45, 104] := fun q => h2 (by have := congrArg List.length q; simpa using this)
      have o2 : own_eqb (xs.map own_b) [45, 104] = 0 := if_neg no2
      rw [if_pos o2, if_neg n2, if_neg (fun r => n6 r.1)]
theorem d7_0 : decode method_3_code 0 = .ok (.lload_n 2, 1) := by decide +kernel
theorem d7_1 : decode method_3_code 1 = .ok (.bipush 8, 2) := by decide +kernel
theorem d7_3 : decode method_3_code 3 = .ok (.iload_n 0, 1) := by decide +kernel
theorem d7_4 : decode method_3_code 4 = .ok (.imul, 1) := by decide +kernel
theorem d7_5 : decode method_3_code 5 = .ok (.lushr, 1) := by decide +kernel
theorem d7_6 : decode method_3_code 6 = .ok (.ldc2_w 24, 3) := by decide +kernel
theorem d7_9 : decode method_3_code 9 = .ok (.land, 1) := by decide +kernel
theorem d7_10 : decode method_3_code 10 = .ok (.l2i, 1) := by decide +kernel
theorem d7_11 : decode method_3_code 11 = .ok (.i2c, 1) := by decide +kernel
theorem d7_12 : decode method_3_code 12 = .ok (.istore 6, 2) := by decide +kernel
theorem d7_14 : decode method_3_code 14 = .ok (.iload_n 1, 1) := by decide +kernel
theorem d7_15 : decode method_3_code 15 = .ok (.iconst 1, 1) := by decide +kernel
theorem d7_16 : decode method_3_code 16 = .ok (.if_icmp .ne 17, 3) := by decide +kernel
theorem d7_33 : decode method_3_code 33 = .ok (.iload_n 1, 1) := by decide +kernel
theorem d7_34 : decode method_3_code 34 = .ok (.iconst 2, 1) := by decide +kernel
theorem d7_35 : decode method_3_code 35 = .ok (.if_icmp .ne 16, 3) := by decide +kernel
theorem d7_51 : decode method_3_code 51 = .ok (.iload 4, 2) := by decide +kernel
theorem d7_53 : decode method_3_code 53 = .ok (.iload_n 0, 1) := by decide +kernel
theorem d7_54 : decode method_3_code 54 = .ok (.if_icmp .ne 12, 3) := by decide +kernel
theorem d7_66 : decode method_3_code 66 = .ok (.iload 6, 2) := by decide +kernel
theorem d7_68 : decode method_3_code 68 = .ok (.ireturn, 1) := by decide +kernel
theorem d7_57 : decode method_3_code 57 = .ok (.iload 5, 2) := by decide +kernel
theorem d7_59 : decode method_3_code 59 = .ok (.sipush 255, 3) := by decide +kernel
theorem d7_62 : decode method_3_code 62 = .ok (.iand, 1) := by decide +kernel
theorem d7_63 : decode method_3_code 63 = .ok (.i2c, 1) := by decide +kernel
theorem d7_64 : decode method_3_code 64 = .ok (.istore 6, 2) := by decide +kernel
theorem d7_38 : decode method_3_code 38 = .ok (.iload_n 0, 1) := by decide +kernel
theorem d7_39 : decode method_3_code 39 = .ok (.iconst 2, 1) := by decide +kernel
theorem d7_40 : decode method_3_code 40 = .ok (.if_icmp .ge 11, 3) := by decide +kernel
theorem d7_43 : decode method_3_code 43 = .ok (.ldc 32, 2) := by decide +kernel
theorem d7_45 : decode method_3_code 45 = .ok (.iload_n 0, 1) := by decide +kernel
theorem d11_0 : decode jdk_42_method_56_code 0 = .ok (.aload_n 0, 1) := by decide +kernel
theorem d12_0 : decode jdk_42_method_154_code 0 = .ok (.getstatic 38, 3) := by decide +kernel
theorem d12_3 : decode jdk_42_method_154_code 3 = .ok (.ifCond .eq 14, 3) := by decide +kernel
theorem d12_6 : decode jdk_42_method_154_code 6 = .ok (.aload_n 0, 1) := by decide +kernel
theorem d12_7 : decode jdk_42_method_154_code 7 = .ok (.getfield 15, 3) := by decide +kernel
theorem d12_10 : decode jdk_42_method_154_code 10 = .ok (.ifCond .ne 7, 3) := by decide +kernel
theorem d12_13 : decode jdk_42_method_154_code 13 = .ok (.iconst 1, 1) := by decide +kernel
theorem d12_14 : decode jdk_42_method_154_code 14 = .ok (.goto 4, 3) := by decide +kernel
theorem d12_18 : decode jdk_42_method_154_code 18 = .ok (.ireturn, 1) := by decide +kernel
theorem pn_java_lang_String : plainName "java/lang/String" = true := by first | (simp [plainName, overriddenIn]; done) | decide +kernel
theorem ef_own_s12_2 (m : MethodId) (sa : Addr)  : entryFrame m #[(.ref sa)] 1 = mkF m 0 #[rv sa] [] := by
  first | (simp [entryFrame, mkF, argsToLocals, Value.category]; done) | rfl
set_option maxRecDepth 65536 in
set_option maxHeartbeats 40000000 in
theorem own_s12_2 (l : Launch) (Z : State) (a0 : Array Value) (hw : ∀ d ∈ tables_1, d.before a0 Z = true) (sa : Addr) (sb : Addr) (cs : Int32) (fv : Value) (h : Heap) (n0 : Nat) (hn0 : Old Z n0 h) (ES : Exa Z h sa "java/lang/String") (G1 : Fld Z h sa "java/lang/String" "coder" "B" (.int 0)) (G2 : Fld Z h sa "java/lang/String" "value" "[B" (.ref sb)) (AS : La Z h sb .byte [(.int (45 : Int32)), (.int (104 : Int32))]) (hcs : ¬ cs = 0) (S1 : Sta Z Z.heap "java/lang/String" "COMPACT_STRINGS" "Z" (.int cs)) (hfv : fv.isRef = true) (S2 : Sta Z Z.heap "jdk/internal/util/Preconditions" "SIOOBE_FORMATTER" "Ljava/util/function/BiFunction;" fv) :
    Con l Z (⟨"java/lang/String", "isLatin1", "()Z"⟩ : MethodName) jdk_42_method_154_code 1 (some .boolean) ({ frames := 0, cells := 0, slots := 0, locals := 0 } : Room) #[(.ref sa)] h n0 (fun v h' => v = some (.int (1 : Int32)) ∧ h = h') := by
  refine con_of hw (plainFor_of_name pn_java_lang_String) hn0 ?_
  intro p e s m below meth c T0 C X0
  refine Go.cast (congrArg T0.setTop (ef_own_s12_2 m sa)) ?_
  refine go_getS C X0 (C.w 33 rfl) (S1.ext X0.old.2) (pc' := 3) rfl d12_0 (fun T1 X2 => ?_)
  refine go_if_eq C X2 d12_3 (pc' := 6) (pc2 := 17) rfl (by decide) (by decide) (fun (c3 : cs = (0 : Int32)) => False.elim (hcs c3)) (fun (c3 : ¬ cs = (0 : Int32)) => ?_)
  refine go_aloadN C X2 7 rfl d12_6 rfl rfl ?_
  refine go_getF C X2 (C.w 21 rfl) Via.refl G1 (pc' := 10) rfl d12_7 (fun T3 X4 => ?_)
  refine go_if_ne C X4 d12_10 (pc' := 13) (pc2 := 17) rfl (by decide) (by decide) (fun (c10 : ¬ (0 : Int32) = (0 : Int32)) => False.elim (by first | omega | exact absurd c10 (by decide))) (fun (c10 : (0 : Int32) = (0 : Int32)) => ?_)
  refine go_iconst C X4 14 rfl d12_13 (z := 1) rfl ?_
  refine go_goto C X4 d12_14 (pc' := 18) (by decide) (by decide) ?_
  exact go_retN C X4 (by simp) (z' := 1) rfl d12_18 ⟨rfl, rfl⟩ (by decide) (by decide)
theorem pd_0 : parseMethodDescriptor "()Z" = some ⟨[], some .boolean⟩ := by decide +kernel
theorem d11_1 : decode jdk_42_method_56_code 1 = .ok (.invokevirtual 492, 3) := by decide +kernel
theorem d11_4 : decode jdk_42_method_56_code 4 = .ok (.ifCond .eq 12, 3) := by decide +kernel
theorem d11_7 : decode jdk_42_method_56_code 7 = .ok (.aload_n 0, 1) := by decide +kernel
theorem d11_8 : decode jdk_42_method_56_code 8 = .ok (.getfield 9, 3) := by decide +kernel
theorem d11_11 : decode jdk_42_method_56_code 11 = .ok (.iload_n 1, 1) := by decide +kernel
theorem d13_0 : decode jdk_43_method_2_code 0 = .ok (.iload_n 1, 1) := by decide +kernel
theorem d13_1 : decode jdk_43_method_2_code 1 = .ok (.aload_n 0, 1) := by decide +kernel
theorem d13_2 : decode jdk_43_method_2_code 2 = .ok (.arraylength, 1) := by decide +kernel
theorem d14_0 : decode jdk_42_method_155_code 0 = .ok (.iload_n 0, 1) := by decide +kernel
theorem d14_1 : decode jdk_42_method_155_code 1 = .ok (.iload_n 1, 1) := by decide +kernel
theorem d14_2 : decode jdk_42_method_155_code 2 = .ok (.getstatic 1053, 3) := by decide +kernel
theorem d15_0 : decode jdk_41_method_11_code 0 = .ok (.iload_n 0, 1) := by decide +kernel
theorem d15_1 : decode jdk_41_method_11_code 1 = .ok (.ifCond .lt 8, 3) := by decide +kernel
theorem d15_4 : decode jdk_41_method_11_code 4 = .ok (.iload_n 0, 1) := by decide +kernel
theorem d15_5 : decode jdk_41_method_11_code 5 = .ok (.iload_n 1, 1) := by decide +kernel
theorem d15_6 : decode jdk_41_method_11_code 6 = .ok (.if_icmp .lt 10, 3) := by decide +kernel
theorem d15_16 : decode jdk_41_method_11_code 16 = .ok (.iload_n 0, 1) := by decide +kernel
theorem d15_17 : decode jdk_41_method_11_code 17 = .ok (.ireturn, 1) := by decide +kernel
theorem pn_jdk_internal_util_Preconditions : plainName "jdk/internal/util/Preconditions" = true := by first | (simp [plainName, overriddenIn]; done) | decide +kernel
theorem ef_own_pc_5 (m : MethodId) (fv : Value) (hfv : fv.isRef = true) : entryFrame m #[(.int (0 : Int32)), (.int (2 : Int32)), fv] 3 = mkF m 0 #[iv (0 : Int32), iv (2 : Int32), .val fv] [] := by
  cases fv <;> first | (cases hfv; done) | skip
  all_goals first | (simp [entryFrame, mkF, argsToLocals, Value.category]; done) | rfl
set_option maxRecDepth 65536 in
set_option maxHeartbeats 40000000 in
theorem own_pc_5 (l : Launch) (Z : State) (a0 : Array Value) (hw : ∀ d ∈ tables_1, d.before a0 Z = true) (fv : Value)  (h : Heap) (n0 : Nat) (hn0 : Old Z n0 h) (hfv : fv.isRef = true)  :
    Con l Z (⟨"jdk/internal/util/Preconditions", "checkIndex", "(IILjava/util/function/BiFunction;)I"⟩ : MethodName) jdk_41_method_11_code 3 (some .int) ({ frames := 0, cells := 0, slots := 0, locals := 0 } : Room) #[(.int (0 : Int32)), (.int (2 : Int32)), fv] h n0 (fun v h' => v = some (.int (0 : Int32)) ∧ h = h') := by
  refine con_of hw (plainFor_of_name pn_jdk_internal_util_Preconditions) hn0 ?_
  intro p e s m below meth c T0 C X0
  refine Go.cast (congrArg T0.setTop (ef_own_pc_5 m fv hfv)) ?_
  refine go_iloadN C X0 1 rfl d15_0 rfl ?_
  refine go_if_lt C X0 d15_1 (pc' := 4) (pc2 := 9) rfl (by decide) (by decide) (fun (c1 : 0 < 0) => False.elim (by first | omega | exact absurd c1 (by decide))) (fun (c1 : 0 ≤ 0) => ?_)
  refine go_iloadN C X0 5 rfl d15_4 rfl ?_
  refine go_iloadN C X0 6 rfl d15_5 rfl ?_
  refine go_icmp_lt C X0 d15_6 (pc' := 9) (pc2 := 16) rfl (by decide) (by decide) (fun (c6 : 0 < 2) => ?_) (fun (c6 : 2 ≤ 0) => False.elim (by first | omega | exact absurd c6 (by decide)))
  refine go_iloadN C X0 17 rfl d15_16 rfl ?_
  exact go_retI C X0 d15_17 ⟨rfl, rfl⟩ (by decide) (by decide)
theorem pd_1 : parseMethodDescriptor "(IILjava/util/function/BiFunction;)I" = some ⟨[.int, .int, (.object "java/util/function/BiFunction")], some .int⟩ := by decide +kernel
theorem d14_5 : decode jdk_42_method_155_code 5 = .ok (.invokestatic 1059, 3) := by decide +kernel
theorem d14_8 : decode jdk_42_method_155_code 8 = .ok (.pop, 1) := by decide +kernel
theorem d14_9 : decode jdk_42_method_155_code 9 = .ok (.return_, 1) := by decide +kernel
theorem ef_own_sc_4 (m : MethodId)   : entryFrame m #[(.int (0 : Int32)), (.int (2 : Int32))] 2 = mkF m 0 #[iv (0 : Int32), iv (2 : Int32)] [] := by
  first | (simp [entryFrame, mkF, argsToLocals, Value.category]; done) | rfl
set_option maxRecDepth 65536 in
set_option maxHeartbeats 40000000 in
theorem own_sc_4 (l : Launch) (Z : State) (a0 : Array Value) (hw : ∀ d ∈ tables_1, d.before a0 Z = true)  (cs : Int32) (fv : Value) (h : Heap) (n0 : Nat) (hn0 : Old Z n0 h) (hcs : ¬ cs = 0) (S1 : Sta Z Z.heap "java/lang/String" "COMPACT_STRINGS" "Z" (.int cs)) (hfv : fv.isRef = true) (S2 : Sta Z Z.heap "jdk/internal/util/Preconditions" "SIOOBE_FORMATTER" "Ljava/util/function/BiFunction;" fv) :
    Con l Z (⟨"java/lang/String", "checkIndex", "(II)V"⟩ : MethodName) jdk_42_method_155_code 2 none ({ frames := 1, cells := 0, slots := 0, locals := 14 } : Room) #[(.int (0 : Int32)), (.int (2 : Int32))] h n0 (fun v h' => v = none ∧ h = h') := by
  refine con_of hw (plainFor_of_name pn_java_lang_String) hn0 ?_
  intro p e s m below meth c T0 C X0
  refine Go.cast (congrArg T0.setTop (ef_own_sc_4 m )) ?_
  refine go_iloadN C X0 1 rfl d14_0 rfl ?_
  refine go_iloadN C X0 2 rfl d14_1 rfl ?_
  refine go_getS C X0 (C.w 71 rfl) (S2.ext X0.old.2) (pc' := 5) rfl d14_2 (fun T1 X2 => ?_)
  refine go_callS C X2 (C.w 73 rfl) (C.w 74 rfl) (C.w 72 rfl) (C.w 75 rfl) (own_pc_5 l Z a0 C.ws fv h n0 X2.old hfv) (argsL := [(.int (0 : Int32)), (.int (2 : Int32)), fv]) (rest := []) (lenOf pd_1 rfl) rfl (by decide) (by decide) (Nat.le_of_ble_eq_true rfl) (by decide) (by decide) rfl rfl (pc' := 8) rfl d14_5 ?_
  rintro T3 _ _ ⟨rfl, rfl⟩ X4
  show Go p e below _ (T3.setTop (mkF m 8 #[iv (0 : Int32), iv (2 : Int32)] [(.int (0 : Int32))]))
  refine go_pop C X4 9 rfl d14_8 rfl ?_
  exact go_ret0 C X4 d14_9 ⟨rfl, rfl⟩ (by decide) (by decide)
theorem pd_2 : parseMethodDescriptor "(II)V" = some ⟨[.int, .int], none⟩ := by decide +kernel
theorem d13_3 : decode jdk_43_method_2_code 3 = .ok (.invokestatic 9, 3) := by decide +kernel
theorem d13_6 : decode jdk_43_method_2_code 6 = .ok (.aload_n 0, 1) := by decide +kernel
theorem d13_7 : decode jdk_43_method_2_code 7 = .ok (.iload_n 1, 1) := by decide +kernel
theorem d13_8 : decode jdk_43_method_2_code 8 = .ok (.baload, 1) := by decide +kernel
theorem d13_9 : decode jdk_43_method_2_code 9 = .ok (.sipush 255, 3) := by decide +kernel
theorem d13_12 : decode jdk_43_method_2_code 12 = .ok (.iand, 1) := by decide +kernel
theorem d13_13 : decode jdk_43_method_2_code 13 = .ok (.i2c, 1) := by decide +kernel
theorem d13_14 : decode jdk_43_method_2_code 14 = .ok (.ireturn, 1) := by decide +kernel
theorem pn_java_lang_StringLatin1 : plainName "java/lang/StringLatin1" = true := by first | (simp [plainName, overriddenIn]; done) | decide +kernel
theorem ef_own_lc_3 (m : MethodId) (sb : Addr)  : entryFrame m #[(.ref sb), (.int (0 : Int32))] 2 = mkF m 0 #[rv sb, iv (0 : Int32)] [] := by
  first | (simp [entryFrame, mkF, argsToLocals, Value.category]; done) | rfl
set_option maxRecDepth 65536 in
set_option maxHeartbeats 40000000 in
theorem own_lc_3 (l : Launch) (Z : State) (a0 : Array Value) (hw : ∀ d ∈ tables_1, d.before a0 Z = true) (sb : Addr) (cs : Int32) (fv : Value) (h : Heap) (n0 : Nat) (hn0 : Old Z n0 h) (AS : La Z h sb .byte [(.int (45 : Int32)), (.int (104 : Int32))]) (hcs : ¬ cs = 0) (S1 : Sta Z Z.heap "java/lang/String" "COMPACT_STRINGS" "Z" (.int cs)) (hfv : fv.isRef = true) (S2 : Sta Z Z.heap "jdk/internal/util/Preconditions" "SIOOBE_FORMATTER" "Ljava/util/function/BiFunction;" fv) :
    Con l Z (⟨"java/lang/StringLatin1", "charAt", "([BI)C"⟩ : MethodName) jdk_43_method_2_code 2 (some .char) ({ frames := 2, cells := 0, slots := 0, locals := 27 } : Room) #[(.ref sb), (.int (0 : Int32))] h n0 (fun v h' => v = some (.int (45 : Int32)) ∧ h = h') := by
  refine con_of hw (plainFor_of_name pn_java_lang_StringLatin1) hn0 ?_
  intro p e s m below meth c T0 C X0
  refine Go.cast (congrArg T0.setTop (ef_own_lc_3 m sb)) ?_
  refine go_iloadN C X0 1 rfl d13_0 rfl ?_
  refine go_aloadN C X0 2 rfl d13_1 rfl rfl ?_
  refine go_alen C X0 AS (z := (2 : Int32)) rfl (pc' := 3) rfl d13_2 ?_
  refine go_callS C X0 (C.w 68 rfl) (C.w 69 rfl) (C.w 3 rfl) (C.w 70 rfl) (own_sc_4 l Z a0 C.ws cs fv h n0 X0.old hcs S1 hfv S2) (argsL := [(.int (0 : Int32)), (.int (2 : Int32))]) (rest := []) (lenOf pd_2 rfl) rfl (by decide) (by decide) (Nat.le_of_ble_eq_true rfl) (by decide) (by decide) rfl rfl (pc' := 6) rfl d13_3 ?_
  rintro T1 _ _ ⟨rfl, rfl⟩ X2
  show Go p e below _ (T1.setTop (mkF m 6 #[rv sb, iv (0 : Int32)] []))
  refine go_aloadN C X2 7 rfl d13_6 rfl rfl ?_
  refine go_iloadN C X2 8 rfl d13_7 rfl ?_
  refine go_baloadBytes C X2 AS (by decide) (v := (.int (45 : Int32))) rfl (pc' := 9) rfl d13_8 ?_
  refine go_sipush C X2 12 rfl d13_9 (z := 255) rfl ?_
  refine go_iandL C X2 13 rfl d13_12 (z := (45)) rfl ?_
  refine go_i2c C X2 14 rfl d13_13 ?_
  show Go p e below _ (T1.setTop (mkF m 14 #[rv sb, iv (0 : Int32)] [(.int (45 : Int32))]))
  exact go_retN C X2 (by simp) (z' := 45) rfl d13_14 ⟨rfl, rfl⟩ (by decide) (by decide)
theorem pd_3 : parseMethodDescriptor "([BI)C" = some ⟨[(.array .byte), .int], some .char⟩ := by decide +kernel
theorem d11_12 : decode jdk_42_method_56_code 12 = .ok (.invokestatic 495, 3) := by decide +kernel
theorem d11_15 : decode jdk_42_method_56_code 15 = .ok (.ireturn, 1) := by decide +kernel
theorem ef_own_s11_1 (m : MethodId) (sa : Addr)  : entryFrame m #[(.ref sa), (.int (0 : Int32))] 2 = mkF m 0 #[rv sa, iv (0 : Int32)] [] := by
  first | (simp [entryFrame, mkF, argsToLocals, Value.category]; done) | rfl
set_option maxRecDepth 65536 in
set_option maxHeartbeats 40000000 in
theorem own_s11_1 (l : Launch) (Z : State) (a0 : Array Value) (hw : ∀ d ∈ tables_1, d.before a0 Z = true) (sa : Addr) (sb : Addr) (cs : Int32) (fv : Value) (h : Heap) (n0 : Nat) (hn0 : Old Z n0 h) (ES : Exa Z h sa "java/lang/String") (G1 : Fld Z h sa "java/lang/String" "coder" "B" (.int 0)) (G2 : Fld Z h sa "java/lang/String" "value" "[B" (.ref sb)) (AS : La Z h sb .byte [(.int (45 : Int32)), (.int (104 : Int32))]) (hcs : ¬ cs = 0) (S1 : Sta Z Z.heap "java/lang/String" "COMPACT_STRINGS" "Z" (.int cs)) (hfv : fv.isRef = true) (S2 : Sta Z Z.heap "jdk/internal/util/Preconditions" "SIOOBE_FORMATTER" "Ljava/util/function/BiFunction;" fv) :
    Con l Z (⟨"java/lang/String", "charAt", "(I)C"⟩ : MethodName) jdk_42_method_56_code 2 (some .char) ({ frames := 3, cells := 0, slots := 0, locals := 40 } : Room) #[(.ref sa), (.int (0 : Int32))] h n0 (fun v h' => v = some (.int (45 : Int32)) ∧ h = h') := by
  refine con_of hw (plainFor_of_name pn_java_lang_String) hn0 ?_
  intro p e s m below meth c T0 C X0
  refine Go.cast (congrArg T0.setTop (ef_own_s11_1 m sa)) ?_
  refine go_aloadN C X0 1 rfl d11_0 rfl rfl ?_
  refine go_virtual C X0 ES (C.w 60 rfl) (C.w 61 rfl) (notFace_of_selects (args := #[]) (mvT C.hZ (C.w 63 rfl))) (C.w 63 rfl) (C.w 62 rfl) (C.w 3 rfl) (C.w 64 rfl) (own_s12_2 l Z a0 C.ws sa sb cs fv h n0 X0.old ES G1 G2 AS hcs S1 hfv S2) (argsL := []) (rest := []) (lenOf pd_0 rfl) rfl (by decide) (by decide) (Nat.le_of_ble_eq_true rfl) (by decide) (by decide) rfl rfl (pc' := 4) rfl d11_1 ?_
  rintro T1 _ _ ⟨rfl, rfl⟩ X2
  show Go p e below _ (T1.setTop (mkF m 4 #[rv sa, iv (0 : Int32)] [(.int (1 : Int32))]))
  refine go_if_eq C X2 d11_4 (pc' := 7) (pc2 := 16) rfl (by decide) (by decide) (fun (c4 : (1 : Int32) = (0 : Int32)) => False.elim (by first | omega | exact absurd c4 (by decide))) (fun (c4 : ¬ (1 : Int32) = (0 : Int32)) => ?_)
  refine go_aloadN C X2 8 rfl d11_7 rfl rfl ?_
  refine go_getF C X2 (C.w 20 rfl) Via.refl G2 (pc' := 11) rfl d11_8 (fun T4 X5 => ?_)
  refine go_iloadN C X5 12 rfl d11_11 rfl ?_
  refine go_callS C X5 (C.w 65 rfl) (C.w 66 rfl) (C.w 36 rfl) (C.w 67 rfl) (own_lc_3 l Z a0 C.ws sb cs fv h n0 X5.old AS hcs S1 hfv S2) (argsL := [(.ref sb), (.int (0 : Int32))]) (rest := []) (lenOf pd_3 rfl) rfl (by decide) (by decide) (Nat.le_of_ble_eq_true rfl) (by decide) (by decide) rfl rfl (pc' := 15) rfl d11_12 ?_
  rintro T6 _ _ ⟨rfl, rfl⟩ X7
  show Go p e below _ (T6.setTop (mkF m 15 #[rv sa, iv (0 : Int32)] [(.int (45 : Int32))]))
  exact go_retN C X7 (by simp) (z' := 45) rfl d11_15 ⟨rfl, rfl⟩ (by decide) (by decide)
theorem pd_4 : parseMethodDescriptor "(I)C" = some ⟨[.int], some .char⟩ := by decide +kernel
theorem d7_46 : decode method_3_code 46 = .ok (.invokevirtual 28, 3) := by decide +kernel
theorem d7_49 : decode method_3_code 49 = .ok (.istore 6, 2) := by decide +kernel
theorem d7_19 : decode method_3_code 19 = .ok (.iload_n 0, 1) := by decide +kernel
theorem d7_20 : decode method_3_code 20 = .ok (.bipush 6, 2) := by decide +kernel
theorem d7_22 : decode method_3_code 22 = .ok (.if_icmp .ge 11, 3) := by decide +kernel
theorem d7_25 : decode method_3_code 25 = .ok (.ldc 26, 2) := by decide +kernel
theorem d7_27 : decode method_3_code 27 = .ok (.iload_n 0, 1) := by decide +kernel
theorem ef_own_s12_7 (m : MethodId) (sa : Addr)  : entryFrame m #[(.ref sa)] 1 = mkF m 0 #[rv sa] [] := by
  first | (simp [entryFrame, mkF, argsToLocals, Value.category]; done) | rfl
set_option maxRecDepth 65536 in
set_option maxHeartbeats 40000000 in
theorem own_s12_7 (l : Launch) (Z : State) (a0 : Array Value) (hw : ∀ d ∈ tables_1, d.before a0 Z = true) (sa : Addr) (sb : Addr) (cs : Int32) (fv : Value) (h : Heap) (n0 : Nat) (hn0 : Old Z n0 h) (ES : Exa Z h sa "java/lang/String") (G1 : Fld Z h sa "java/lang/String" "coder" "B" (.int 0)) (G2 : Fld Z h sa "java/lang/String" "value" "[B" (.ref sb)) (AS : La Z h sb .byte [(.int (45 : Int32)), (.int (45 : Int32)), (.int (104 : Int32)), (.int (101 : Int32)), (.int (108 : Int32)), (.int (112 : Int32))]) (hcs : ¬ cs = 0) (S1 : Sta Z Z.heap "java/lang/String" "COMPACT_STRINGS" "Z" (.int cs)) (hfv : fv.isRef = true) (S2 : Sta Z Z.heap "jdk/internal/util/Preconditions" "SIOOBE_FORMATTER" "Ljava/util/function/BiFunction;" fv) :
    Con l Z (⟨"java/lang/String", "isLatin1", "()Z"⟩ : MethodName) jdk_42_method_154_code 1 (some .boolean) ({ frames := 0, cells := 0, slots := 0, locals := 0 } : Room) #[(.ref sa)] h n0 (fun v h' => v = some (.int (1 : Int32)) ∧ h = h') := by
  refine con_of hw (plainFor_of_name pn_java_lang_String) hn0 ?_
  intro p e s m below meth c T0 C X0
  refine Go.cast (congrArg T0.setTop (ef_own_s12_7 m sa)) ?_
  refine go_getS C X0 (C.w 33 rfl) (S1.ext X0.old.2) (pc' := 3) rfl d12_0 (fun T1 X2 => ?_)
  refine go_if_eq C X2 d12_3 (pc' := 6) (pc2 := 17) rfl (by decide) (by decide) (fun (c3 : cs = (0 : Int32)) => False.elim (hcs c3)) (fun (c3 : ¬ cs = (0 : Int32)) => ?_)
  refine go_aloadN C X2 7 rfl d12_6 rfl rfl ?_
  refine go_getF C X2 (C.w 21 rfl) Via.refl G1 (pc' := 10) rfl d12_7 (fun T3 X4 => ?_)
  refine go_if_ne C X4 d12_10 (pc' := 13) (pc2 := 17) rfl (by decide) (by decide) (fun (c10 : ¬ (0 : Int32) = (0 : Int32)) => False.elim (by first | omega | exact absurd c10 (by decide))) (fun (c10 : (0 : Int32) = (0 : Int32)) => ?_)
  refine go_iconst C X4 14 rfl d12_13 (z := 1) rfl ?_
  refine go_goto C X4 d12_14 (pc' := 18) (by decide) (by decide) ?_
  exact go_retN C X4 (by simp) (z' := 1) rfl d12_18 ⟨rfl, rfl⟩ (by decide) (by decide)
theorem ef_own_pc_10 (m : MethodId) (fv : Value) (hfv : fv.isRef = true) : entryFrame m #[(.int (0 : Int32)), (.int (6 : Int32)), fv] 3 = mkF m 0 #[iv (0 : Int32), iv (6 : Int32), .val fv] [] := by
  cases fv <;> first | (cases hfv; done) | skip
  all_goals first | (simp [entryFrame, mkF, argsToLocals, Value.category]; done) | rfl
set_option maxRecDepth 65536 in
set_option maxHeartbeats 40000000 in
theorem own_pc_10 (l : Launch) (Z : State) (a0 : Array Value) (hw : ∀ d ∈ tables_1, d.before a0 Z = true) (fv : Value)  (h : Heap) (n0 : Nat) (hn0 : Old Z n0 h) (hfv : fv.isRef = true)  :
    Con l Z (⟨"jdk/internal/util/Preconditions", "checkIndex", "(IILjava/util/function/BiFunction;)I"⟩ : MethodName) jdk_41_method_11_code 3 (some .int) ({ frames := 0, cells := 0, slots := 0, locals := 0 } : Room) #[(.int (0 : Int32)), (.int (6 : Int32)), fv] h n0 (fun v h' => v = some (.int (0 : Int32)) ∧ h = h') := by
  refine con_of hw (plainFor_of_name pn_jdk_internal_util_Preconditions) hn0 ?_
  intro p e s m below meth c T0 C X0
  refine Go.cast (congrArg T0.setTop (ef_own_pc_10 m fv hfv)) ?_
  refine go_iloadN C X0 1 rfl d15_0 rfl ?_
  refine go_if_lt C X0 d15_1 (pc' := 4) (pc2 := 9) rfl (by decide) (by decide) (fun (c1 : 0 < 0) => False.elim (by first | omega | exact absurd c1 (by decide))) (fun (c1 : 0 ≤ 0) => ?_)
  refine go_iloadN C X0 5 rfl d15_4 rfl ?_
  refine go_iloadN C X0 6 rfl d15_5 rfl ?_
  refine go_icmp_lt C X0 d15_6 (pc' := 9) (pc2 := 16) rfl (by decide) (by decide) (fun (c6 : 0 < 6) => ?_) (fun (c6 : 6 ≤ 0) => False.elim (by first | omega | exact absurd c6 (by decide)))
  refine go_iloadN C X0 17 rfl d15_16 rfl ?_
  exact go_retI C X0 d15_17 ⟨rfl, rfl⟩ (by decide) (by decide)
theorem ef_own_sc_9 (m : MethodId)   : entryFrame m #[(.int (0 : Int32)), (.int (6 : Int32))] 2 = mkF m 0 #[iv (0 : Int32), iv (6 : Int32)] [] := by
  first | (simp [entryFrame, mkF, argsToLocals, Value.category]; done) | rfl
set_option maxRecDepth 65536 in
set_option maxHeartbeats 40000000 in
theorem own_sc_9 (l : Launch) (Z : State) (a0 : Array Value) (hw : ∀ d ∈ tables_1, d.before a0 Z = true)  (cs : Int32) (fv : Value) (h : Heap) (n0 : Nat) (hn0 : Old Z n0 h) (hcs : ¬ cs = 0) (S1 : Sta Z Z.heap "java/lang/String" "COMPACT_STRINGS" "Z" (.int cs)) (hfv : fv.isRef = true) (S2 : Sta Z Z.heap "jdk/internal/util/Preconditions" "SIOOBE_FORMATTER" "Ljava/util/function/BiFunction;" fv) :
    Con l Z (⟨"java/lang/String", "checkIndex", "(II)V"⟩ : MethodName) jdk_42_method_155_code 2 none ({ frames := 1, cells := 0, slots := 0, locals := 14 } : Room) #[(.int (0 : Int32)), (.int (6 : Int32))] h n0 (fun v h' => v = none ∧ h = h') := by
  refine con_of hw (plainFor_of_name pn_java_lang_String) hn0 ?_
  intro p e s m below meth c T0 C X0
  refine Go.cast (congrArg T0.setTop (ef_own_sc_9 m )) ?_
  refine go_iloadN C X0 1 rfl d14_0 rfl ?_
  refine go_iloadN C X0 2 rfl d14_1 rfl ?_
  refine go_getS C X0 (C.w 71 rfl) (S2.ext X0.old.2) (pc' := 5) rfl d14_2 (fun T1 X2 => ?_)
  refine go_callS C X2 (C.w 73 rfl) (C.w 74 rfl) (C.w 72 rfl) (C.w 75 rfl) (own_pc_10 l Z a0 C.ws fv h n0 X2.old hfv) (argsL := [(.int (0 : Int32)), (.int (6 : Int32)), fv]) (rest := []) (lenOf pd_1 rfl) rfl (by decide) (by decide) (Nat.le_of_ble_eq_true rfl) (by decide) (by decide) rfl rfl (pc' := 8) rfl d14_5 ?_
  rintro T3 _ _ ⟨rfl, rfl⟩ X4
  show Go p e below _ (T3.setTop (mkF m 8 #[iv (0 : Int32), iv (6 : Int32)] [(.int (0 : Int32))]))
  refine go_pop C X4 9 rfl d14_8 rfl ?_
  exact go_ret0 C X4 d14_9 ⟨rfl, rfl⟩ (by decide) (by decide)
theorem ef_own_lc_8 (m : MethodId) (sb : Addr)  : entryFrame m #[(.ref sb), (.int (0 : Int32))] 2 = mkF m 0 #[rv sb, iv (0 : Int32)] [] := by
  first | (simp [entryFrame, mkF, argsToLocals, Value.category]; done) | rfl
set_option maxRecDepth 65536 in
set_option maxHeartbeats 40000000 in
theorem own_lc_8 (l : Launch) (Z : State) (a0 : Array Value) (hw : ∀ d ∈ tables_1, d.before a0 Z = true) (sb : Addr) (cs : Int32) (fv : Value) (h : Heap) (n0 : Nat) (hn0 : Old Z n0 h) (AS : La Z h sb .byte [(.int (45 : Int32)), (.int (45 : Int32)), (.int (104 : Int32)), (.int (101 : Int32)), (.int (108 : Int32)), (.int (112 : Int32))]) (hcs : ¬ cs = 0) (S1 : Sta Z Z.heap "java/lang/String" "COMPACT_STRINGS" "Z" (.int cs)) (hfv : fv.isRef = true) (S2 : Sta Z Z.heap "jdk/internal/util/Preconditions" "SIOOBE_FORMATTER" "Ljava/util/function/BiFunction;" fv) :
    Con l Z (⟨"java/lang/StringLatin1", "charAt", "([BI)C"⟩ : MethodName) jdk_43_method_2_code 2 (some .char) ({ frames := 2, cells := 0, slots := 0, locals := 27 } : Room) #[(.ref sb), (.int (0 : Int32))] h n0 (fun v h' => v = some (.int (45 : Int32)) ∧ h = h') := by
  refine con_of hw (plainFor_of_name pn_java_lang_StringLatin1) hn0 ?_
  intro p e s m below meth c T0 C X0
  refine Go.cast (congrArg T0.setTop (ef_own_lc_8 m sb)) ?_
  refine go_iloadN C X0 1 rfl d13_0 rfl ?_
  refine go_aloadN C X0 2 rfl d13_1 rfl rfl ?_
  refine go_alen C X0 AS (z := (6 : Int32)) rfl (pc' := 3) rfl d13_2 ?_
  refine go_callS C X0 (C.w 68 rfl) (C.w 69 rfl) (C.w 3 rfl) (C.w 70 rfl) (own_sc_9 l Z a0 C.ws cs fv h n0 X0.old hcs S1 hfv S2) (argsL := [(.int (0 : Int32)), (.int (6 : Int32))]) (rest := []) (lenOf pd_2 rfl) rfl (by decide) (by decide) (Nat.le_of_ble_eq_true rfl) (by decide) (by decide) rfl rfl (pc' := 6) rfl d13_3 ?_
  rintro T1 _ _ ⟨rfl, rfl⟩ X2
  show Go p e below _ (T1.setTop (mkF m 6 #[rv sb, iv (0 : Int32)] []))
  refine go_aloadN C X2 7 rfl d13_6 rfl rfl ?_
  refine go_iloadN C X2 8 rfl d13_7 rfl ?_
  refine go_baloadBytes C X2 AS (by decide) (v := (.int (45 : Int32))) rfl (pc' := 9) rfl d13_8 ?_
  refine go_sipush C X2 12 rfl d13_9 (z := 255) rfl ?_
  refine go_iandL C X2 13 rfl d13_12 (z := (45)) rfl ?_
  refine go_i2c C X2 14 rfl d13_13 ?_
  show Go p e below _ (T1.setTop (mkF m 14 #[rv sb, iv (0 : Int32)] [(.int (45 : Int32))]))
  exact go_retN C X2 (by simp) (z' := 45) rfl d13_14 ⟨rfl, rfl⟩ (by decide) (by decide)
theorem ef_own_s11_6 (m : MethodId) (sa : Addr)  : entryFrame m #[(.ref sa), (.int (0 : Int32))] 2 = mkF m 0 #[rv sa, iv (0 : Int32)] [] := by
  first | (simp [entryFrame, mkF, argsToLocals, Value.category]; done) | rfl
set_option maxRecDepth 65536 in
set_option maxHeartbeats 40000000 in
theorem own_s11_6 (l : Launch) (Z : State) (a0 : Array Value) (hw : ∀ d ∈ tables_1, d.before a0 Z = true) (sa : Addr) (sb : Addr) (cs : Int32) (fv : Value) (h : Heap) (n0 : Nat) (hn0 : Old Z n0 h) (ES : Exa Z h sa "java/lang/String") (G1 : Fld Z h sa "java/lang/String" "coder" "B" (.int 0)) (G2 : Fld Z h sa "java/lang/String" "value" "[B" (.ref sb)) (AS : La Z h sb .byte [(.int (45 : Int32)), (.int (45 : Int32)), (.int (104 : Int32)), (.int (101 : Int32)), (.int (108 : Int32)), (.int (112 : Int32))]) (hcs : ¬ cs = 0) (S1 : Sta Z Z.heap "java/lang/String" "COMPACT_STRINGS" "Z" (.int cs)) (hfv : fv.isRef = true) (S2 : Sta Z Z.heap "jdk/internal/util/Preconditions" "SIOOBE_FORMATTER" "Ljava/util/function/BiFunction;" fv) :
    Con l Z (⟨"java/lang/String", "charAt", "(I)C"⟩ : MethodName) jdk_42_method_56_code 2 (some .char) ({ frames := 3, cells := 0, slots := 0, locals := 40 } : Room) #[(.ref sa), (.int (0 : Int32))] h n0 (fun v h' => v = some (.int (45 : Int32)) ∧ h = h') := by
  refine con_of hw (plainFor_of_name pn_java_lang_String) hn0 ?_
  intro p e s m below meth c T0 C X0
  refine Go.cast (congrArg T0.setTop (ef_own_s11_6 m sa)) ?_
  refine go_aloadN C X0 1 rfl d11_0 rfl rfl ?_
  refine go_virtual C X0 ES (C.w 60 rfl) (C.w 61 rfl) (notFace_of_selects (args := #[]) (mvT C.hZ (C.w 63 rfl))) (C.w 63 rfl) (C.w 62 rfl) (C.w 3 rfl) (C.w 64 rfl) (own_s12_7 l Z a0 C.ws sa sb cs fv h n0 X0.old ES G1 G2 AS hcs S1 hfv S2) (argsL := []) (rest := []) (lenOf pd_0 rfl) rfl (by decide) (by decide) (Nat.le_of_ble_eq_true rfl) (by decide) (by decide) rfl rfl (pc' := 4) rfl d11_1 ?_
  rintro T1 _ _ ⟨rfl, rfl⟩ X2
  show Go p e below _ (T1.setTop (mkF m 4 #[rv sa, iv (0 : Int32)] [(.int (1 : Int32))]))
  refine go_if_eq C X2 d11_4 (pc' := 7) (pc2 := 16) rfl (by decide) (by decide) (fun (c4 : (1 : Int32) = (0 : Int32)) => False.elim (by first | omega | exact absurd c4 (by decide))) (fun (c4 : ¬ (1 : Int32) = (0 : Int32)) => ?_)
  refine go_aloadN C X2 8 rfl d11_7 rfl rfl ?_
  refine go_getF C X2 (C.w 20 rfl) Via.refl G2 (pc' := 11) rfl d11_8 (fun T4 X5 => ?_)
  refine go_iloadN C X5 12 rfl d11_11 rfl ?_
  refine go_callS C X5 (C.w 65 rfl) (C.w 66 rfl) (C.w 36 rfl) (C.w 67 rfl) (own_lc_8 l Z a0 C.ws sb cs fv h n0 X5.old AS hcs S1 hfv S2) (argsL := [(.ref sb), (.int (0 : Int32))]) (rest := []) (lenOf pd_3 rfl) rfl (by decide) (by decide) (Nat.le_of_ble_eq_true rfl) (by decide) (by decide) rfl rfl (pc' := 15) rfl d11_12 ?_
  rintro T6 _ _ ⟨rfl, rfl⟩ X7
  show Go p e below _ (T6.setTop (mkF m 15 #[rv sa, iv (0 : Int32)] [(.int (45 : Int32))]))
  exact go_retN C X7 (by simp) (z' := 45) rfl d11_15 ⟨rfl, rfl⟩ (by decide) (by decide)
theorem d7_28 : decode method_3_code 28 = .ok (.invokevirtual 28, 3) := by decide +kernel
theorem d7_31 : decode method_3_code 31 = .ok (.istore 6, 2) := by decide +kernel
theorem pn_com_example_bundlewalk_bundlewalk_OptionsIsHelpPinLaw : plainName "com/example/bundlewalk/bundlewalk/OptionsIsHelpPinLaw" = true := by first | (simp [plainName, overriddenIn]; done) | decide +kernel
theorem ef_own_pick_0 (m : MethodId) (kd : Int32) (raw : Int64) (pp : Int32) (ch : Int32)  : entryFrame m #[(.int (0 : Int32)), (.int kd), (.long raw), (.int pp), (.int ch)] 7 = mkF m 0 #[iv (0 : Int32), iv kd, jv raw, sc, iv pp, iv ch, un] [] := by
  first | (simp [entryFrame, mkF, argsToLocals, Value.category]; done) | rfl
set_option maxRecDepth 65536 in
set_option maxHeartbeats 40000000 in
theorem own_pick_0 (l : Launch) (Z : State) (a0 : Array Value) (hw : ∀ d ∈ tables_1, d.before a0 Z = true) (kd : Int32) (raw : Int64) (pp : Int32) (ch : Int32) (cs : Int32) (fv : Value) (h : Heap) (n0 : Nat) (hn0 : Old Z n0 h) (hEL : EW Z a0 consts_1) (hcs : ¬ cs = 0) (S1 : Sta Z Z.heap "java/lang/String" "COMPACT_STRINGS" "Z" (.int cs)) (hfv : fv.isRef = true) (S2 : Sta Z Z.heap "jdk/internal/util/Preconditions" "SIOOBE_FORMATTER" "Ljava/util/function/BiFunction;" fv) :
    ConW l Z consts_1 (⟨"com/example/bundlewalk/bundlewalk/OptionsIsHelpPinLaw", "pick", "(IIJII)C"⟩ : MethodName) method_3_code 7 (some .char) ({ frames := 4, cells := 2, slots := 28, locals := 53 } : Room) #[(.int (0 : Int32)), (.int kd), (.long raw), (.int pp), (.int ch)] h n0 (fun v h' => ∃ cq : Int32, v = some (.int cq) ∧ (0 ≤ cq.toInt ∧ cq.toInt ≤ 255) ∧ Keep h h' []) := by
  refine conW_of hw (plainFor_of_name pn_com_example_bundlewalk_bundlewalk_OptionsIsHelpPinLaw) hn0 ?_
  intro p e sv0 s m below meth c T0 C WI0 X0
  refine Go.cast (congrArg T0.setTop (ef_own_pick_0 m kd raw pp ch)) ?_
  refine go_lloadN C X0 1 rfl d7_0 rfl ?_
  refine go_bipush C X0 3 rfl d7_1 (z := 8) rfl ?_
  refine go_iloadN C X0 4 rfl d7_3 rfl ?_
  refine go_imulL C X0 5 rfl d7_4 (z := (0)) rfl ?_
  refine go_lushr C X0 6 rfl d7_5 ?_
  refine go_ldc2Long C X0 (C.w 43 rfl) (pc' := 9) rfl d7_6 ?_
  refine go_land C X0 10 rfl d7_9 ?_
  refine go_l2i C X0 11 rfl d7_10 ?_
  refine go_i2c C X0 12 rfl d7_11 ?_
  refine go_istore C X0 14 rfl d7_12 #[iv (0 : Int32), iv kd, jv raw, sc, iv pp, iv ch, iv (((((raw.toUInt64 >>> ((0 : Int32) &&& 0x3f).toInt64.toUInt64).toInt64) &&& (255 : Int64)).toInt32).toUInt32.toUInt16.toUInt32.toInt32)] rfl ?_
  refine go_iloadN C X0 15 rfl d7_14 rfl ?_
  refine go_iconst C X0 16 rfl d7_15 (z := 1) rfl ?_
  refine go_icmp_ne C X0 d7_16 (pc' := 19) (pc2 := 33) rfl (by decide) (by decide) (fun (c16 : ¬ kd = (1 : Int32)) => ?_) (fun (c16 : kd = (1 : Int32)) => ?_)
  · refine go_iloadN C X0 34 rfl d7_33 rfl ?_
    refine go_iconst C X0 35 rfl d7_34 (z := 2) rfl ?_
    refine go_icmp_ne C X0 d7_35 (pc' := 38) (pc2 := 51) rfl (by decide) (by decide) (fun (c35 : ¬ kd = (2 : Int32)) => ?_) (fun (c35 : kd = (2 : Int32)) => ?_)
    · refine go_iload C X0 53 rfl d7_51 rfl ?_
      refine go_iloadN C X0 54 rfl d7_53 rfl ?_
      refine go_icmp_ne C X0 d7_54 (pc' := 57) (pc2 := 66) rfl (by decide) (by decide) (fun (c54 : ¬ pp = (0 : Int32)) => ?_) (fun (c54 : pp = (0 : Int32)) => ?_)
      · refine go_iload C X0 68 rfl d7_66 rfl ?_
        exact go_retNW C X0 WI0 hEL (by simp) rfl d7_68 ⟨_, rfl, own_nar255 (own_pb1 _).1 (own_pb1 _).2, (Keep.refl h [])⟩ (by decide) (by decide)
      · refine go_iload C X0 59 rfl d7_57 rfl ?_
        refine go_sipush C X0 62 rfl d7_59 (z := 255) rfl ?_
        refine go_iand C X0 63 rfl d7_62 ?_
        refine go_i2c C X0 64 rfl d7_63 ?_
        refine go_istore C X0 66 rfl d7_64 #[iv (0 : Int32), iv kd, jv raw, sc, iv pp, iv ch, iv ((ch &&& (255 : Int32)).toUInt32.toUInt16.toUInt32.toInt32)] rfl ?_
        refine go_iload C X0 68 rfl d7_66 rfl ?_
        exact go_retNW C X0 WI0 hEL (by simp) rfl d7_68 ⟨_, rfl, own_nar255 (own_pb2 _).1 (own_pb2 _).2, (Keep.refl h [])⟩ (by decide) (by decide)
    · refine go_iloadN C X0 39 rfl d7_38 rfl ?_
      refine go_iconst C X0 40 rfl d7_39 (z := 2) rfl ?_
      refine go_icmp_ge C X0 d7_40 (pc' := 43) (pc2 := 51) rfl (by decide) (by decide) (fun (c40 : 2 ≤ 0) => False.elim (by first | omega | exact absurd c40 (by decide))) (fun (c40 : 0 < 2) => ?_)
      refine go_ldcH C X0 WI0 hEL (C.w 54 rfl) (own_wS C.ws) (List.mem_of_getElem? (i := 3) rfl) (vs := [(.int (45 : Int32)), (.int (104 : Int32))]) (z := 2) (own_lit32) (by decide) (by decide) (q := 8) own_len32 (by decide) (by decide) (by decide) (pc' := 45) rfl d7_43 ?_
      intro s T1 h3 lc ld C WI10 E4 E5 F6 F7 A8 SF9 SFT11 X2
      have K12 := (Keep.refl h []).ext E4
      refine go_iloadN C X2 46 rfl d7_45 rfl ?_
      refine go_virtual C X2 E5 (C.w 55 rfl) (C.w 56 rfl) (notFace_of_selects (args := #[]) (mvT C.hZ (C.w 58 rfl))) (C.w 58 rfl) (C.w 57 rfl) (C.w 3 rfl) (C.w 59 rfl) (own_s11_1 l Z a0 C.ws lc ld cs fv h3 n0 X2.old E5 F6 F7 A8 hcs S1 hfv S2) (argsL := [(.int (0 : Int32))]) (rest := []) (lenOf pd_4 rfl) rfl (by decide) (by decide) (Nat.le_of_ble_eq_true rfl) (by decide) (by decide) rfl rfl (pc' := 49) rfl d7_46 ?_
      rintro T13 _ _ ⟨rfl, rfl⟩ X14
      show Go p e below _ (T13.setTop (mkF m 49 #[iv (0 : Int32), iv kd, jv raw, sc, iv pp, iv ch, iv (((((raw.toUInt64 >>> ((0 : Int32) &&& 0x3f).toInt64.toUInt64).toInt64) &&& (255 : Int64)).toInt32).toUInt32.toUInt16.toUInt32.toInt32)] [(.int (45 : Int32))]))
      refine go_istore C X14 51 rfl d7_49 #[iv (0 : Int32), iv kd, jv raw, sc, iv pp, iv ch, iv (45 : Int32)] rfl ?_
      refine go_iload C X14 53 rfl d7_51 rfl ?_
      refine go_iloadN C X14 54 rfl d7_53 rfl ?_
      refine go_icmp_ne C X14 d7_54 (pc' := 57) (pc2 := 66) rfl (by decide) (by decide) (fun (c54 : ¬ pp = (0 : Int32)) => ?_) (fun (c54 : pp = (0 : Int32)) => ?_)
      · refine go_iload C X14 68 rfl d7_66 rfl ?_
        exact go_retNW C X14 WI10 hEL (by simp) (z' := 45) rfl d7_68 ⟨_, rfl, ⟨by decide, by decide⟩, K12⟩ (by decide) (by decide)
      · refine go_iload C X14 59 rfl d7_57 rfl ?_
        refine go_sipush C X14 62 rfl d7_59 (z := 255) rfl ?_
        refine go_iand C X14 63 rfl d7_62 ?_
        refine go_i2c C X14 64 rfl d7_63 ?_
        refine go_istore C X14 66 rfl d7_64 #[iv (0 : Int32), iv kd, jv raw, sc, iv pp, iv ch, iv ((ch &&& (255 : Int32)).toUInt32.toUInt16.toUInt32.toInt32)] rfl ?_
        refine go_iload C X14 68 rfl d7_66 rfl ?_
        exact go_retNW C X14 WI10 hEL (by simp) rfl d7_68 ⟨_, rfl, own_nar255 (own_pb2 _).1 (own_pb2 _).2, K12⟩ (by decide) (by decide)
  · refine go_iloadN C X0 20 rfl d7_19 rfl ?_
    refine go_bipush C X0 22 rfl d7_20 (z := 6) rfl ?_
    refine go_icmp_ge C X0 d7_22 (pc' := 25) (pc2 := 33) rfl (by decide) (by decide) (fun (c22 : 6 ≤ 0) => False.elim (by first | omega | exact absurd c22 (by decide))) (fun (c22 : 0 < 6) => ?_)
    refine go_ldcH C X0 WI0 hEL (C.w 76 rfl) (own_wS C.ws) (List.mem_of_getElem? (i := 2) rfl) (vs := [(.int (45 : Int32)), (.int (45 : Int32)), (.int (104 : Int32)), (.int (101 : Int32)), (.int (108 : Int32)), (.int (112 : Int32))]) (z := 6) (own_lit26) (by decide) (by decide) (q := 24) own_len26 (by decide) (by decide) (by decide) (pc' := 27) rfl d7_25 ?_
    intro s T16 h18 la lb C WI25 E19 E20 F21 F22 A23 SF24 SFT26 X17
    have K27 := (Keep.refl h []).ext E19
    refine go_iloadN C X17 28 rfl d7_27 rfl ?_
    refine go_virtual C X17 E20 (C.w 55 rfl) (C.w 56 rfl) (notFace_of_selects (args := #[]) (mvT C.hZ (C.w 58 rfl))) (C.w 58 rfl) (C.w 57 rfl) (C.w 3 rfl) (C.w 59 rfl) (own_s11_6 l Z a0 C.ws la lb cs fv h18 n0 X17.old E20 F21 F22 A23 hcs S1 hfv S2) (argsL := [(.int (0 : Int32))]) (rest := []) (lenOf pd_4 rfl) rfl (by decide) (by decide) (Nat.le_of_ble_eq_true rfl) (by decide) (by decide) rfl rfl (pc' := 31) rfl d7_28 ?_
    rintro T28 _ _ ⟨rfl, rfl⟩ X29
    show Go p e below _ (T28.setTop (mkF m 31 #[iv (0 : Int32), iv kd, jv raw, sc, iv pp, iv ch, iv (((((raw.toUInt64 >>> ((0 : Int32) &&& 0x3f).toInt64.toUInt64).toInt64) &&& (255 : Int64)).toInt32).toUInt32.toUInt16.toUInt32.toInt32)] [(.int (45 : Int32))]))
    refine go_istore C X29 33 rfl d7_31 #[iv (0 : Int32), iv kd, jv raw, sc, iv pp, iv ch, iv (45 : Int32)] rfl ?_
    refine go_iloadN C X29 34 rfl d7_33 rfl ?_
    refine go_iconst C X29 35 rfl d7_34 (z := 2) rfl ?_
    refine go_icmp_ne C X29 d7_35 (pc' := 38) (pc2 := 51) rfl (by decide) (by decide) (fun (c35 : ¬ kd = (2 : Int32)) => ?_) (fun (c35 : kd = (2 : Int32)) => False.elim (by rw [c16] at c35; exact absurd c35 (by decide)))
    refine go_iload C X29 53 rfl d7_51 rfl ?_
    refine go_iloadN C X29 54 rfl d7_53 rfl ?_
    refine go_icmp_ne C X29 d7_54 (pc' := 57) (pc2 := 66) rfl (by decide) (by decide) (fun (c54 : ¬ pp = (0 : Int32)) => ?_) (fun (c54 : pp = (0 : Int32)) => ?_)
    · refine go_iload C X29 68 rfl d7_66 rfl ?_
      exact go_retNW C X29 WI25 hEL (by simp) (z' := 45) rfl d7_68 ⟨_, rfl, ⟨by decide, by decide⟩, K27⟩ (by decide) (by decide)
    · refine go_iload C X29 59 rfl d7_57 rfl ?_
      refine go_sipush C X29 62 rfl d7_59 (z := 255) rfl ?_
      refine go_iand C X29 63 rfl d7_62 ?_
      refine go_i2c C X29 64 rfl d7_63 ?_
      refine go_istore C X29 66 rfl d7_64 #[iv (0 : Int32), iv kd, jv raw, sc, iv pp, iv ch, iv ((ch &&& (255 : Int32)).toUInt32.toUInt16.toUInt32.toInt32)] rfl ?_
      refine go_iload C X29 68 rfl d7_66 rfl ?_
      exact go_retNW C X29 WI25 hEL (by simp) rfl d7_68 ⟨_, rfl, own_nar255 (own_pb2 _).1 (own_pb2 _).2, K27⟩ (by decide) (by decide)
theorem ef_own_pc_14 (m : MethodId) (fv : Value) (hfv : fv.isRef = true) : entryFrame m #[(.int (1 : Int32)), (.int (2 : Int32)), fv] 3 = mkF m 0 #[iv (1 : Int32), iv (2 : Int32), .val fv] [] := by
  cases fv <;> first | (cases hfv; done) | skip
  all_goals first | (simp [entryFrame, mkF, argsToLocals, Value.category]; done) | rfl
set_option maxRecDepth 65536 in
set_option maxHeartbeats 40000000 in
theorem own_pc_14 (l : Launch) (Z : State) (a0 : Array Value) (hw : ∀ d ∈ tables_1, d.before a0 Z = true) (fv : Value)  (h : Heap) (n0 : Nat) (hn0 : Old Z n0 h) (hfv : fv.isRef = true)  :
    Con l Z (⟨"jdk/internal/util/Preconditions", "checkIndex", "(IILjava/util/function/BiFunction;)I"⟩ : MethodName) jdk_41_method_11_code 3 (some .int) ({ frames := 0, cells := 0, slots := 0, locals := 0 } : Room) #[(.int (1 : Int32)), (.int (2 : Int32)), fv] h n0 (fun v h' => v = some (.int (1 : Int32)) ∧ h = h') := by
  refine con_of hw (plainFor_of_name pn_jdk_internal_util_Preconditions) hn0 ?_
  intro p e s m below meth c T0 C X0
  refine Go.cast (congrArg T0.setTop (ef_own_pc_14 m fv hfv)) ?_
  refine go_iloadN C X0 1 rfl d15_0 rfl ?_
  refine go_if_lt C X0 d15_1 (pc' := 4) (pc2 := 9) rfl (by decide) (by decide) (fun (c1 : 1 < 0) => False.elim (by first | omega | exact absurd c1 (by decide))) (fun (c1 : 0 ≤ 1) => ?_)
  refine go_iloadN C X0 5 rfl d15_4 rfl ?_
  refine go_iloadN C X0 6 rfl d15_5 rfl ?_
  refine go_icmp_lt C X0 d15_6 (pc' := 9) (pc2 := 16) rfl (by decide) (by decide) (fun (c6 : 1 < 2) => ?_) (fun (c6 : 2 ≤ 1) => False.elim (by first | omega | exact absurd c6 (by decide)))
  refine go_iloadN C X0 17 rfl d15_16 rfl ?_
  exact go_retI C X0 d15_17 ⟨rfl, rfl⟩ (by decide) (by decide)
theorem ef_own_sc_13 (m : MethodId)   : entryFrame m #[(.int (1 : Int32)), (.int (2 : Int32))] 2 = mkF m 0 #[iv (1 : Int32), iv (2 : Int32)] [] := by
  first | (simp [entryFrame, mkF, argsToLocals, Value.category]; done) | rfl
set_option maxRecDepth 65536 in
set_option maxHeartbeats 40000000 in
theorem own_sc_13 (l : Launch) (Z : State) (a0 : Array Value) (hw : ∀ d ∈ tables_1, d.before a0 Z = true)  (cs : Int32) (fv : Value) (h : Heap) (n0 : Nat) (hn0 : Old Z n0 h) (hcs : ¬ cs = 0) (S1 : Sta Z Z.heap "java/lang/String" "COMPACT_STRINGS" "Z" (.int cs)) (hfv : fv.isRef = true) (S2 : Sta Z Z.heap "jdk/internal/util/Preconditions" "SIOOBE_FORMATTER" "Ljava/util/function/BiFunction;" fv) :
    Con l Z (⟨"java/lang/String", "checkIndex", "(II)V"⟩ : MethodName) jdk_42_method_155_code 2 none ({ frames := 1, cells := 0, slots := 0, locals := 14 } : Room) #[(.int (1 : Int32)), (.int (2 : Int32))] h n0 (fun v h' => v = none ∧ h = h') := by
  refine con_of hw (plainFor_of_name pn_java_lang_String) hn0 ?_
  intro p e s m below meth c T0 C X0
  refine Go.cast (congrArg T0.setTop (ef_own_sc_13 m )) ?_
  refine go_iloadN C X0 1 rfl d14_0 rfl ?_
  refine go_iloadN C X0 2 rfl d14_1 rfl ?_
  refine go_getS C X0 (C.w 71 rfl) (S2.ext X0.old.2) (pc' := 5) rfl d14_2 (fun T1 X2 => ?_)
  refine go_callS C X2 (C.w 73 rfl) (C.w 74 rfl) (C.w 72 rfl) (C.w 75 rfl) (own_pc_14 l Z a0 C.ws fv h n0 X2.old hfv) (argsL := [(.int (1 : Int32)), (.int (2 : Int32)), fv]) (rest := []) (lenOf pd_1 rfl) rfl (by decide) (by decide) (Nat.le_of_ble_eq_true rfl) (by decide) (by decide) rfl rfl (pc' := 8) rfl d14_5 ?_
  rintro T3 _ _ ⟨rfl, rfl⟩ X4
  show Go p e below _ (T3.setTop (mkF m 8 #[iv (1 : Int32), iv (2 : Int32)] [(.int (1 : Int32))]))
  refine go_pop C X4 9 rfl d14_8 rfl ?_
  exact go_ret0 C X4 d14_9 ⟨rfl, rfl⟩ (by decide) (by decide)
theorem ef_own_lc_12 (m : MethodId) (sb : Addr)  : entryFrame m #[(.ref sb), (.int (1 : Int32))] 2 = mkF m 0 #[rv sb, iv (1 : Int32)] [] := by
  first | (simp [entryFrame, mkF, argsToLocals, Value.category]; done) | rfl
set_option maxRecDepth 65536 in
set_option maxHeartbeats 40000000 in
theorem own_lc_12 (l : Launch) (Z : State) (a0 : Array Value) (hw : ∀ d ∈ tables_1, d.before a0 Z = true) (sb : Addr) (cs : Int32) (fv : Value) (h : Heap) (n0 : Nat) (hn0 : Old Z n0 h) (AS : La Z h sb .byte [(.int (45 : Int32)), (.int (104 : Int32))]) (hcs : ¬ cs = 0) (S1 : Sta Z Z.heap "java/lang/String" "COMPACT_STRINGS" "Z" (.int cs)) (hfv : fv.isRef = true) (S2 : Sta Z Z.heap "jdk/internal/util/Preconditions" "SIOOBE_FORMATTER" "Ljava/util/function/BiFunction;" fv) :
    Con l Z (⟨"java/lang/StringLatin1", "charAt", "([BI)C"⟩ : MethodName) jdk_43_method_2_code 2 (some .char) ({ frames := 2, cells := 0, slots := 0, locals := 27 } : Room) #[(.ref sb), (.int (1 : Int32))] h n0 (fun v h' => v = some (.int (104 : Int32)) ∧ h = h') := by
  refine con_of hw (plainFor_of_name pn_java_lang_StringLatin1) hn0 ?_
  intro p e s m below meth c T0 C X0
  refine Go.cast (congrArg T0.setTop (ef_own_lc_12 m sb)) ?_
  refine go_iloadN C X0 1 rfl d13_0 rfl ?_
  refine go_aloadN C X0 2 rfl d13_1 rfl rfl ?_
  refine go_alen C X0 AS (z := (2 : Int32)) rfl (pc' := 3) rfl d13_2 ?_
  refine go_callS C X0 (C.w 68 rfl) (C.w 69 rfl) (C.w 3 rfl) (C.w 70 rfl) (own_sc_13 l Z a0 C.ws cs fv h n0 X0.old hcs S1 hfv S2) (argsL := [(.int (1 : Int32)), (.int (2 : Int32))]) (rest := []) (lenOf pd_2 rfl) rfl (by decide) (by decide) (Nat.le_of_ble_eq_true rfl) (by decide) (by decide) rfl rfl (pc' := 6) rfl d13_3 ?_
  rintro T1 _ _ ⟨rfl, rfl⟩ X2
  show Go p e below _ (T1.setTop (mkF m 6 #[rv sb, iv (1 : Int32)] []))
  refine go_aloadN C X2 7 rfl d13_6 rfl rfl ?_
  refine go_iloadN C X2 8 rfl d13_7 rfl ?_
  refine go_baloadBytes C X2 AS (by decide) (v := (.int (104 : Int32))) rfl (pc' := 9) rfl d13_8 ?_
  refine go_sipush C X2 12 rfl d13_9 (z := 255) rfl ?_
  refine go_iandL C X2 13 rfl d13_12 (z := (104)) rfl ?_
  refine go_i2c C X2 14 rfl d13_13 ?_
  show Go p e below _ (T1.setTop (mkF m 14 #[rv sb, iv (1 : Int32)] [(.int (104 : Int32))]))
  exact go_retN C X2 (by simp) (z' := 104) rfl d13_14 ⟨rfl, rfl⟩ (by decide) (by decide)
theorem ef_own_s11_11 (m : MethodId) (sa : Addr)  : entryFrame m #[(.ref sa), (.int (1 : Int32))] 2 = mkF m 0 #[rv sa, iv (1 : Int32)] [] := by
  first | (simp [entryFrame, mkF, argsToLocals, Value.category]; done) | rfl
set_option maxRecDepth 65536 in
set_option maxHeartbeats 40000000 in
theorem own_s11_11 (l : Launch) (Z : State) (a0 : Array Value) (hw : ∀ d ∈ tables_1, d.before a0 Z = true) (sa : Addr) (sb : Addr) (cs : Int32) (fv : Value) (h : Heap) (n0 : Nat) (hn0 : Old Z n0 h) (ES : Exa Z h sa "java/lang/String") (G1 : Fld Z h sa "java/lang/String" "coder" "B" (.int 0)) (G2 : Fld Z h sa "java/lang/String" "value" "[B" (.ref sb)) (AS : La Z h sb .byte [(.int (45 : Int32)), (.int (104 : Int32))]) (hcs : ¬ cs = 0) (S1 : Sta Z Z.heap "java/lang/String" "COMPACT_STRINGS" "Z" (.int cs)) (hfv : fv.isRef = true) (S2 : Sta Z Z.heap "jdk/internal/util/Preconditions" "SIOOBE_FORMATTER" "Ljava/util/function/BiFunction;" fv) :
    Con l Z (⟨"java/lang/String", "charAt", "(I)C"⟩ : MethodName) jdk_42_method_56_code 2 (some .char) ({ frames := 3, cells := 0, slots := 0, locals := 40 } : Room) #[(.ref sa), (.int (1 : Int32))] h n0 (fun v h' => v = some (.int (104 : Int32)) ∧ h = h') := by
  refine con_of hw (plainFor_of_name pn_java_lang_String) hn0 ?_
  intro p e s m below meth c T0 C X0
  refine Go.cast (congrArg T0.setTop (ef_own_s11_11 m sa)) ?_
  refine go_aloadN C X0 1 rfl d11_0 rfl rfl ?_
  refine go_virtual C X0 ES (C.w 60 rfl) (C.w 61 rfl) (notFace_of_selects (args := #[]) (mvT C.hZ (C.w 63 rfl))) (C.w 63 rfl) (C.w 62 rfl) (C.w 3 rfl) (C.w 64 rfl) (own_s12_2 l Z a0 C.ws sa sb cs fv h n0 X0.old ES G1 G2 AS hcs S1 hfv S2) (argsL := []) (rest := []) (lenOf pd_0 rfl) rfl (by decide) (by decide) (Nat.le_of_ble_eq_true rfl) (by decide) (by decide) rfl rfl (pc' := 4) rfl d11_1 ?_
  rintro T1 _ _ ⟨rfl, rfl⟩ X2
  show Go p e below _ (T1.setTop (mkF m 4 #[rv sa, iv (1 : Int32)] [(.int (1 : Int32))]))
  refine go_if_eq C X2 d11_4 (pc' := 7) (pc2 := 16) rfl (by decide) (by decide) (fun (c4 : (1 : Int32) = (0 : Int32)) => False.elim (by first | omega | exact absurd c4 (by decide))) (fun (c4 : ¬ (1 : Int32) = (0 : Int32)) => ?_)
  refine go_aloadN C X2 8 rfl d11_7 rfl rfl ?_
  refine go_getF C X2 (C.w 20 rfl) Via.refl G2 (pc' := 11) rfl d11_8 (fun T4 X5 => ?_)
  refine go_iloadN C X5 12 rfl d11_11 rfl ?_
  refine go_callS C X5 (C.w 65 rfl) (C.w 66 rfl) (C.w 36 rfl) (C.w 67 rfl) (own_lc_12 l Z a0 C.ws sb cs fv h n0 X5.old AS hcs S1 hfv S2) (argsL := [(.ref sb), (.int (1 : Int32))]) (rest := []) (lenOf pd_3 rfl) rfl (by decide) (by decide) (Nat.le_of_ble_eq_true rfl) (by decide) (by decide) rfl rfl (pc' := 15) rfl d11_12 ?_
  rintro T6 _ _ ⟨rfl, rfl⟩ X7
  show Go p e below _ (T6.setTop (mkF m 15 #[rv sa, iv (1 : Int32)] [(.int (104 : Int32))]))
  exact go_retN C X7 (by simp) (z' := 104) rfl d11_15 ⟨rfl, rfl⟩ (by decide) (by decide)
theorem ef_own_pc_18 (m : MethodId) (fv : Value) (hfv : fv.isRef = true) : entryFrame m #[(.int (1 : Int32)), (.int (6 : Int32)), fv] 3 = mkF m 0 #[iv (1 : Int32), iv (6 : Int32), .val fv] [] := by
  cases fv <;> first | (cases hfv; done) | skip
  all_goals first | (simp [entryFrame, mkF, argsToLocals, Value.category]; done) | rfl
set_option maxRecDepth 65536 in
set_option maxHeartbeats 40000000 in
theorem own_pc_18 (l : Launch) (Z : State) (a0 : Array Value) (hw : ∀ d ∈ tables_1, d.before a0 Z = true) (fv : Value)  (h : Heap) (n0 : Nat) (hn0 : Old Z n0 h) (hfv : fv.isRef = true)  :
    Con l Z (⟨"jdk/internal/util/Preconditions", "checkIndex", "(IILjava/util/function/BiFunction;)I"⟩ : MethodName) jdk_41_method_11_code 3 (some .int) ({ frames := 0, cells := 0, slots := 0, locals := 0 } : Room) #[(.int (1 : Int32)), (.int (6 : Int32)), fv] h n0 (fun v h' => v = some (.int (1 : Int32)) ∧ h = h') := by
  refine con_of hw (plainFor_of_name pn_jdk_internal_util_Preconditions) hn0 ?_
  intro p e s m below meth c T0 C X0
  refine Go.cast (congrArg T0.setTop (ef_own_pc_18 m fv hfv)) ?_
  refine go_iloadN C X0 1 rfl d15_0 rfl ?_
  refine go_if_lt C X0 d15_1 (pc' := 4) (pc2 := 9) rfl (by decide) (by decide) (fun (c1 : 1 < 0) => False.elim (by first | omega | exact absurd c1 (by decide))) (fun (c1 : 0 ≤ 1) => ?_)
  refine go_iloadN C X0 5 rfl d15_4 rfl ?_
  refine go_iloadN C X0 6 rfl d15_5 rfl ?_
  refine go_icmp_lt C X0 d15_6 (pc' := 9) (pc2 := 16) rfl (by decide) (by decide) (fun (c6 : 1 < 6) => ?_) (fun (c6 : 6 ≤ 1) => False.elim (by first | omega | exact absurd c6 (by decide)))
  refine go_iloadN C X0 17 rfl d15_16 rfl ?_
  exact go_retI C X0 d15_17 ⟨rfl, rfl⟩ (by decide) (by decide)
theorem ef_own_sc_17 (m : MethodId)   : entryFrame m #[(.int (1 : Int32)), (.int (6 : Int32))] 2 = mkF m 0 #[iv (1 : Int32), iv (6 : Int32)] [] := by
  first | (simp [entryFrame, mkF, argsToLocals, Value.category]; done) | rfl
set_option maxRecDepth 65536 in
set_option maxHeartbeats 40000000 in
theorem own_sc_17 (l : Launch) (Z : State) (a0 : Array Value) (hw : ∀ d ∈ tables_1, d.before a0 Z = true)  (cs : Int32) (fv : Value) (h : Heap) (n0 : Nat) (hn0 : Old Z n0 h) (hcs : ¬ cs = 0) (S1 : Sta Z Z.heap "java/lang/String" "COMPACT_STRINGS" "Z" (.int cs)) (hfv : fv.isRef = true) (S2 : Sta Z Z.heap "jdk/internal/util/Preconditions" "SIOOBE_FORMATTER" "Ljava/util/function/BiFunction;" fv) :
    Con l Z (⟨"java/lang/String", "checkIndex", "(II)V"⟩ : MethodName) jdk_42_method_155_code 2 none ({ frames := 1, cells := 0, slots := 0, locals := 14 } : Room) #[(.int (1 : Int32)), (.int (6 : Int32))] h n0 (fun v h' => v = none ∧ h = h') := by
  refine con_of hw (plainFor_of_name pn_java_lang_String) hn0 ?_
  intro p e s m below meth c T0 C X0
  refine Go.cast (congrArg T0.setTop (ef_own_sc_17 m )) ?_
  refine go_iloadN C X0 1 rfl d14_0 rfl ?_
  refine go_iloadN C X0 2 rfl d14_1 rfl ?_
  refine go_getS C X0 (C.w 71 rfl) (S2.ext X0.old.2) (pc' := 5) rfl d14_2 (fun T1 X2 => ?_)
  refine go_callS C X2 (C.w 73 rfl) (C.w 74 rfl) (C.w 72 rfl) (C.w 75 rfl) (own_pc_18 l Z a0 C.ws fv h n0 X2.old hfv) (argsL := [(.int (1 : Int32)), (.int (6 : Int32)), fv]) (rest := []) (lenOf pd_1 rfl) rfl (by decide) (by decide) (Nat.le_of_ble_eq_true rfl) (by decide) (by decide) rfl rfl (pc' := 8) rfl d14_5 ?_
  rintro T3 _ _ ⟨rfl, rfl⟩ X4
  show Go p e below _ (T3.setTop (mkF m 8 #[iv (1 : Int32), iv (6 : Int32)] [(.int (1 : Int32))]))
  refine go_pop C X4 9 rfl d14_8 rfl ?_
  exact go_ret0 C X4 d14_9 ⟨rfl, rfl⟩ (by decide) (by decide)
theorem ef_own_lc_16 (m : MethodId) (sb : Addr)  : entryFrame m #[(.ref sb), (.int (1 : Int32))] 2 = mkF m 0 #[rv sb, iv (1 : Int32)] [] := by
  first | (simp [entryFrame, mkF, argsToLocals, Value.category]; done) | rfl
set_option maxRecDepth 65536 in
set_option maxHeartbeats 40000000 in
theorem own_lc_16 (l : Launch) (Z : State) (a0 : Array Value) (hw : ∀ d ∈ tables_1, d.before a0 Z = true) (sb : Addr) (cs : Int32) (fv : Value) (h : Heap) (n0 : Nat) (hn0 : Old Z n0 h) (AS : La Z h sb .byte [(.int (45 : Int32)), (.int (45 : Int32)), (.int (104 : Int32)), (.int (101 : Int32)), (.int (108 : Int32)), (.int (112 : Int32))]) (hcs : ¬ cs = 0) (S1 : Sta Z Z.heap "java/lang/String" "COMPACT_STRINGS" "Z" (.int cs)) (hfv : fv.isRef = true) (S2 : Sta Z Z.heap "jdk/internal/util/Preconditions" "SIOOBE_FORMATTER" "Ljava/util/function/BiFunction;" fv) :
    Con l Z (⟨"java/lang/StringLatin1", "charAt", "([BI)C"⟩ : MethodName) jdk_43_method_2_code 2 (some .char) ({ frames := 2, cells := 0, slots := 0, locals := 27 } : Room) #[(.ref sb), (.int (1 : Int32))] h n0 (fun v h' => v = some (.int (45 : Int32)) ∧ h = h') := by
  refine con_of hw (plainFor_of_name pn_java_lang_StringLatin1) hn0 ?_
  intro p e s m below meth c T0 C X0
  refine Go.cast (congrArg T0.setTop (ef_own_lc_16 m sb)) ?_
  refine go_iloadN C X0 1 rfl d13_0 rfl ?_
  refine go_aloadN C X0 2 rfl d13_1 rfl rfl ?_
  refine go_alen C X0 AS (z := (6 : Int32)) rfl (pc' := 3) rfl d13_2 ?_
  refine go_callS C X0 (C.w 68 rfl) (C.w 69 rfl) (C.w 3 rfl) (C.w 70 rfl) (own_sc_17 l Z a0 C.ws cs fv h n0 X0.old hcs S1 hfv S2) (argsL := [(.int (1 : Int32)), (.int (6 : Int32))]) (rest := []) (lenOf pd_2 rfl) rfl (by decide) (by decide) (Nat.le_of_ble_eq_true rfl) (by decide) (by decide) rfl rfl (pc' := 6) rfl d13_3 ?_
  rintro T1 _ _ ⟨rfl, rfl⟩ X2
  show Go p e below _ (T1.setTop (mkF m 6 #[rv sb, iv (1 : Int32)] []))
  refine go_aloadN C X2 7 rfl d13_6 rfl rfl ?_
  refine go_iloadN C X2 8 rfl d13_7 rfl ?_
  refine go_baloadBytes C X2 AS (by decide) (v := (.int (45 : Int32))) rfl (pc' := 9) rfl d13_8 ?_
  refine go_sipush C X2 12 rfl d13_9 (z := 255) rfl ?_
  refine go_iandL C X2 13 rfl d13_12 (z := (45)) rfl ?_
  refine go_i2c C X2 14 rfl d13_13 ?_
  show Go p e below _ (T1.setTop (mkF m 14 #[rv sb, iv (1 : Int32)] [(.int (45 : Int32))]))
  exact go_retN C X2 (by simp) (z' := 45) rfl d13_14 ⟨rfl, rfl⟩ (by decide) (by decide)
theorem ef_own_s11_15 (m : MethodId) (sa : Addr)  : entryFrame m #[(.ref sa), (.int (1 : Int32))] 2 = mkF m 0 #[rv sa, iv (1 : Int32)] [] := by
  first | (simp [entryFrame, mkF, argsToLocals, Value.category]; done) | rfl
set_option maxRecDepth 65536 in
set_option maxHeartbeats 40000000 in
theorem own_s11_15 (l : Launch) (Z : State) (a0 : Array Value) (hw : ∀ d ∈ tables_1, d.before a0 Z = true) (sa : Addr) (sb : Addr) (cs : Int32) (fv : Value) (h : Heap) (n0 : Nat) (hn0 : Old Z n0 h) (ES : Exa Z h sa "java/lang/String") (G1 : Fld Z h sa "java/lang/String" "coder" "B" (.int 0)) (G2 : Fld Z h sa "java/lang/String" "value" "[B" (.ref sb)) (AS : La Z h sb .byte [(.int (45 : Int32)), (.int (45 : Int32)), (.int (104 : Int32)), (.int (101 : Int32)), (.int (108 : Int32)), (.int (112 : Int32))]) (hcs : ¬ cs = 0) (S1 : Sta Z Z.heap "java/lang/String" "COMPACT_STRINGS" "Z" (.int cs)) (hfv : fv.isRef = true) (S2 : Sta Z Z.heap "jdk/internal/util/Preconditions" "SIOOBE_FORMATTER" "Ljava/util/function/BiFunction;" fv) :
    Con l Z (⟨"java/lang/String", "charAt", "(I)C"⟩ : MethodName) jdk_42_method_56_code 2 (some .char) ({ frames := 3, cells := 0, slots := 0, locals := 40 } : Room) #[(.ref sa), (.int (1 : Int32))] h n0 (fun v h' => v = some (.int (45 : Int32)) ∧ h = h') := by
  refine con_of hw (plainFor_of_name pn_java_lang_String) hn0 ?_
  intro p e s m below meth c T0 C X0
  refine Go.cast (congrArg T0.setTop (ef_own_s11_15 m sa)) ?_
  refine go_aloadN C X0 1 rfl d11_0 rfl rfl ?_
  refine go_virtual C X0 ES (C.w 60 rfl) (C.w 61 rfl) (notFace_of_selects (args := #[]) (mvT C.hZ (C.w 63 rfl))) (C.w 63 rfl) (C.w 62 rfl) (C.w 3 rfl) (C.w 64 rfl) (own_s12_7 l Z a0 C.ws sa sb cs fv h n0 X0.old ES G1 G2 AS hcs S1 hfv S2) (argsL := []) (rest := []) (lenOf pd_0 rfl) rfl (by decide) (by decide) (Nat.le_of_ble_eq_true rfl) (by decide) (by decide) rfl rfl (pc' := 4) rfl d11_1 ?_
  rintro T1 _ _ ⟨rfl, rfl⟩ X2
  show Go p e below _ (T1.setTop (mkF m 4 #[rv sa, iv (1 : Int32)] [(.int (1 : Int32))]))
  refine go_if_eq C X2 d11_4 (pc' := 7) (pc2 := 16) rfl (by decide) (by decide) (fun (c4 : (1 : Int32) = (0 : Int32)) => False.elim (by first | omega | exact absurd c4 (by decide))) (fun (c4 : ¬ (1 : Int32) = (0 : Int32)) => ?_)
  refine go_aloadN C X2 8 rfl d11_7 rfl rfl ?_
  refine go_getF C X2 (C.w 20 rfl) Via.refl G2 (pc' := 11) rfl d11_8 (fun T4 X5 => ?_)
  refine go_iloadN C X5 12 rfl d11_11 rfl ?_
  refine go_callS C X5 (C.w 65 rfl) (C.w 66 rfl) (C.w 36 rfl) (C.w 67 rfl) (own_lc_16 l Z a0 C.ws sb cs fv h n0 X5.old AS hcs S1 hfv S2) (argsL := [(.ref sb), (.int (1 : Int32))]) (rest := []) (lenOf pd_3 rfl) rfl (by decide) (by decide) (Nat.le_of_ble_eq_true rfl) (by decide) (by decide) rfl rfl (pc' := 15) rfl d11_12 ?_
  rintro T6 _ _ ⟨rfl, rfl⟩ X7
  show Go p e below _ (T6.setTop (mkF m 15 #[rv sa, iv (1 : Int32)] [(.int (45 : Int32))]))
  exact go_retN C X7 (by simp) (z' := 45) rfl d11_15 ⟨rfl, rfl⟩ (by decide) (by decide)
theorem ef_own_pick_1 (m : MethodId) (kd : Int32) (raw : Int64) (pp : Int32) (ch : Int32)  : entryFrame m #[(.int (1 : Int32)), (.int kd), (.long raw), (.int pp), (.int ch)] 7 = mkF m 0 #[iv (1 : Int32), iv kd, jv raw, sc, iv pp, iv ch, un] [] := by
  first | (simp [entryFrame, mkF, argsToLocals, Value.category]; done) | rfl
set_option maxRecDepth 65536 in
set_option maxHeartbeats 40000000 in
theorem own_pick_1 (l : Launch) (Z : State) (a0 : Array Value) (hw : ∀ d ∈ tables_1, d.before a0 Z = true) (kd : Int32) (raw : Int64) (pp : Int32) (ch : Int32) (cs : Int32) (fv : Value) (h : Heap) (n0 : Nat) (hn0 : Old Z n0 h) (hEL : EW Z a0 consts_1) (hcs : ¬ cs = 0) (S1 : Sta Z Z.heap "java/lang/String" "COMPACT_STRINGS" "Z" (.int cs)) (hfv : fv.isRef = true) (S2 : Sta Z Z.heap "jdk/internal/util/Preconditions" "SIOOBE_FORMATTER" "Ljava/util/function/BiFunction;" fv) :
    ConW l Z consts_1 (⟨"com/example/bundlewalk/bundlewalk/OptionsIsHelpPinLaw", "pick", "(IIJII)C"⟩ : MethodName) method_3_code 7 (some .char) ({ frames := 4, cells := 2, slots := 28, locals := 53 } : Room) #[(.int (1 : Int32)), (.int kd), (.long raw), (.int pp), (.int ch)] h n0 (fun v h' => ∃ cq : Int32, v = some (.int cq) ∧ (0 ≤ cq.toInt ∧ cq.toInt ≤ 255) ∧ Keep h h' []) := by
  refine conW_of hw (plainFor_of_name pn_com_example_bundlewalk_bundlewalk_OptionsIsHelpPinLaw) hn0 ?_
  intro p e sv0 s m below meth c T0 C WI0 X0
  refine Go.cast (congrArg T0.setTop (ef_own_pick_1 m kd raw pp ch)) ?_
  refine go_lloadN C X0 1 rfl d7_0 rfl ?_
  refine go_bipush C X0 3 rfl d7_1 (z := 8) rfl ?_
  refine go_iloadN C X0 4 rfl d7_3 rfl ?_
  refine go_imulL C X0 5 rfl d7_4 (z := (8)) rfl ?_
  refine go_lushr C X0 6 rfl d7_5 ?_
  refine go_ldc2Long C X0 (C.w 43 rfl) (pc' := 9) rfl d7_6 ?_
  refine go_land C X0 10 rfl d7_9 ?_
  refine go_l2i C X0 11 rfl d7_10 ?_
  refine go_i2c C X0 12 rfl d7_11 ?_
  refine go_istore C X0 14 rfl d7_12 #[iv (1 : Int32), iv kd, jv raw, sc, iv pp, iv ch, iv (((((raw.toUInt64 >>> ((8 : Int32) &&& 0x3f).toInt64.toUInt64).toInt64) &&& (255 : Int64)).toInt32).toUInt32.toUInt16.toUInt32.toInt32)] rfl ?_
  refine go_iloadN C X0 15 rfl d7_14 rfl ?_
  refine go_iconst C X0 16 rfl d7_15 (z := 1) rfl ?_
  refine go_icmp_ne C X0 d7_16 (pc' := 19) (pc2 := 33) rfl (by decide) (by decide) (fun (c16 : ¬ kd = (1 : Int32)) => ?_) (fun (c16 : kd = (1 : Int32)) => ?_)
  · refine go_iloadN C X0 34 rfl d7_33 rfl ?_
    refine go_iconst C X0 35 rfl d7_34 (z := 2) rfl ?_
    refine go_icmp_ne C X0 d7_35 (pc' := 38) (pc2 := 51) rfl (by decide) (by decide) (fun (c35 : ¬ kd = (2 : Int32)) => ?_) (fun (c35 : kd = (2 : Int32)) => ?_)
    · refine go_iload C X0 53 rfl d7_51 rfl ?_
      refine go_iloadN C X0 54 rfl d7_53 rfl ?_
      refine go_icmp_ne C X0 d7_54 (pc' := 57) (pc2 := 66) rfl (by decide) (by decide) (fun (c54 : ¬ pp = (1 : Int32)) => ?_) (fun (c54 : pp = (1 : Int32)) => ?_)
      · refine go_iload C X0 68 rfl d7_66 rfl ?_
        exact go_retNW C X0 WI0 hEL (by simp) rfl d7_68 ⟨_, rfl, own_nar255 (own_pb1 _).1 (own_pb1 _).2, (Keep.refl h [])⟩ (by decide) (by decide)
      · refine go_iload C X0 59 rfl d7_57 rfl ?_
        refine go_sipush C X0 62 rfl d7_59 (z := 255) rfl ?_
        refine go_iand C X0 63 rfl d7_62 ?_
        refine go_i2c C X0 64 rfl d7_63 ?_
        refine go_istore C X0 66 rfl d7_64 #[iv (1 : Int32), iv kd, jv raw, sc, iv pp, iv ch, iv ((ch &&& (255 : Int32)).toUInt32.toUInt16.toUInt32.toInt32)] rfl ?_
        refine go_iload C X0 68 rfl d7_66 rfl ?_
        exact go_retNW C X0 WI0 hEL (by simp) rfl d7_68 ⟨_, rfl, own_nar255 (own_pb2 _).1 (own_pb2 _).2, (Keep.refl h [])⟩ (by decide) (by decide)
    · refine go_iloadN C X0 39 rfl d7_38 rfl ?_
      refine go_iconst C X0 40 rfl d7_39 (z := 2) rfl ?_
      refine go_icmp_ge C X0 d7_40 (pc' := 43) (pc2 := 51) rfl (by decide) (by decide) (fun (c40 : 2 ≤ 1) => False.elim (by first | omega | exact absurd c40 (by decide))) (fun (c40 : 1 < 2) => ?_)
      refine go_ldcH C X0 WI0 hEL (C.w 54 rfl) (own_wS C.ws) (List.mem_of_getElem? (i := 3) rfl) (vs := [(.int (45 : Int32)), (.int (104 : Int32))]) (z := 2) (own_lit32) (by decide) (by decide) (q := 8) own_len32 (by decide) (by decide) (by decide) (pc' := 45) rfl d7_43 ?_
      intro s T1 h3 lc ld C WI10 E4 E5 F6 F7 A8 SF9 SFT11 X2
      have K12 := (Keep.refl h []).ext E4
      refine go_iloadN C X2 46 rfl d7_45 rfl ?_
      refine go_virtual C X2 E5 (C.w 55 rfl) (C.w 56 rfl) (notFace_of_selects (args := #[]) (mvT C.hZ (C.w 58 rfl))) (C.w 58 rfl) (C.w 57 rfl) (C.w 3 rfl) (C.w 59 rfl) (own_s11_11 l Z a0 C.ws lc ld cs fv h3 n0 X2.old E5 F6 F7 A8 hcs S1 hfv S2) (argsL := [(.int (1 : Int32))]) (rest := []) (lenOf pd_4 rfl) rfl (by decide) (by decide) (Nat.le_of_ble_eq_true rfl) (by decide) (by decide) rfl rfl (pc' := 49) rfl d7_46 ?_
      rintro T13 _ _ ⟨rfl, rfl⟩ X14
      show Go p e below _ (T13.setTop (mkF m 49 #[iv (1 : Int32), iv kd, jv raw, sc, iv pp, iv ch, iv (((((raw.toUInt64 >>> ((8 : Int32) &&& 0x3f).toInt64.toUInt64).toInt64) &&& (255 : Int64)).toInt32).toUInt32.toUInt16.toUInt32.toInt32)] [(.int (104 : Int32))]))
      refine go_istore C X14 51 rfl d7_49 #[iv (1 : Int32), iv kd, jv raw, sc, iv pp, iv ch, iv (104 : Int32)] rfl ?_
      refine go_iload C X14 53 rfl d7_51 rfl ?_
      refine go_iloadN C X14 54 rfl d7_53 rfl ?_
      refine go_icmp_ne C X14 d7_54 (pc' := 57) (pc2 := 66) rfl (by decide) (by decide) (fun (c54 : ¬ pp = (1 : Int32)) => ?_) (fun (c54 : pp = (1 : Int32)) => ?_)
      · refine go_iload C X14 68 rfl d7_66 rfl ?_
        exact go_retNW C X14 WI10 hEL (by simp) (z' := 104) rfl d7_68 ⟨_, rfl, ⟨by decide, by decide⟩, K12⟩ (by decide) (by decide)
      · refine go_iload C X14 59 rfl d7_57 rfl ?_
        refine go_sipush C X14 62 rfl d7_59 (z := 255) rfl ?_
        refine go_iand C X14 63 rfl d7_62 ?_
        refine go_i2c C X14 64 rfl d7_63 ?_
        refine go_istore C X14 66 rfl d7_64 #[iv (1 : Int32), iv kd, jv raw, sc, iv pp, iv ch, iv ((ch &&& (255 : Int32)).toUInt32.toUInt16.toUInt32.toInt32)] rfl ?_
        refine go_iload C X14 68 rfl d7_66 rfl ?_
        exact go_retNW C X14 WI10 hEL (by simp) rfl d7_68 ⟨_, rfl, own_nar255 (own_pb2 _).1 (own_pb2 _).2, K12⟩ (by decide) (by decide)
  · refine go_iloadN C X0 20 rfl d7_19 rfl ?_
    refine go_bipush C X0 22 rfl d7_20 (z := 6) rfl ?_
    refine go_icmp_ge C X0 d7_22 (pc' := 25) (pc2 := 33) rfl (by decide) (by decide) (fun (c22 : 6 ≤ 1) => False.elim (by first | omega | exact absurd c22 (by decide))) (fun (c22 : 1 < 6) => ?_)
    refine go_ldcH C X0 WI0 hEL (C.w 76 rfl) (own_wS C.ws) (List.mem_of_getElem? (i := 2) rfl) (vs := [(.int (45 : Int32)), (.int (45 : Int32)), (.int (104 : Int32)), (.int (101 : Int32)), (.int (108 : Int32)), (.int (112 : Int32))]) (z := 6) (own_lit26) (by decide) (by decide) (q := 24) own_len26 (by decide) (by decide) (by decide) (pc' := 27) rfl d7_25 ?_
    intro s T16 h18 la lb C WI25 E19 E20 F21 F22 A23 SF24 SFT26 X17
    have K27 := (Keep.refl h []).ext E19
    refine go_iloadN C X17 28 rfl d7_27 rfl ?_
    refine go_virtual C X17 E20 (C.w 55 rfl) (C.w 56 rfl) (notFace_of_selects (args := #[]) (mvT C.hZ (C.w 58 rfl))) (C.w 58 rfl) (C.w 57 rfl) (C.w 3 rfl) (C.w 59 rfl) (own_s11_15 l Z a0 C.ws la lb cs fv h18 n0 X17.old E20 F21 F22 A23 hcs S1 hfv S2) (argsL := [(.int (1 : Int32))]) (rest := []) (lenOf pd_4 rfl) rfl (by decide) (by decide) (Nat.le_of_ble_eq_true rfl) (by decide) (by decide) rfl rfl (pc' := 31) rfl d7_28 ?_
    rintro T28 _ _ ⟨rfl, rfl⟩ X29
    show Go p e below _ (T28.setTop (mkF m 31 #[iv (1 : Int32), iv kd, jv raw, sc, iv pp, iv ch, iv (((((raw.toUInt64 >>> ((8 : Int32) &&& 0x3f).toInt64.toUInt64).toInt64) &&& (255 : Int64)).toInt32).toUInt32.toUInt16.toUInt32.toInt32)] [(.int (45 : Int32))]))
    refine go_istore C X29 33 rfl d7_31 #[iv (1 : Int32), iv kd, jv raw, sc, iv pp, iv ch, iv (45 : Int32)] rfl ?_
    refine go_iloadN C X29 34 rfl d7_33 rfl ?_
    refine go_iconst C X29 35 rfl d7_34 (z := 2) rfl ?_
    refine go_icmp_ne C X29 d7_35 (pc' := 38) (pc2 := 51) rfl (by decide) (by decide) (fun (c35 : ¬ kd = (2 : Int32)) => ?_) (fun (c35 : kd = (2 : Int32)) => False.elim (by rw [c16] at c35; exact absurd c35 (by decide)))
    refine go_iload C X29 53 rfl d7_51 rfl ?_
    refine go_iloadN C X29 54 rfl d7_53 rfl ?_
    refine go_icmp_ne C X29 d7_54 (pc' := 57) (pc2 := 66) rfl (by decide) (by decide) (fun (c54 : ¬ pp = (1 : Int32)) => ?_) (fun (c54 : pp = (1 : Int32)) => ?_)
    · refine go_iload C X29 68 rfl d7_66 rfl ?_
      exact go_retNW C X29 WI25 hEL (by simp) (z' := 45) rfl d7_68 ⟨_, rfl, ⟨by decide, by decide⟩, K27⟩ (by decide) (by decide)
    · refine go_iload C X29 59 rfl d7_57 rfl ?_
      refine go_sipush C X29 62 rfl d7_59 (z := 255) rfl ?_
      refine go_iand C X29 63 rfl d7_62 ?_
      refine go_i2c C X29 64 rfl d7_63 ?_
      refine go_istore C X29 66 rfl d7_64 #[iv (1 : Int32), iv kd, jv raw, sc, iv pp, iv ch, iv ((ch &&& (255 : Int32)).toUInt32.toUInt16.toUInt32.toInt32)] rfl ?_
      refine go_iload C X29 68 rfl d7_66 rfl ?_
      exact go_retNW C X29 WI25 hEL (by simp) rfl d7_68 ⟨_, rfl, own_nar255 (own_pb2 _).1 (own_pb2 _).2, K27⟩ (by decide) (by decide)
theorem ef_own_pc_22 (m : MethodId) (fv : Value) (hfv : fv.isRef = true) : entryFrame m #[(.int (2 : Int32)), (.int (6 : Int32)), fv] 3 = mkF m 0 #[iv (2 : Int32), iv (6 : Int32), .val fv] [] := by
  cases fv <;> first | (cases hfv; done) | skip
  all_goals first | (simp [entryFrame, mkF, argsToLocals, Value.category]; done) | rfl
set_option maxRecDepth 65536 in
set_option maxHeartbeats 40000000 in
theorem own_pc_22 (l : Launch) (Z : State) (a0 : Array Value) (hw : ∀ d ∈ tables_1, d.before a0 Z = true) (fv : Value)  (h : Heap) (n0 : Nat) (hn0 : Old Z n0 h) (hfv : fv.isRef = true)  :
    Con l Z (⟨"jdk/internal/util/Preconditions", "checkIndex", "(IILjava/util/function/BiFunction;)I"⟩ : MethodName) jdk_41_method_11_code 3 (some .int) ({ frames := 0, cells := 0, slots := 0, locals := 0 } : Room) #[(.int (2 : Int32)), (.int (6 : Int32)), fv] h n0 (fun v h' => v = some (.int (2 : Int32)) ∧ h = h') := by
  refine con_of hw (plainFor_of_name pn_jdk_internal_util_Preconditions) hn0 ?_
  intro p e s m below meth c T0 C X0
  refine Go.cast (congrArg T0.setTop (ef_own_pc_22 m fv hfv)) ?_
  refine go_iloadN C X0 1 rfl d15_0 rfl ?_
  refine go_if_lt C X0 d15_1 (pc' := 4) (pc2 := 9) rfl (by decide) (by decide) (fun (c1 : 2 < 0) => False.elim (by first | omega | exact absurd c1 (by decide))) (fun (c1 : 0 ≤ 2) => ?_)
  refine go_iloadN C X0 5 rfl d15_4 rfl ?_
  refine go_iloadN C X0 6 rfl d15_5 rfl ?_
  refine go_icmp_lt C X0 d15_6 (pc' := 9) (pc2 := 16) rfl (by decide) (by decide) (fun (c6 : 2 < 6) => ?_) (fun (c6 : 6 ≤ 2) => False.elim (by first | omega | exact absurd c6 (by decide)))
  refine go_iloadN C X0 17 rfl d15_16 rfl ?_
  exact go_retI C X0 d15_17 ⟨rfl, rfl⟩ (by decide) (by decide)
theorem ef_own_sc_21 (m : MethodId)   : entryFrame m #[(.int (2 : Int32)), (.int (6 : Int32))] 2 = mkF m 0 #[iv (2 : Int32), iv (6 : Int32)] [] := by
  first | (simp [entryFrame, mkF, argsToLocals, Value.category]; done) | rfl
set_option maxRecDepth 65536 in
set_option maxHeartbeats 40000000 in
theorem own_sc_21 (l : Launch) (Z : State) (a0 : Array Value) (hw : ∀ d ∈ tables_1, d.before a0 Z = true)  (cs : Int32) (fv : Value) (h : Heap) (n0 : Nat) (hn0 : Old Z n0 h) (hcs : ¬ cs = 0) (S1 : Sta Z Z.heap "java/lang/String" "COMPACT_STRINGS" "Z" (.int cs)) (hfv : fv.isRef = true) (S2 : Sta Z Z.heap "jdk/internal/util/Preconditions" "SIOOBE_FORMATTER" "Ljava/util/function/BiFunction;" fv) :
    Con l Z (⟨"java/lang/String", "checkIndex", "(II)V"⟩ : MethodName) jdk_42_method_155_code 2 none ({ frames := 1, cells := 0, slots := 0, locals := 14 } : Room) #[(.int (2 : Int32)), (.int (6 : Int32))] h n0 (fun v h' => v = none ∧ h = h') := by
  refine con_of hw (plainFor_of_name pn_java_lang_String) hn0 ?_
  intro p e s m below meth c T0 C X0
  refine Go.cast (congrArg T0.setTop (ef_own_sc_21 m )) ?_
  refine go_iloadN C X0 1 rfl d14_0 rfl ?_
  refine go_iloadN C X0 2 rfl d14_1 rfl ?_
  refine go_getS C X0 (C.w 71 rfl) (S2.ext X0.old.2) (pc' := 5) rfl d14_2 (fun T1 X2 => ?_)
  refine go_callS C X2 (C.w 73 rfl) (C.w 74 rfl) (C.w 72 rfl) (C.w 75 rfl) (own_pc_22 l Z a0 C.ws fv h n0 X2.old hfv) (argsL := [(.int (2 : Int32)), (.int (6 : Int32)), fv]) (rest := []) (lenOf pd_1 rfl) rfl (by decide) (by decide) (Nat.le_of_ble_eq_true rfl) (by decide) (by decide) rfl rfl (pc' := 8) rfl d14_5 ?_
  rintro T3 _ _ ⟨rfl, rfl⟩ X4
  show Go p e below _ (T3.setTop (mkF m 8 #[iv (2 : Int32), iv (6 : Int32)] [(.int (2 : Int32))]))
  refine go_pop C X4 9 rfl d14_8 rfl ?_
  exact go_ret0 C X4 d14_9 ⟨rfl, rfl⟩ (by decide) (by decide)
theorem ef_own_lc_20 (m : MethodId) (sb : Addr)  : entryFrame m #[(.ref sb), (.int (2 : Int32))] 2 = mkF m 0 #[rv sb, iv (2 : Int32)] [] := by
  first | (simp [entryFrame, mkF, argsToLocals, Value.category]; done) | rfl
set_option maxRecDepth 65536 in
set_option maxHeartbeats 40000000 in
theorem own_lc_20 (l : Launch) (Z : State) (a0 : Array Value) (hw : ∀ d ∈ tables_1, d.before a0 Z = true) (sb : Addr) (cs : Int32) (fv : Value) (h : Heap) (n0 : Nat) (hn0 : Old Z n0 h) (AS : La Z h sb .byte [(.int (45 : Int32)), (.int (45 : Int32)), (.int (104 : Int32)), (.int (101 : Int32)), (.int (108 : Int32)), (.int (112 : Int32))]) (hcs : ¬ cs = 0) (S1 : Sta Z Z.heap "java/lang/String" "COMPACT_STRINGS" "Z" (.int cs)) (hfv : fv.isRef = true) (S2 : Sta Z Z.heap "jdk/internal/util/Preconditions" "SIOOBE_FORMATTER" "Ljava/util/function/BiFunction;" fv) :
    Con l Z (⟨"java/lang/StringLatin1", "charAt", "([BI)C"⟩ : MethodName) jdk_43_method_2_code 2 (some .char) ({ frames := 2, cells := 0, slots := 0, locals := 27 } : Room) #[(.ref sb), (.int (2 : Int32))] h n0 (fun v h' => v = some (.int (104 : Int32)) ∧ h = h') := by
  refine con_of hw (plainFor_of_name pn_java_lang_StringLatin1) hn0 ?_
  intro p e s m below meth c T0 C X0
  refine Go.cast (congrArg T0.setTop (ef_own_lc_20 m sb)) ?_
  refine go_iloadN C X0 1 rfl d13_0 rfl ?_
  refine go_aloadN C X0 2 rfl d13_1 rfl rfl ?_
  refine go_alen C X0 AS (z := (6 : Int32)) rfl (pc' := 3) rfl d13_2 ?_
  refine go_callS C X0 (C.w 68 rfl) (C.w 69 rfl) (C.w 3 rfl) (C.w 70 rfl) (own_sc_21 l Z a0 C.ws cs fv h n0 X0.old hcs S1 hfv S2) (argsL := [(.int (2 : Int32)), (.int (6 : Int32))]) (rest := []) (lenOf pd_2 rfl) rfl (by decide) (by decide) (Nat.le_of_ble_eq_true rfl) (by decide) (by decide) rfl rfl (pc' := 6) rfl d13_3 ?_
  rintro T1 _ _ ⟨rfl, rfl⟩ X2
  show Go p e below _ (T1.setTop (mkF m 6 #[rv sb, iv (2 : Int32)] []))
  refine go_aloadN C X2 7 rfl d13_6 rfl rfl ?_
  refine go_iloadN C X2 8 rfl d13_7 rfl ?_
  refine go_baloadBytes C X2 AS (by decide) (v := (.int (104 : Int32))) rfl (pc' := 9) rfl d13_8 ?_
  refine go_sipush C X2 12 rfl d13_9 (z := 255) rfl ?_
  refine go_iandL C X2 13 rfl d13_12 (z := (104)) rfl ?_
  refine go_i2c C X2 14 rfl d13_13 ?_
  show Go p e below _ (T1.setTop (mkF m 14 #[rv sb, iv (2 : Int32)] [(.int (104 : Int32))]))
  exact go_retN C X2 (by simp) (z' := 104) rfl d13_14 ⟨rfl, rfl⟩ (by decide) (by decide)
theorem ef_own_s11_19 (m : MethodId) (sa : Addr)  : entryFrame m #[(.ref sa), (.int (2 : Int32))] 2 = mkF m 0 #[rv sa, iv (2 : Int32)] [] := by
  first | (simp [entryFrame, mkF, argsToLocals, Value.category]; done) | rfl
set_option maxRecDepth 65536 in
set_option maxHeartbeats 40000000 in
theorem own_s11_19 (l : Launch) (Z : State) (a0 : Array Value) (hw : ∀ d ∈ tables_1, d.before a0 Z = true) (sa : Addr) (sb : Addr) (cs : Int32) (fv : Value) (h : Heap) (n0 : Nat) (hn0 : Old Z n0 h) (ES : Exa Z h sa "java/lang/String") (G1 : Fld Z h sa "java/lang/String" "coder" "B" (.int 0)) (G2 : Fld Z h sa "java/lang/String" "value" "[B" (.ref sb)) (AS : La Z h sb .byte [(.int (45 : Int32)), (.int (45 : Int32)), (.int (104 : Int32)), (.int (101 : Int32)), (.int (108 : Int32)), (.int (112 : Int32))]) (hcs : ¬ cs = 0) (S1 : Sta Z Z.heap "java/lang/String" "COMPACT_STRINGS" "Z" (.int cs)) (hfv : fv.isRef = true) (S2 : Sta Z Z.heap "jdk/internal/util/Preconditions" "SIOOBE_FORMATTER" "Ljava/util/function/BiFunction;" fv) :
    Con l Z (⟨"java/lang/String", "charAt", "(I)C"⟩ : MethodName) jdk_42_method_56_code 2 (some .char) ({ frames := 3, cells := 0, slots := 0, locals := 40 } : Room) #[(.ref sa), (.int (2 : Int32))] h n0 (fun v h' => v = some (.int (104 : Int32)) ∧ h = h') := by
  refine con_of hw (plainFor_of_name pn_java_lang_String) hn0 ?_
  intro p e s m below meth c T0 C X0
  refine Go.cast (congrArg T0.setTop (ef_own_s11_19 m sa)) ?_
  refine go_aloadN C X0 1 rfl d11_0 rfl rfl ?_
  refine go_virtual C X0 ES (C.w 60 rfl) (C.w 61 rfl) (notFace_of_selects (args := #[]) (mvT C.hZ (C.w 63 rfl))) (C.w 63 rfl) (C.w 62 rfl) (C.w 3 rfl) (C.w 64 rfl) (own_s12_7 l Z a0 C.ws sa sb cs fv h n0 X0.old ES G1 G2 AS hcs S1 hfv S2) (argsL := []) (rest := []) (lenOf pd_0 rfl) rfl (by decide) (by decide) (Nat.le_of_ble_eq_true rfl) (by decide) (by decide) rfl rfl (pc' := 4) rfl d11_1 ?_
  rintro T1 _ _ ⟨rfl, rfl⟩ X2
  show Go p e below _ (T1.setTop (mkF m 4 #[rv sa, iv (2 : Int32)] [(.int (1 : Int32))]))
  refine go_if_eq C X2 d11_4 (pc' := 7) (pc2 := 16) rfl (by decide) (by decide) (fun (c4 : (1 : Int32) = (0 : Int32)) => False.elim (by first | omega | exact absurd c4 (by decide))) (fun (c4 : ¬ (1 : Int32) = (0 : Int32)) => ?_)
  refine go_aloadN C X2 8 rfl d11_7 rfl rfl ?_
  refine go_getF C X2 (C.w 20 rfl) Via.refl G2 (pc' := 11) rfl d11_8 (fun T4 X5 => ?_)
  refine go_iloadN C X5 12 rfl d11_11 rfl ?_
  refine go_callS C X5 (C.w 65 rfl) (C.w 66 rfl) (C.w 36 rfl) (C.w 67 rfl) (own_lc_20 l Z a0 C.ws sb cs fv h n0 X5.old AS hcs S1 hfv S2) (argsL := [(.ref sb), (.int (2 : Int32))]) (rest := []) (lenOf pd_3 rfl) rfl (by decide) (by decide) (Nat.le_of_ble_eq_true rfl) (by decide) (by decide) rfl rfl (pc' := 15) rfl d11_12 ?_
  rintro T6 _ _ ⟨rfl, rfl⟩ X7
  show Go p e below _ (T6.setTop (mkF m 15 #[rv sa, iv (2 : Int32)] [(.int (104 : Int32))]))
  exact go_retN C X7 (by simp) (z' := 104) rfl d11_15 ⟨rfl, rfl⟩ (by decide) (by decide)
theorem ef_own_pick_2 (m : MethodId) (kd : Int32) (raw : Int64) (pp : Int32) (ch : Int32)  : entryFrame m #[(.int (2 : Int32)), (.int kd), (.long raw), (.int pp), (.int ch)] 7 = mkF m 0 #[iv (2 : Int32), iv kd, jv raw, sc, iv pp, iv ch, un] [] := by
  first | (simp [entryFrame, mkF, argsToLocals, Value.category]; done) | rfl
set_option maxRecDepth 65536 in
set_option maxHeartbeats 40000000 in
theorem own_pick_2 (l : Launch) (Z : State) (a0 : Array Value) (hw : ∀ d ∈ tables_1, d.before a0 Z = true) (kd : Int32) (raw : Int64) (pp : Int32) (ch : Int32) (cs : Int32) (fv : Value) (h : Heap) (n0 : Nat) (hn0 : Old Z n0 h) (hEL : EW Z a0 consts_1) (hcs : ¬ cs = 0) (S1 : Sta Z Z.heap "java/lang/String" "COMPACT_STRINGS" "Z" (.int cs)) (hfv : fv.isRef = true) (S2 : Sta Z Z.heap "jdk/internal/util/Preconditions" "SIOOBE_FORMATTER" "Ljava/util/function/BiFunction;" fv) :
    ConW l Z consts_1 (⟨"com/example/bundlewalk/bundlewalk/OptionsIsHelpPinLaw", "pick", "(IIJII)C"⟩ : MethodName) method_3_code 7 (some .char) ({ frames := 4, cells := 2, slots := 28, locals := 53 } : Room) #[(.int (2 : Int32)), (.int kd), (.long raw), (.int pp), (.int ch)] h n0 (fun v h' => ∃ cq : Int32, v = some (.int cq) ∧ (0 ≤ cq.toInt ∧ cq.toInt ≤ 255) ∧ Keep h h' []) := by
  refine conW_of hw (plainFor_of_name pn_com_example_bundlewalk_bundlewalk_OptionsIsHelpPinLaw) hn0 ?_
  intro p e sv0 s m below meth c T0 C WI0 X0
  refine Go.cast (congrArg T0.setTop (ef_own_pick_2 m kd raw pp ch)) ?_
  refine go_lloadN C X0 1 rfl d7_0 rfl ?_
  refine go_bipush C X0 3 rfl d7_1 (z := 8) rfl ?_
  refine go_iloadN C X0 4 rfl d7_3 rfl ?_
  refine go_imulL C X0 5 rfl d7_4 (z := (16)) rfl ?_
  refine go_lushr C X0 6 rfl d7_5 ?_
  refine go_ldc2Long C X0 (C.w 43 rfl) (pc' := 9) rfl d7_6 ?_
  refine go_land C X0 10 rfl d7_9 ?_
  refine go_l2i C X0 11 rfl d7_10 ?_
  refine go_i2c C X0 12 rfl d7_11 ?_
  refine go_istore C X0 14 rfl d7_12 #[iv (2 : Int32), iv kd, jv raw, sc, iv pp, iv ch, iv (((((raw.toUInt64 >>> ((16 : Int32) &&& 0x3f).toInt64.toUInt64).toInt64) &&& (255 : Int64)).toInt32).toUInt32.toUInt16.toUInt32.toInt32)] rfl ?_
  refine go_iloadN C X0 15 rfl d7_14 rfl ?_
  refine go_iconst C X0 16 rfl d7_15 (z := 1) rfl ?_
  refine go_icmp_ne C X0 d7_16 (pc' := 19) (pc2 := 33) rfl (by decide) (by decide) (fun (c16 : ¬ kd = (1 : Int32)) => ?_) (fun (c16 : kd = (1 : Int32)) => ?_)
  · refine go_iloadN C X0 34 rfl d7_33 rfl ?_
    refine go_iconst C X0 35 rfl d7_34 (z := 2) rfl ?_
    refine go_icmp_ne C X0 d7_35 (pc' := 38) (pc2 := 51) rfl (by decide) (by decide) (fun (c35 : ¬ kd = (2 : Int32)) => ?_) (fun (c35 : kd = (2 : Int32)) => ?_)
    · refine go_iload C X0 53 rfl d7_51 rfl ?_
      refine go_iloadN C X0 54 rfl d7_53 rfl ?_
      refine go_icmp_ne C X0 d7_54 (pc' := 57) (pc2 := 66) rfl (by decide) (by decide) (fun (c54 : ¬ pp = (2 : Int32)) => ?_) (fun (c54 : pp = (2 : Int32)) => ?_)
      · refine go_iload C X0 68 rfl d7_66 rfl ?_
        exact go_retNW C X0 WI0 hEL (by simp) rfl d7_68 ⟨_, rfl, own_nar255 (own_pb1 _).1 (own_pb1 _).2, (Keep.refl h [])⟩ (by decide) (by decide)
      · refine go_iload C X0 59 rfl d7_57 rfl ?_
        refine go_sipush C X0 62 rfl d7_59 (z := 255) rfl ?_
        refine go_iand C X0 63 rfl d7_62 ?_
        refine go_i2c C X0 64 rfl d7_63 ?_
        refine go_istore C X0 66 rfl d7_64 #[iv (2 : Int32), iv kd, jv raw, sc, iv pp, iv ch, iv ((ch &&& (255 : Int32)).toUInt32.toUInt16.toUInt32.toInt32)] rfl ?_
        refine go_iload C X0 68 rfl d7_66 rfl ?_
        exact go_retNW C X0 WI0 hEL (by simp) rfl d7_68 ⟨_, rfl, own_nar255 (own_pb2 _).1 (own_pb2 _).2, (Keep.refl h [])⟩ (by decide) (by decide)
    · refine go_iloadN C X0 39 rfl d7_38 rfl ?_
      refine go_iconst C X0 40 rfl d7_39 (z := 2) rfl ?_
      refine go_icmp_ge C X0 d7_40 (pc' := 43) (pc2 := 51) rfl (by decide) (by decide) (fun (c40 : 2 ≤ 2) => ?_) (fun (c40 : 2 < 2) => False.elim (by first | omega | exact absurd c40 (by decide)))
      refine go_iload C X0 53 rfl d7_51 rfl ?_
      refine go_iloadN C X0 54 rfl d7_53 rfl ?_
      refine go_icmp_ne C X0 d7_54 (pc' := 57) (pc2 := 66) rfl (by decide) (by decide) (fun (c54 : ¬ pp = (2 : Int32)) => ?_) (fun (c54 : pp = (2 : Int32)) => ?_)
      · refine go_iload C X0 68 rfl d7_66 rfl ?_
        exact go_retNW C X0 WI0 hEL (by simp) rfl d7_68 ⟨_, rfl, own_nar255 (own_pb1 _).1 (own_pb1 _).2, (Keep.refl h [])⟩ (by decide) (by decide)
      · refine go_iload C X0 59 rfl d7_57 rfl ?_
        refine go_sipush C X0 62 rfl d7_59 (z := 255) rfl ?_
        refine go_iand C X0 63 rfl d7_62 ?_
        refine go_i2c C X0 64 rfl d7_63 ?_
        refine go_istore C X0 66 rfl d7_64 #[iv (2 : Int32), iv kd, jv raw, sc, iv pp, iv ch, iv ((ch &&& (255 : Int32)).toUInt32.toUInt16.toUInt32.toInt32)] rfl ?_
        refine go_iload C X0 68 rfl d7_66 rfl ?_
        exact go_retNW C X0 WI0 hEL (by simp) rfl d7_68 ⟨_, rfl, own_nar255 (own_pb2 _).1 (own_pb2 _).2, (Keep.refl h [])⟩ (by decide) (by decide)
  · refine go_iloadN C X0 20 rfl d7_19 rfl ?_
    refine go_bipush C X0 22 rfl d7_20 (z := 6) rfl ?_
    refine go_icmp_ge C X0 d7_22 (pc' := 25) (pc2 := 33) rfl (by decide) (by decide) (fun (c22 : 6 ≤ 2) => False.elim (by first | omega | exact absurd c22 (by decide))) (fun (c22 : 2 < 6) => ?_)
    refine go_ldcH C X0 WI0 hEL (C.w 76 rfl) (own_wS C.ws) (List.mem_of_getElem? (i := 2) rfl) (vs := [(.int (45 : Int32)), (.int (45 : Int32)), (.int (104 : Int32)), (.int (101 : Int32)), (.int (108 : Int32)), (.int (112 : Int32))]) (z := 6) (own_lit26) (by decide) (by decide) (q := 24) own_len26 (by decide) (by decide) (by decide) (pc' := 27) rfl d7_25 ?_
    intro s T1 h3 la lb C WI10 E4 E5 F6 F7 A8 SF9 SFT11 X2
    have K12 := (Keep.refl h []).ext E4
    refine go_iloadN C X2 28 rfl d7_27 rfl ?_
    refine go_virtual C X2 E5 (C.w 55 rfl) (C.w 56 rfl) (notFace_of_selects (args := #[]) (mvT C.hZ (C.w 58 rfl))) (C.w 58 rfl) (C.w 57 rfl) (C.w 3 rfl) (C.w 59 rfl) (own_s11_19 l Z a0 C.ws la lb cs fv h3 n0 X2.old E5 F6 F7 A8 hcs S1 hfv S2) (argsL := [(.int (2 : Int32))]) (rest := []) (lenOf pd_4 rfl) rfl (by decide) (by decide) (Nat.le_of_ble_eq_true rfl) (by decide) (by decide) rfl rfl (pc' := 31) rfl d7_28 ?_
    rintro T13 _ _ ⟨rfl, rfl⟩ X14
    show Go p e below _ (T13.setTop (mkF m 31 #[iv (2 : Int32), iv kd, jv raw, sc, iv pp, iv ch, iv (((((raw.toUInt64 >>> ((16 : Int32) &&& 0x3f).toInt64.toUInt64).toInt64) &&& (255 : Int64)).toInt32).toUInt32.toUInt16.toUInt32.toInt32)] [(.int (104 : Int32))]))
    refine go_istore C X14 33 rfl d7_31 #[iv (2 : Int32), iv kd, jv raw, sc, iv pp, iv ch, iv (104 : Int32)] rfl ?_
    refine go_iloadN C X14 34 rfl d7_33 rfl ?_
    refine go_iconst C X14 35 rfl d7_34 (z := 2) rfl ?_
    refine go_icmp_ne C X14 d7_35 (pc' := 38) (pc2 := 51) rfl (by decide) (by decide) (fun (c35 : ¬ kd = (2 : Int32)) => ?_) (fun (c35 : kd = (2 : Int32)) => False.elim (by rw [c16] at c35; exact absurd c35 (by decide)))
    refine go_iload C X14 53 rfl d7_51 rfl ?_
    refine go_iloadN C X14 54 rfl d7_53 rfl ?_
    refine go_icmp_ne C X14 d7_54 (pc' := 57) (pc2 := 66) rfl (by decide) (by decide) (fun (c54 : ¬ pp = (2 : Int32)) => ?_) (fun (c54 : pp = (2 : Int32)) => ?_)
    · refine go_iload C X14 68 rfl d7_66 rfl ?_
      exact go_retNW C X14 WI10 hEL (by simp) (z' := 104) rfl d7_68 ⟨_, rfl, ⟨by decide, by decide⟩, K12⟩ (by decide) (by decide)
    · refine go_iload C X14 59 rfl d7_57 rfl ?_
      refine go_sipush C X14 62 rfl d7_59 (z := 255) rfl ?_
      refine go_iand C X14 63 rfl d7_62 ?_
      refine go_i2c C X14 64 rfl d7_63 ?_
      refine go_istore C X14 66 rfl d7_64 #[iv (2 : Int32), iv kd, jv raw, sc, iv pp, iv ch, iv ((ch &&& (255 : Int32)).toUInt32.toUInt16.toUInt32.toInt32)] rfl ?_
      refine go_iload C X14 68 rfl d7_66 rfl ?_
      exact go_retNW C X14 WI10 hEL (by simp) rfl d7_68 ⟨_, rfl, own_nar255 (own_pb2 _).1 (own_pb2 _).2, K12⟩ (by decide) (by decide)
theorem ef_own_pc_26 (m : MethodId) (fv : Value) (hfv : fv.isRef = true) : entryFrame m #[(.int (3 : Int32)), (.int (6 : Int32)), fv] 3 = mkF m 0 #[iv (3 : Int32), iv (6 : Int32), .val fv] [] := by
  cases fv <;> first | (cases hfv; done) | skip
  all_goals first | (simp [entryFrame, mkF, argsToLocals, Value.category]; done) | rfl
set_option maxRecDepth 65536 in
set_option maxHeartbeats 40000000 in
theorem own_pc_26 (l : Launch) (Z : State) (a0 : Array Value) (hw : ∀ d ∈ tables_1, d.before a0 Z = true) (fv : Value)  (h : Heap) (n0 : Nat) (hn0 : Old Z n0 h) (hfv : fv.isRef = true)  :
    Con l Z (⟨"jdk/internal/util/Preconditions", "checkIndex", "(IILjava/util/function/BiFunction;)I"⟩ : MethodName) jdk_41_method_11_code 3 (some .int) ({ frames := 0, cells := 0, slots := 0, locals := 0 } : Room) #[(.int (3 : Int32)), (.int (6 : Int32)), fv] h n0 (fun v h' => v = some (.int (3 : Int32)) ∧ h = h') := by
  refine con_of hw (plainFor_of_name pn_jdk_internal_util_Preconditions) hn0 ?_
  intro p e s m below meth c T0 C X0
  refine Go.cast (congrArg T0.setTop (ef_own_pc_26 m fv hfv)) ?_
  refine go_iloadN C X0 1 rfl d15_0 rfl ?_
  refine go_if_lt C X0 d15_1 (pc' := 4) (pc2 := 9) rfl (by decide) (by decide) (fun (c1 : 3 < 0) => False.elim (by first | omega | exact absurd c1 (by decide))) (fun (c1 : 0 ≤ 3) => ?_)
  refine go_iloadN C X0 5 rfl d15_4 rfl ?_
  refine go_iloadN C X0 6 rfl d15_5 rfl ?_
  refine go_icmp_lt C X0 d15_6 (pc' := 9) (pc2 := 16) rfl (by decide) (by decide) (fun (c6 : 3 < 6) => ?_) (fun (c6 : 6 ≤ 3) => False.elim (by first | omega | exact absurd c6 (by decide)))
  refine go_iloadN C X0 17 rfl d15_16 rfl ?_
  exact go_retI C X0 d15_17 ⟨rfl, rfl⟩ (by decide) (by decide)
theorem ef_own_sc_25 (m : MethodId)   : entryFrame m #[(.int (3 : Int32)), (.int (6 : Int32))] 2 = mkF m 0 #[iv (3 : Int32), iv (6 : Int32)] [] := by
  first | (simp [entryFrame, mkF, argsToLocals, Value.category]; done) | rfl
set_option maxRecDepth 65536 in
set_option maxHeartbeats 40000000 in
theorem own_sc_25 (l : Launch) (Z : State) (a0 : Array Value) (hw : ∀ d ∈ tables_1, d.before a0 Z = true)  (cs : Int32) (fv : Value) (h : Heap) (n0 : Nat) (hn0 : Old Z n0 h) (hcs : ¬ cs = 0) (S1 : Sta Z Z.heap "java/lang/String" "COMPACT_STRINGS" "Z" (.int cs)) (hfv : fv.isRef = true) (S2 : Sta Z Z.heap "jdk/internal/util/Preconditions" "SIOOBE_FORMATTER" "Ljava/util/function/BiFunction;" fv) :
    Con l Z (⟨"java/lang/String", "checkIndex", "(II)V"⟩ : MethodName) jdk_42_method_155_code 2 none ({ frames := 1, cells := 0, slots := 0, locals := 14 } : Room) #[(.int (3 : Int32)), (.int (6 : Int32))] h n0 (fun v h' => v = none ∧ h = h') := by
  refine con_of hw (plainFor_of_name pn_java_lang_String) hn0 ?_
  intro p e s m below meth c T0 C X0
  refine Go.cast (congrArg T0.setTop (ef_own_sc_25 m )) ?_
  refine go_iloadN C X0 1 rfl d14_0 rfl ?_
  refine go_iloadN C X0 2 rfl d14_1 rfl ?_
  refine go_getS C X0 (C.w 71 rfl) (S2.ext X0.old.2) (pc' := 5) rfl d14_2 (fun T1 X2 => ?_)
  refine go_callS C X2 (C.w 73 rfl) (C.w 74 rfl) (C.w 72 rfl) (C.w 75 rfl) (own_pc_26 l Z a0 C.ws fv h n0 X2.old hfv) (argsL := [(.int (3 : Int32)), (.int (6 : Int32)), fv]) (rest := []) (lenOf pd_1 rfl) rfl (by decide) (by decide) (Nat.le_of_ble_eq_true rfl) (by decide) (by decide) rfl rfl (pc' := 8) rfl d14_5 ?_
  rintro T3 _ _ ⟨rfl, rfl⟩ X4
  show Go p e below _ (T3.setTop (mkF m 8 #[iv (3 : Int32), iv (6 : Int32)] [(.int (3 : Int32))]))
  refine go_pop C X4 9 rfl d14_8 rfl ?_
  exact go_ret0 C X4 d14_9 ⟨rfl, rfl⟩ (by decide) (by decide)
theorem ef_own_lc_24 (m : MethodId) (sb : Addr)  : entryFrame m #[(.ref sb), (.int (3 : Int32))] 2 = mkF m 0 #[rv sb, iv (3 : Int32)] [] := by
  first | (simp [entryFrame, mkF, argsToLocals, Value.category]; done) | rfl
set_option maxRecDepth 65536 in
set_option maxHeartbeats 40000000 in
theorem own_lc_24 (l : Launch) (Z : State) (a0 : Array Value) (hw : ∀ d ∈ tables_1, d.before a0 Z = true) (sb : Addr) (cs : Int32) (fv : Value) (h : Heap) (n0 : Nat) (hn0 : Old Z n0 h) (AS : La Z h sb .byte [(.int (45 : Int32)), (.int (45 : Int32)), (.int (104 : Int32)), (.int (101 : Int32)), (.int (108 : Int32)), (.int (112 : Int32))]) (hcs : ¬ cs = 0) (S1 : Sta Z Z.heap "java/lang/String" "COMPACT_STRINGS" "Z" (.int cs)) (hfv : fv.isRef = true) (S2 : Sta Z Z.heap "jdk/internal/util/Preconditions" "SIOOBE_FORMATTER" "Ljava/util/function/BiFunction;" fv) :
    Con l Z (⟨"java/lang/StringLatin1", "charAt", "([BI)C"⟩ : MethodName) jdk_43_method_2_code 2 (some .char) ({ frames := 2, cells := 0, slots := 0, locals := 27 } : Room) #[(.ref sb), (.int (3 : Int32))] h n0 (fun v h' => v = some (.int (101 : Int32)) ∧ h = h') := by
  refine con_of hw (plainFor_of_name pn_java_lang_StringLatin1) hn0 ?_
  intro p e s m below meth c T0 C X0
  refine Go.cast (congrArg T0.setTop (ef_own_lc_24 m sb)) ?_
  refine go_iloadN C X0 1 rfl d13_0 rfl ?_
  refine go_aloadN C X0 2 rfl d13_1 rfl rfl ?_
  refine go_alen C X0 AS (z := (6 : Int32)) rfl (pc' := 3) rfl d13_2 ?_
  refine go_callS C X0 (C.w 68 rfl) (C.w 69 rfl) (C.w 3 rfl) (C.w 70 rfl) (own_sc_25 l Z a0 C.ws cs fv h n0 X0.old hcs S1 hfv S2) (argsL := [(.int (3 : Int32)), (.int (6 : Int32))]) (rest := []) (lenOf pd_2 rfl) rfl (by decide) (by decide) (Nat.le_of_ble_eq_true rfl) (by decide) (by decide) rfl rfl (pc' := 6) rfl d13_3 ?_
  rintro T1 _ _ ⟨rfl, rfl⟩ X2
  show Go p e below _ (T1.setTop (mkF m 6 #[rv sb, iv (3 : Int32)] []))
  refine go_aloadN C X2 7 rfl d13_6 rfl rfl ?_
  refine go_iloadN C X2 8 rfl d13_7 rfl ?_
  refine go_baloadBytes C X2 AS (by decide) (v := (.int (101 : Int32))) rfl (pc' := 9) rfl d13_8 ?_
  refine go_sipush C X2 12 rfl d13_9 (z := 255) rfl ?_
  refine go_iandL C X2 13 rfl d13_12 (z := (101)) rfl ?_
  refine go_i2c C X2 14 rfl d13_13 ?_
  show Go p e below _ (T1.setTop (mkF m 14 #[rv sb, iv (3 : Int32)] [(.int (101 : Int32))]))
  exact go_retN C X2 (by simp) (z' := 101) rfl d13_14 ⟨rfl, rfl⟩ (by decide) (by decide)
theorem ef_own_s11_23 (m : MethodId) (sa : Addr)  : entryFrame m #[(.ref sa), (.int (3 : Int32))] 2 = mkF m 0 #[rv sa, iv (3 : Int32)] [] := by
  first | (simp [entryFrame, mkF, argsToLocals, Value.category]; done) | rfl
set_option maxRecDepth 65536 in
set_option maxHeartbeats 40000000 in
theorem own_s11_23 (l : Launch) (Z : State) (a0 : Array Value) (hw : ∀ d ∈ tables_1, d.before a0 Z = true) (sa : Addr) (sb : Addr) (cs : Int32) (fv : Value) (h : Heap) (n0 : Nat) (hn0 : Old Z n0 h) (ES : Exa Z h sa "java/lang/String") (G1 : Fld Z h sa "java/lang/String" "coder" "B" (.int 0)) (G2 : Fld Z h sa "java/lang/String" "value" "[B" (.ref sb)) (AS : La Z h sb .byte [(.int (45 : Int32)), (.int (45 : Int32)), (.int (104 : Int32)), (.int (101 : Int32)), (.int (108 : Int32)), (.int (112 : Int32))]) (hcs : ¬ cs = 0) (S1 : Sta Z Z.heap "java/lang/String" "COMPACT_STRINGS" "Z" (.int cs)) (hfv : fv.isRef = true) (S2 : Sta Z Z.heap "jdk/internal/util/Preconditions" "SIOOBE_FORMATTER" "Ljava/util/function/BiFunction;" fv) :
    Con l Z (⟨"java/lang/String", "charAt", "(I)C"⟩ : MethodName) jdk_42_method_56_code 2 (some .char) ({ frames := 3, cells := 0, slots := 0, locals := 40 } : Room) #[(.ref sa), (.int (3 : Int32))] h n0 (fun v h' => v = some (.int (101 : Int32)) ∧ h = h') := by
  refine con_of hw (plainFor_of_name pn_java_lang_String) hn0 ?_
  intro p e s m below meth c T0 C X0
  refine Go.cast (congrArg T0.setTop (ef_own_s11_23 m sa)) ?_
  refine go_aloadN C X0 1 rfl d11_0 rfl rfl ?_
  refine go_virtual C X0 ES (C.w 60 rfl) (C.w 61 rfl) (notFace_of_selects (args := #[]) (mvT C.hZ (C.w 63 rfl))) (C.w 63 rfl) (C.w 62 rfl) (C.w 3 rfl) (C.w 64 rfl) (own_s12_7 l Z a0 C.ws sa sb cs fv h n0 X0.old ES G1 G2 AS hcs S1 hfv S2) (argsL := []) (rest := []) (lenOf pd_0 rfl) rfl (by decide) (by decide) (Nat.le_of_ble_eq_true rfl) (by decide) (by decide) rfl rfl (pc' := 4) rfl d11_1 ?_
  rintro T1 _ _ ⟨rfl, rfl⟩ X2
  show Go p e below _ (T1.setTop (mkF m 4 #[rv sa, iv (3 : Int32)] [(.int (1 : Int32))]))
  refine go_if_eq C X2 d11_4 (pc' := 7) (pc2 := 16) rfl (by decide) (by decide) (fun (c4 : (1 : Int32) = (0 : Int32)) => False.elim (by first | omega | exact absurd c4 (by decide))) (fun (c4 : ¬ (1 : Int32) = (0 : Int32)) => ?_)
  refine go_aloadN C X2 8 rfl d11_7 rfl rfl ?_
  refine go_getF C X2 (C.w 20 rfl) Via.refl G2 (pc' := 11) rfl d11_8 (fun T4 X5 => ?_)
  refine go_iloadN C X5 12 rfl d11_11 rfl ?_
  refine go_callS C X5 (C.w 65 rfl) (C.w 66 rfl) (C.w 36 rfl) (C.w 67 rfl) (own_lc_24 l Z a0 C.ws sb cs fv h n0 X5.old AS hcs S1 hfv S2) (argsL := [(.ref sb), (.int (3 : Int32))]) (rest := []) (lenOf pd_3 rfl) rfl (by decide) (by decide) (Nat.le_of_ble_eq_true rfl) (by decide) (by decide) rfl rfl (pc' := 15) rfl d11_12 ?_
  rintro T6 _ _ ⟨rfl, rfl⟩ X7
  show Go p e below _ (T6.setTop (mkF m 15 #[rv sa, iv (3 : Int32)] [(.int (101 : Int32))]))
  exact go_retN C X7 (by simp) (z' := 101) rfl d11_15 ⟨rfl, rfl⟩ (by decide) (by decide)
theorem ef_own_pick_3 (m : MethodId) (kd : Int32) (raw : Int64) (pp : Int32) (ch : Int32)  : entryFrame m #[(.int (3 : Int32)), (.int kd), (.long raw), (.int pp), (.int ch)] 7 = mkF m 0 #[iv (3 : Int32), iv kd, jv raw, sc, iv pp, iv ch, un] [] := by
  first | (simp [entryFrame, mkF, argsToLocals, Value.category]; done) | rfl
set_option maxRecDepth 65536 in
set_option maxHeartbeats 40000000 in
theorem own_pick_3 (l : Launch) (Z : State) (a0 : Array Value) (hw : ∀ d ∈ tables_1, d.before a0 Z = true) (kd : Int32) (raw : Int64) (pp : Int32) (ch : Int32) (cs : Int32) (fv : Value) (h : Heap) (n0 : Nat) (hn0 : Old Z n0 h) (hEL : EW Z a0 consts_1) (hcs : ¬ cs = 0) (S1 : Sta Z Z.heap "java/lang/String" "COMPACT_STRINGS" "Z" (.int cs)) (hfv : fv.isRef = true) (S2 : Sta Z Z.heap "jdk/internal/util/Preconditions" "SIOOBE_FORMATTER" "Ljava/util/function/BiFunction;" fv) :
    ConW l Z consts_1 (⟨"com/example/bundlewalk/bundlewalk/OptionsIsHelpPinLaw", "pick", "(IIJII)C"⟩ : MethodName) method_3_code 7 (some .char) ({ frames := 4, cells := 2, slots := 28, locals := 53 } : Room) #[(.int (3 : Int32)), (.int kd), (.long raw), (.int pp), (.int ch)] h n0 (fun v h' => ∃ cq : Int32, v = some (.int cq) ∧ (0 ≤ cq.toInt ∧ cq.toInt ≤ 255) ∧ Keep h h' []) := by
  refine conW_of hw (plainFor_of_name pn_com_example_bundlewalk_bundlewalk_OptionsIsHelpPinLaw) hn0 ?_
  intro p e sv0 s m below meth c T0 C WI0 X0
  refine Go.cast (congrArg T0.setTop (ef_own_pick_3 m kd raw pp ch)) ?_
  refine go_lloadN C X0 1 rfl d7_0 rfl ?_
  refine go_bipush C X0 3 rfl d7_1 (z := 8) rfl ?_
  refine go_iloadN C X0 4 rfl d7_3 rfl ?_
  refine go_imulL C X0 5 rfl d7_4 (z := (24)) rfl ?_
  refine go_lushr C X0 6 rfl d7_5 ?_
  refine go_ldc2Long C X0 (C.w 43 rfl) (pc' := 9) rfl d7_6 ?_
  refine go_land C X0 10 rfl d7_9 ?_
  refine go_l2i C X0 11 rfl d7_10 ?_
  refine go_i2c C X0 12 rfl d7_11 ?_
  refine go_istore C X0 14 rfl d7_12 #[iv (3 : Int32), iv kd, jv raw, sc, iv pp, iv ch, iv (((((raw.toUInt64 >>> ((24 : Int32) &&& 0x3f).toInt64.toUInt64).toInt64) &&& (255 : Int64)).toInt32).toUInt32.toUInt16.toUInt32.toInt32)] rfl ?_
  refine go_iloadN C X0 15 rfl d7_14 rfl ?_
  refine go_iconst C X0 16 rfl d7_15 (z := 1) rfl ?_
  refine go_icmp_ne C X0 d7_16 (pc' := 19) (pc2 := 33) rfl (by decide) (by decide) (fun (c16 : ¬ kd = (1 : Int32)) => ?_) (fun (c16 : kd = (1 : Int32)) => ?_)
  · refine go_iloadN C X0 34 rfl d7_33 rfl ?_
    refine go_iconst C X0 35 rfl d7_34 (z := 2) rfl ?_
    refine go_icmp_ne C X0 d7_35 (pc' := 38) (pc2 := 51) rfl (by decide) (by decide) (fun (c35 : ¬ kd = (2 : Int32)) => ?_) (fun (c35 : kd = (2 : Int32)) => ?_)
    · refine go_iload C X0 53 rfl d7_51 rfl ?_
      refine go_iloadN C X0 54 rfl d7_53 rfl ?_
      refine go_icmp_ne C X0 d7_54 (pc' := 57) (pc2 := 66) rfl (by decide) (by decide) (fun (c54 : ¬ pp = (3 : Int32)) => ?_) (fun (c54 : pp = (3 : Int32)) => ?_)
      · refine go_iload C X0 68 rfl d7_66 rfl ?_
        exact go_retNW C X0 WI0 hEL (by simp) rfl d7_68 ⟨_, rfl, own_nar255 (own_pb1 _).1 (own_pb1 _).2, (Keep.refl h [])⟩ (by decide) (by decide)
      · refine go_iload C X0 59 rfl d7_57 rfl ?_
        refine go_sipush C X0 62 rfl d7_59 (z := 255) rfl ?_
        refine go_iand C X0 63 rfl d7_62 ?_
        refine go_i2c C X0 64 rfl d7_63 ?_
        refine go_istore C X0 66 rfl d7_64 #[iv (3 : Int32), iv kd, jv raw, sc, iv pp, iv ch, iv ((ch &&& (255 : Int32)).toUInt32.toUInt16.toUInt32.toInt32)] rfl ?_
        refine go_iload C X0 68 rfl d7_66 rfl ?_
        exact go_retNW C X0 WI0 hEL (by simp) rfl d7_68 ⟨_, rfl, own_nar255 (own_pb2 _).1 (own_pb2 _).2, (Keep.refl h [])⟩ (by decide) (by decide)
    · refine go_iloadN C X0 39 rfl d7_38 rfl ?_
      refine go_iconst C X0 40 rfl d7_39 (z := 2) rfl ?_
      refine go_icmp_ge C X0 d7_40 (pc' := 43) (pc2 := 51) rfl (by decide) (by decide) (fun (c40 : 2 ≤ 3) => ?_) (fun (c40 : 3 < 2) => False.elim (by first | omega | exact absurd c40 (by decide)))
      refine go_iload C X0 53 rfl d7_51 rfl ?_
      refine go_iloadN C X0 54 rfl d7_53 rfl ?_
      refine go_icmp_ne C X0 d7_54 (pc' := 57) (pc2 := 66) rfl (by decide) (by decide) (fun (c54 : ¬ pp = (3 : Int32)) => ?_) (fun (c54 : pp = (3 : Int32)) => ?_)
      · refine go_iload C X0 68 rfl d7_66 rfl ?_
        exact go_retNW C X0 WI0 hEL (by simp) rfl d7_68 ⟨_, rfl, own_nar255 (own_pb1 _).1 (own_pb1 _).2, (Keep.refl h [])⟩ (by decide) (by decide)
      · refine go_iload C X0 59 rfl d7_57 rfl ?_
        refine go_sipush C X0 62 rfl d7_59 (z := 255) rfl ?_
        refine go_iand C X0 63 rfl d7_62 ?_
        refine go_i2c C X0 64 rfl d7_63 ?_
        refine go_istore C X0 66 rfl d7_64 #[iv (3 : Int32), iv kd, jv raw, sc, iv pp, iv ch, iv ((ch &&& (255 : Int32)).toUInt32.toUInt16.toUInt32.toInt32)] rfl ?_
        refine go_iload C X0 68 rfl d7_66 rfl ?_
        exact go_retNW C X0 WI0 hEL (by simp) rfl d7_68 ⟨_, rfl, own_nar255 (own_pb2 _).1 (own_pb2 _).2, (Keep.refl h [])⟩ (by decide) (by decide)
  · refine go_iloadN C X0 20 rfl d7_19 rfl ?_
    refine go_bipush C X0 22 rfl d7_20 (z := 6) rfl ?_
    refine go_icmp_ge C X0 d7_22 (pc' := 25) (pc2 := 33) rfl (by decide) (by decide) (fun (c22 : 6 ≤ 3) => False.elim (by first | omega | exact absurd c22 (by decide))) (fun (c22 : 3 < 6) => ?_)
    refine go_ldcH C X0 WI0 hEL (C.w 76 rfl) (own_wS C.ws) (List.mem_of_getElem? (i := 2) rfl) (vs := [(.int (45 : Int32)), (.int (45 : Int32)), (.int (104 : Int32)), (.int (101 : Int32)), (.int (108 : Int32)), (.int (112 : Int32))]) (z := 6) (own_lit26) (by decide) (by decide) (q := 24) own_len26 (by decide) (by decide) (by decide) (pc' := 27) rfl d7_25 ?_
    intro s T1 h3 la lb C WI10 E4 E5 F6 F7 A8 SF9 SFT11 X2
    have K12 := (Keep.refl h []).ext E4
    refine go_iloadN C X2 28 rfl d7_27 rfl ?_
    refine go_virtual C X2 E5 (C.w 55 rfl) (C.w 56 rfl) (notFace_of_selects (args := #[]) (mvT C.hZ (C.w 58 rfl))) (C.w 58 rfl) (C.w 57 rfl) (C.w 3 rfl) (C.w 59 rfl) (own_s11_23 l Z a0 C.ws la lb cs fv h3 n0 X2.old E5 F6 F7 A8 hcs S1 hfv S2) (argsL := [(.int (3 : Int32))]) (rest := []) (lenOf pd_4 rfl) rfl (by decide) (by decide) (Nat.le_of_ble_eq_true rfl) (by decide) (by decide) rfl rfl (pc' := 31) rfl d7_28 ?_
    rintro T13 _ _ ⟨rfl, rfl⟩ X14
    show Go p e below _ (T13.setTop (mkF m 31 #[iv (3 : Int32), iv kd, jv raw, sc, iv pp, iv ch, iv (((((raw.toUInt64 >>> ((24 : Int32) &&& 0x3f).toInt64.toUInt64).toInt64) &&& (255 : Int64)).toInt32).toUInt32.toUInt16.toUInt32.toInt32)] [(.int (101 : Int32))]))
    refine go_istore C X14 33 rfl d7_31 #[iv (3 : Int32), iv kd, jv raw, sc, iv pp, iv ch, iv (101 : Int32)] rfl ?_
    refine go_iloadN C X14 34 rfl d7_33 rfl ?_
    refine go_iconst C X14 35 rfl d7_34 (z := 2) rfl ?_
    refine go_icmp_ne C X14 d7_35 (pc' := 38) (pc2 := 51) rfl (by decide) (by decide) (fun (c35 : ¬ kd = (2 : Int32)) => ?_) (fun (c35 : kd = (2 : Int32)) => False.elim (by rw [c16] at c35; exact absurd c35 (by decide)))
    refine go_iload C X14 53 rfl d7_51 rfl ?_
    refine go_iloadN C X14 54 rfl d7_53 rfl ?_
    refine go_icmp_ne C X14 d7_54 (pc' := 57) (pc2 := 66) rfl (by decide) (by decide) (fun (c54 : ¬ pp = (3 : Int32)) => ?_) (fun (c54 : pp = (3 : Int32)) => ?_)
    · refine go_iload C X14 68 rfl d7_66 rfl ?_
      exact go_retNW C X14 WI10 hEL (by simp) (z' := 101) rfl d7_68 ⟨_, rfl, ⟨by decide, by decide⟩, K12⟩ (by decide) (by decide)
    · refine go_iload C X14 59 rfl d7_57 rfl ?_
      refine go_sipush C X14 62 rfl d7_59 (z := 255) rfl ?_
      refine go_iand C X14 63 rfl d7_62 ?_
      refine go_i2c C X14 64 rfl d7_63 ?_
      refine go_istore C X14 66 rfl d7_64 #[iv (3 : Int32), iv kd, jv raw, sc, iv pp, iv ch, iv ((ch &&& (255 : Int32)).toUInt32.toUInt16.toUInt32.toInt32)] rfl ?_
      refine go_iload C X14 68 rfl d7_66 rfl ?_
      exact go_retNW C X14 WI10 hEL (by simp) rfl d7_68 ⟨_, rfl, own_nar255 (own_pb2 _).1 (own_pb2 _).2, K12⟩ (by decide) (by decide)
theorem ef_own_pc_30 (m : MethodId) (fv : Value) (hfv : fv.isRef = true) : entryFrame m #[(.int (4 : Int32)), (.int (6 : Int32)), fv] 3 = mkF m 0 #[iv (4 : Int32), iv (6 : Int32), .val fv] [] := by
  cases fv <;> first | (cases hfv; done) | skip
  all_goals first | (simp [entryFrame, mkF, argsToLocals, Value.category]; done) | rfl
set_option maxRecDepth 65536 in
set_option maxHeartbeats 40000000 in
theorem own_pc_30 (l : Launch) (Z : State) (a0 : Array Value) (hw : ∀ d ∈ tables_1, d.before a0 Z = true) (fv : Value)  (h : Heap) (n0 : Nat) (hn0 : Old Z n0 h) (hfv : fv.isRef = true)  :
    Con l Z (⟨"jdk/internal/util/Preconditions", "checkIndex", "(IILjava/util/function/BiFunction;)I"⟩ : MethodName) jdk_41_method_11_code 3 (some .int) ({ frames := 0, cells := 0, slots := 0, locals := 0 } : Room) #[(.int (4 : Int32)), (.int (6 : Int32)), fv] h n0 (fun v h' => v = some (.int (4 : Int32)) ∧ h = h') := by
  refine con_of hw (plainFor_of_name pn_jdk_internal_util_Preconditions) hn0 ?_
  intro p e s m below meth c T0 C X0
  refine Go.cast (congrArg T0.setTop (ef_own_pc_30 m fv hfv)) ?_
  refine go_iloadN C X0 1 rfl d15_0 rfl ?_
  refine go_if_lt C X0 d15_1 (pc' := 4) (pc2 := 9) rfl (by decide) (by decide) (fun (c1 : 4 < 0) => False.elim (by first | omega | exact absurd c1 (by decide))) (fun (c1 : 0 ≤ 4) => ?_)
  refine go_iloadN C X0 5 rfl d15_4 rfl ?_
  refine go_iloadN C X0 6 rfl d15_5 rfl ?_
  refine go_icmp_lt C X0 d15_6 (pc' := 9) (pc2 := 16) rfl (by decide) (by decide) (fun (c6 : 4 < 6) => ?_) (fun (c6 : 6 ≤ 4) => False.elim (by first | omega | exact absurd c6 (by decide)))
  refine go_iloadN C X0 17 rfl d15_16 rfl ?_
  exact go_retI C X0 d15_17 ⟨rfl, rfl⟩ (by decide) (by decide)
theorem ef_own_sc_29 (m : MethodId)   : entryFrame m #[(.int (4 : Int32)), (.int (6 : Int32))] 2 = mkF m 0 #[iv (4 : Int32), iv (6 : Int32)] [] := by
  first | (simp [entryFrame, mkF, argsToLocals, Value.category]; done) | rfl
set_option maxRecDepth 65536 in
set_option maxHeartbeats 40000000 in
theorem own_sc_29 (l : Launch) (Z : State) (a0 : Array Value) (hw : ∀ d ∈ tables_1, d.before a0 Z = true)  (cs : Int32) (fv : Value) (h : Heap) (n0 : Nat) (hn0 : Old Z n0 h) (hcs : ¬ cs = 0) (S1 : Sta Z Z.heap "java/lang/String" "COMPACT_STRINGS" "Z" (.int cs)) (hfv : fv.isRef = true) (S2 : Sta Z Z.heap "jdk/internal/util/Preconditions" "SIOOBE_FORMATTER" "Ljava/util/function/BiFunction;" fv) :
    Con l Z (⟨"java/lang/String", "checkIndex", "(II)V"⟩ : MethodName) jdk_42_method_155_code 2 none ({ frames := 1, cells := 0, slots := 0, locals := 14 } : Room) #[(.int (4 : Int32)), (.int (6 : Int32))] h n0 (fun v h' => v = none ∧ h = h') := by
  refine con_of hw (plainFor_of_name pn_java_lang_String) hn0 ?_
  intro p e s m below meth c T0 C X0
  refine Go.cast (congrArg T0.setTop (ef_own_sc_29 m )) ?_
  refine go_iloadN C X0 1 rfl d14_0 rfl ?_
  refine go_iloadN C X0 2 rfl d14_1 rfl ?_
  refine go_getS C X0 (C.w 71 rfl) (S2.ext X0.old.2) (pc' := 5) rfl d14_2 (fun T1 X2 => ?_)
  refine go_callS C X2 (C.w 73 rfl) (C.w 74 rfl) (C.w 72 rfl) (C.w 75 rfl) (own_pc_30 l Z a0 C.ws fv h n0 X2.old hfv) (argsL := [(.int (4 : Int32)), (.int (6 : Int32)), fv]) (rest := []) (lenOf pd_1 rfl) rfl (by decide) (by decide) (Nat.le_of_ble_eq_true rfl) (by decide) (by decide) rfl rfl (pc' := 8) rfl d14_5 ?_
  rintro T3 _ _ ⟨rfl, rfl⟩ X4
  show Go p e below _ (T3.setTop (mkF m 8 #[iv (4 : Int32), iv (6 : Int32)] [(.int (4 : Int32))]))
  refine go_pop C X4 9 rfl d14_8 rfl ?_
  exact go_ret0 C X4 d14_9 ⟨rfl, rfl⟩ (by decide) (by decide)
theorem ef_own_lc_28 (m : MethodId) (sb : Addr)  : entryFrame m #[(.ref sb), (.int (4 : Int32))] 2 = mkF m 0 #[rv sb, iv (4 : Int32)] [] := by
  first | (simp [entryFrame, mkF, argsToLocals, Value.category]; done) | rfl
set_option maxRecDepth 65536 in
set_option maxHeartbeats 40000000 in
theorem own_lc_28 (l : Launch) (Z : State) (a0 : Array Value) (hw : ∀ d ∈ tables_1, d.before a0 Z = true) (sb : Addr) (cs : Int32) (fv : Value) (h : Heap) (n0 : Nat) (hn0 : Old Z n0 h) (AS : La Z h sb .byte [(.int (45 : Int32)), (.int (45 : Int32)), (.int (104 : Int32)), (.int (101 : Int32)), (.int (108 : Int32)), (.int (112 : Int32))]) (hcs : ¬ cs = 0) (S1 : Sta Z Z.heap "java/lang/String" "COMPACT_STRINGS" "Z" (.int cs)) (hfv : fv.isRef = true) (S2 : Sta Z Z.heap "jdk/internal/util/Preconditions" "SIOOBE_FORMATTER" "Ljava/util/function/BiFunction;" fv) :
    Con l Z (⟨"java/lang/StringLatin1", "charAt", "([BI)C"⟩ : MethodName) jdk_43_method_2_code 2 (some .char) ({ frames := 2, cells := 0, slots := 0, locals := 27 } : Room) #[(.ref sb), (.int (4 : Int32))] h n0 (fun v h' => v = some (.int (108 : Int32)) ∧ h = h') := by
  refine con_of hw (plainFor_of_name pn_java_lang_StringLatin1) hn0 ?_
  intro p e s m below meth c T0 C X0
  refine Go.cast (congrArg T0.setTop (ef_own_lc_28 m sb)) ?_
  refine go_iloadN C X0 1 rfl d13_0 rfl ?_
  refine go_aloadN C X0 2 rfl d13_1 rfl rfl ?_
  refine go_alen C X0 AS (z := (6 : Int32)) rfl (pc' := 3) rfl d13_2 ?_
  refine go_callS C X0 (C.w 68 rfl) (C.w 69 rfl) (C.w 3 rfl) (C.w 70 rfl) (own_sc_29 l Z a0 C.ws cs fv h n0 X0.old hcs S1 hfv S2) (argsL := [(.int (4 : Int32)), (.int (6 : Int32))]) (rest := []) (lenOf pd_2 rfl) rfl (by decide) (by decide) (Nat.le_of_ble_eq_true rfl) (by decide) (by decide) rfl rfl (pc' := 6) rfl d13_3 ?_
  rintro T1 _ _ ⟨rfl, rfl⟩ X2
  show Go p e below _ (T1.setTop (mkF m 6 #[rv sb, iv (4 : Int32)] []))
  refine go_aloadN C X2 7 rfl d13_6 rfl rfl ?_
  refine go_iloadN C X2 8 rfl d13_7 rfl ?_
  refine go_baloadBytes C X2 AS (by decide) (v := (.int (108 : Int32))) rfl (pc' := 9) rfl d13_8 ?_
  refine go_sipush C X2 12 rfl d13_9 (z := 255) rfl ?_
  refine go_iandL C X2 13 rfl d13_12 (z := (108)) rfl ?_
  refine go_i2c C X2 14 rfl d13_13 ?_
  show Go p e below _ (T1.setTop (mkF m 14 #[rv sb, iv (4 : Int32)] [(.int (108 : Int32))]))
  exact go_retN C X2 (by simp) (z' := 108) rfl d13_14 ⟨rfl, rfl⟩ (by decide) (by decide)
theorem ef_own_s11_27 (m : MethodId) (sa : Addr)  : entryFrame m #[(.ref sa), (.int (4 : Int32))] 2 = mkF m 0 #[rv sa, iv (4 : Int32)] [] := by
  first | (simp [entryFrame, mkF, argsToLocals, Value.category]; done) | rfl
set_option maxRecDepth 65536 in
set_option maxHeartbeats 40000000 in
theorem own_s11_27 (l : Launch) (Z : State) (a0 : Array Value) (hw : ∀ d ∈ tables_1, d.before a0 Z = true) (sa : Addr) (sb : Addr) (cs : Int32) (fv : Value) (h : Heap) (n0 : Nat) (hn0 : Old Z n0 h) (ES : Exa Z h sa "java/lang/String") (G1 : Fld Z h sa "java/lang/String" "coder" "B" (.int 0)) (G2 : Fld Z h sa "java/lang/String" "value" "[B" (.ref sb)) (AS : La Z h sb .byte [(.int (45 : Int32)), (.int (45 : Int32)), (.int (104 : Int32)), (.int (101 : Int32)), (.int (108 : Int32)), (.int (112 : Int32))]) (hcs : ¬ cs = 0) (S1 : Sta Z Z.heap "java/lang/String" "COMPACT_STRINGS" "Z" (.int cs)) (hfv : fv.isRef = true) (S2 : Sta Z Z.heap "jdk/internal/util/Preconditions" "SIOOBE_FORMATTER" "Ljava/util/function/BiFunction;" fv) :
    Con l Z (⟨"java/lang/String", "charAt", "(I)C"⟩ : MethodName) jdk_42_method_56_code 2 (some .char) ({ frames := 3, cells := 0, slots := 0, locals := 40 } : Room) #[(.ref sa), (.int (4 : Int32))] h n0 (fun v h' => v = some (.int (108 : Int32)) ∧ h = h') := by
  refine con_of hw (plainFor_of_name pn_java_lang_String) hn0 ?_
  intro p e s m below meth c T0 C X0
  refine Go.cast (congrArg T0.setTop (ef_own_s11_27 m sa)) ?_
  refine go_aloadN C X0 1 rfl d11_0 rfl rfl ?_
  refine go_virtual C X0 ES (C.w 60 rfl) (C.w 61 rfl) (notFace_of_selects (args := #[]) (mvT C.hZ (C.w 63 rfl))) (C.w 63 rfl) (C.w 62 rfl) (C.w 3 rfl) (C.w 64 rfl) (own_s12_7 l Z a0 C.ws sa sb cs fv h n0 X0.old ES G1 G2 AS hcs S1 hfv S2) (argsL := []) (rest := []) (lenOf pd_0 rfl) rfl (by decide) (by decide) (Nat.le_of_ble_eq_true rfl) (by decide) (by decide) rfl rfl (pc' := 4) rfl d11_1 ?_
  rintro T1 _ _ ⟨rfl, rfl⟩ X2
  show Go p e below _ (T1.setTop (mkF m 4 #[rv sa, iv (4 : Int32)] [(.int (1 : Int32))]))
  refine go_if_eq C X2 d11_4 (pc' := 7) (pc2 := 16) rfl (by decide) (by decide) (fun (c4 : (1 : Int32) = (0 : Int32)) => False.elim (by first | omega | exact absurd c4 (by decide))) (fun (c4 : ¬ (1 : Int32) = (0 : Int32)) => ?_)
  refine go_aloadN C X2 8 rfl d11_7 rfl rfl ?_
  refine go_getF C X2 (C.w 20 rfl) Via.refl G2 (pc' := 11) rfl d11_8 (fun T4 X5 => ?_)
  refine go_iloadN C X5 12 rfl d11_11 rfl ?_
  refine go_callS C X5 (C.w 65 rfl) (C.w 66 rfl) (C.w 36 rfl) (C.w 67 rfl) (own_lc_28 l Z a0 C.ws sb cs fv h n0 X5.old AS hcs S1 hfv S2) (argsL := [(.ref sb), (.int (4 : Int32))]) (rest := []) (lenOf pd_3 rfl) rfl (by decide) (by decide) (Nat.le_of_ble_eq_true rfl) (by decide) (by decide) rfl rfl (pc' := 15) rfl d11_12 ?_
  rintro T6 _ _ ⟨rfl, rfl⟩ X7
  show Go p e below _ (T6.setTop (mkF m 15 #[rv sa, iv (4 : Int32)] [(.int (108 : Int32))]))
  exact go_retN C X7 (by simp) (z' := 108) rfl d11_15 ⟨rfl, rfl⟩ (by decide) (by decide)
theorem ef_own_pick_4 (m : MethodId) (kd : Int32) (raw : Int64) (pp : Int32) (ch : Int32)  : entryFrame m #[(.int (4 : Int32)), (.int kd), (.long raw), (.int pp), (.int ch)] 7 = mkF m 0 #[iv (4 : Int32), iv kd, jv raw, sc, iv pp, iv ch, un] [] := by
  first | (simp [entryFrame, mkF, argsToLocals, Value.category]; done) | rfl
set_option maxRecDepth 65536 in
set_option maxHeartbeats 40000000 in
theorem own_pick_4 (l : Launch) (Z : State) (a0 : Array Value) (hw : ∀ d ∈ tables_1, d.before a0 Z = true) (kd : Int32) (raw : Int64) (pp : Int32) (ch : Int32) (cs : Int32) (fv : Value) (h : Heap) (n0 : Nat) (hn0 : Old Z n0 h) (hEL : EW Z a0 consts_1) (hcs : ¬ cs = 0) (S1 : Sta Z Z.heap "java/lang/String" "COMPACT_STRINGS" "Z" (.int cs)) (hfv : fv.isRef = true) (S2 : Sta Z Z.heap "jdk/internal/util/Preconditions" "SIOOBE_FORMATTER" "Ljava/util/function/BiFunction;" fv) :
    ConW l Z consts_1 (⟨"com/example/bundlewalk/bundlewalk/OptionsIsHelpPinLaw", "pick", "(IIJII)C"⟩ : MethodName) method_3_code 7 (some .char) ({ frames := 4, cells := 2, slots := 28, locals := 53 } : Room) #[(.int (4 : Int32)), (.int kd), (.long raw), (.int pp), (.int ch)] h n0 (fun v h' => ∃ cq : Int32, v = some (.int cq) ∧ (0 ≤ cq.toInt ∧ cq.toInt ≤ 255) ∧ Keep h h' []) := by
  refine conW_of hw (plainFor_of_name pn_com_example_bundlewalk_bundlewalk_OptionsIsHelpPinLaw) hn0 ?_
  intro p e sv0 s m below meth c T0 C WI0 X0
  refine Go.cast (congrArg T0.setTop (ef_own_pick_4 m kd raw pp ch)) ?_
  refine go_lloadN C X0 1 rfl d7_0 rfl ?_
  refine go_bipush C X0 3 rfl d7_1 (z := 8) rfl ?_
  refine go_iloadN C X0 4 rfl d7_3 rfl ?_
  refine go_imulL C X0 5 rfl d7_4 (z := (32)) rfl ?_
  refine go_lushr C X0 6 rfl d7_5 ?_
  refine go_ldc2Long C X0 (C.w 43 rfl) (pc' := 9) rfl d7_6 ?_
  refine go_land C X0 10 rfl d7_9 ?_
  refine go_l2i C X0 11 rfl d7_10 ?_
  refine go_i2c C X0 12 rfl d7_11 ?_
  refine go_istore C X0 14 rfl d7_12 #[iv (4 : Int32), iv kd, jv raw, sc, iv pp, iv ch, iv (((((raw.toUInt64 >>> ((32 : Int32) &&& 0x3f).toInt64.toUInt64).toInt64) &&& (255 : Int64)).toInt32).toUInt32.toUInt16.toUInt32.toInt32)] rfl ?_
  refine go_iloadN C X0 15 rfl d7_14 rfl ?_
  refine go_iconst C X0 16 rfl d7_15 (z := 1) rfl ?_
  refine go_icmp_ne C X0 d7_16 (pc' := 19) (pc2 := 33) rfl (by decide) (by decide) (fun (c16 : ¬ kd = (1 : Int32)) => ?_) (fun (c16 : kd = (1 : Int32)) => ?_)
  · refine go_iloadN C X0 34 rfl d7_33 rfl ?_
    refine go_iconst C X0 35 rfl d7_34 (z := 2) rfl ?_
    refine go_icmp_ne C X0 d7_35 (pc' := 38) (pc2 := 51) rfl (by decide) (by decide) (fun (c35 : ¬ kd = (2 : Int32)) => ?_) (fun (c35 : kd = (2 : Int32)) => ?_)
    · refine go_iload C X0 53 rfl d7_51 rfl ?_
      refine go_iloadN C X0 54 rfl d7_53 rfl ?_
      refine go_icmp_ne C X0 d7_54 (pc' := 57) (pc2 := 66) rfl (by decide) (by decide) (fun (c54 : ¬ pp = (4 : Int32)) => ?_) (fun (c54 : pp = (4 : Int32)) => ?_)
      · refine go_iload C X0 68 rfl d7_66 rfl ?_
        exact go_retNW C X0 WI0 hEL (by simp) rfl d7_68 ⟨_, rfl, own_nar255 (own_pb1 _).1 (own_pb1 _).2, (Keep.refl h [])⟩ (by decide) (by decide)
      · refine go_iload C X0 59 rfl d7_57 rfl ?_
        refine go_sipush C X0 62 rfl d7_59 (z := 255) rfl ?_
        refine go_iand C X0 63 rfl d7_62 ?_
        refine go_i2c C X0 64 rfl d7_63 ?_
        refine go_istore C X0 66 rfl d7_64 #[iv (4 : Int32), iv kd, jv raw, sc, iv pp, iv ch, iv ((ch &&& (255 : Int32)).toUInt32.toUInt16.toUInt32.toInt32)] rfl ?_
        refine go_iload C X0 68 rfl d7_66 rfl ?_
        exact go_retNW C X0 WI0 hEL (by simp) rfl d7_68 ⟨_, rfl, own_nar255 (own_pb2 _).1 (own_pb2 _).2, (Keep.refl h [])⟩ (by decide) (by decide)
    · refine go_iloadN C X0 39 rfl d7_38 rfl ?_
      refine go_iconst C X0 40 rfl d7_39 (z := 2) rfl ?_
      refine go_icmp_ge C X0 d7_40 (pc' := 43) (pc2 := 51) rfl (by decide) (by decide) (fun (c40 : 2 ≤ 4) => ?_) (fun (c40 : 4 < 2) => False.elim (by first | omega | exact absurd c40 (by decide)))
      refine go_iload C X0 53 rfl d7_51 rfl ?_
      refine go_iloadN C X0 54 rfl d7_53 rfl ?_
      refine go_icmp_ne C X0 d7_54 (pc' := 57) (pc2 := 66) rfl (by decide) (by decide) (fun (c54 : ¬ pp = (4 : Int32)) => ?_) (fun (c54 : pp = (4 : Int32)) => ?_)
      · refine go_iload C X0 68 rfl d7_66 rfl ?_
        exact go_retNW C X0 WI0 hEL (by simp) rfl d7_68 ⟨_, rfl, own_nar255 (own_pb1 _).1 (own_pb1 _).2, (Keep.refl h [])⟩ (by decide) (by decide)
      · refine go_iload C X0 59 rfl d7_57 rfl ?_
        refine go_sipush C X0 62 rfl d7_59 (z := 255) rfl ?_
        refine go_iand C X0 63 rfl d7_62 ?_
        refine go_i2c C X0 64 rfl d7_63 ?_
        refine go_istore C X0 66 rfl d7_64 #[iv (4 : Int32), iv kd, jv raw, sc, iv pp, iv ch, iv ((ch &&& (255 : Int32)).toUInt32.toUInt16.toUInt32.toInt32)] rfl ?_
        refine go_iload C X0 68 rfl d7_66 rfl ?_
        exact go_retNW C X0 WI0 hEL (by simp) rfl d7_68 ⟨_, rfl, own_nar255 (own_pb2 _).1 (own_pb2 _).2, (Keep.refl h [])⟩ (by decide) (by decide)
  · refine go_iloadN C X0 20 rfl d7_19 rfl ?_
    refine go_bipush C X0 22 rfl d7_20 (z := 6) rfl ?_
    refine go_icmp_ge C X0 d7_22 (pc' := 25) (pc2 := 33) rfl (by decide) (by decide) (fun (c22 : 6 ≤ 4) => False.elim (by first | omega | exact absurd c22 (by decide))) (fun (c22 : 4 < 6) => ?_)
    refine go_ldcH C X0 WI0 hEL (C.w 76 rfl) (own_wS C.ws) (List.mem_of_getElem? (i := 2) rfl) (vs := [(.int (45 : Int32)), (.int (45 : Int32)), (.int (104 : Int32)), (.int (101 : Int32)), (.int (108 : Int32)), (.int (112 : Int32))]) (z := 6) (own_lit26) (by decide) (by decide) (q := 24) own_len26 (by decide) (by decide) (by decide) (pc' := 27) rfl d7_25 ?_
    intro s T1 h3 la lb C WI10 E4 E5 F6 F7 A8 SF9 SFT11 X2
    have K12 := (Keep.refl h []).ext E4
    refine go_iloadN C X2 28 rfl d7_27 rfl ?_
    refine go_virtual C X2 E5 (C.w 55 rfl) (C.w 56 rfl) (notFace_of_selects (args := #[]) (mvT C.hZ (C.w 58 rfl))) (C.w 58 rfl) (C.w 57 rfl) (C.w 3 rfl) (C.w 59 rfl) (own_s11_27 l Z a0 C.ws la lb cs fv h3 n0 X2.old E5 F6 F7 A8 hcs S1 hfv S2) (argsL := [(.int (4 : Int32))]) (rest := []) (lenOf pd_4 rfl) rfl (by decide) (by decide) (Nat.le_of_ble_eq_true rfl) (by decide) (by decide) rfl rfl (pc' := 31) rfl d7_28 ?_
    rintro T13 _ _ ⟨rfl, rfl⟩ X14
    show Go p e below _ (T13.setTop (mkF m 31 #[iv (4 : Int32), iv kd, jv raw, sc, iv pp, iv ch, iv (((((raw.toUInt64 >>> ((32 : Int32) &&& 0x3f).toInt64.toUInt64).toInt64) &&& (255 : Int64)).toInt32).toUInt32.toUInt16.toUInt32.toInt32)] [(.int (108 : Int32))]))
    refine go_istore C X14 33 rfl d7_31 #[iv (4 : Int32), iv kd, jv raw, sc, iv pp, iv ch, iv (108 : Int32)] rfl ?_
    refine go_iloadN C X14 34 rfl d7_33 rfl ?_
    refine go_iconst C X14 35 rfl d7_34 (z := 2) rfl ?_
    refine go_icmp_ne C X14 d7_35 (pc' := 38) (pc2 := 51) rfl (by decide) (by decide) (fun (c35 : ¬ kd = (2 : Int32)) => ?_) (fun (c35 : kd = (2 : Int32)) => False.elim (by rw [c16] at c35; exact absurd c35 (by decide)))
    refine go_iload C X14 53 rfl d7_51 rfl ?_
    refine go_iloadN C X14 54 rfl d7_53 rfl ?_
    refine go_icmp_ne C X14 d7_54 (pc' := 57) (pc2 := 66) rfl (by decide) (by decide) (fun (c54 : ¬ pp = (4 : Int32)) => ?_) (fun (c54 : pp = (4 : Int32)) => ?_)
    · refine go_iload C X14 68 rfl d7_66 rfl ?_
      exact go_retNW C X14 WI10 hEL (by simp) (z' := 108) rfl d7_68 ⟨_, rfl, ⟨by decide, by decide⟩, K12⟩ (by decide) (by decide)
    · refine go_iload C X14 59 rfl d7_57 rfl ?_
      refine go_sipush C X14 62 rfl d7_59 (z := 255) rfl ?_
      refine go_iand C X14 63 rfl d7_62 ?_
      refine go_i2c C X14 64 rfl d7_63 ?_
      refine go_istore C X14 66 rfl d7_64 #[iv (4 : Int32), iv kd, jv raw, sc, iv pp, iv ch, iv ((ch &&& (255 : Int32)).toUInt32.toUInt16.toUInt32.toInt32)] rfl ?_
      refine go_iload C X14 68 rfl d7_66 rfl ?_
      exact go_retNW C X14 WI10 hEL (by simp) rfl d7_68 ⟨_, rfl, own_nar255 (own_pb2 _).1 (own_pb2 _).2, K12⟩ (by decide) (by decide)
theorem ef_own_pc_34 (m : MethodId) (fv : Value) (hfv : fv.isRef = true) : entryFrame m #[(.int (5 : Int32)), (.int (6 : Int32)), fv] 3 = mkF m 0 #[iv (5 : Int32), iv (6 : Int32), .val fv] [] := by
  cases fv <;> first | (cases hfv; done) | skip
  all_goals first | (simp [entryFrame, mkF, argsToLocals, Value.category]; done) | rfl
set_option maxRecDepth 65536 in
set_option maxHeartbeats 40000000 in
theorem own_pc_34 (l : Launch) (Z : State) (a0 : Array Value) (hw : ∀ d ∈ tables_1, d.before a0 Z = true) (fv : Value)  (h : Heap) (n0 : Nat) (hn0 : Old Z n0 h) (hfv : fv.isRef = true)  :
    Con l Z (⟨"jdk/internal/util/Preconditions", "checkIndex", "(IILjava/util/function/BiFunction;)I"⟩ : MethodName) jdk_41_method_11_code 3 (some .int) ({ frames := 0, cells := 0, slots := 0, locals := 0 } : Room) #[(.int (5 : Int32)), (.int (6 : Int32)), fv] h n0 (fun v h' => v = some (.int (5 : Int32)) ∧ h = h') := by
  refine con_of hw (plainFor_of_name pn_jdk_internal_util_Preconditions) hn0 ?_
  intro p e s m below meth c T0 C X0
  refine Go.cast (congrArg T0.setTop (ef_own_pc_34 m fv hfv)) ?_
  refine go_iloadN C X0 1 rfl d15_0 rfl ?_
  refine go_if_lt C X0 d15_1 (pc' := 4) (pc2 := 9) rfl (by decide) (by decide) (fun (c1 : 5 < 0) => False.elim (by first | omega | exact absurd c1 (by decide))) (fun (c1 : 0 ≤ 5) => ?_)
  refine go_iloadN C X0 5 rfl d15_4 rfl ?_
  refine go_iloadN C X0 6 rfl d15_5 rfl ?_
  refine go_icmp_lt C X0 d15_6 (pc' := 9) (pc2 := 16) rfl (by decide) (by decide) (fun (c6 : 5 < 6) => ?_) (fun (c6 : 6 ≤ 5) => False.elim (by first | omega | exact absurd c6 (by decide)))
  refine go_iloadN C X0 17 rfl d15_16 rfl ?_
  exact go_retI C X0 d15_17 ⟨rfl, rfl⟩ (by decide) (by decide)
theorem ef_own_sc_33 (m : MethodId)   : entryFrame m #[(.int (5 : Int32)), (.int (6 : Int32))] 2 = mkF m 0 #[iv (5 : Int32), iv (6 : Int32)] [] := by
  first | (simp [entryFrame, mkF, argsToLocals, Value.category]; done) | rfl
set_option maxRecDepth 65536 in
set_option maxHeartbeats 40000000 in
theorem own_sc_33 (l : Launch) (Z : State) (a0 : Array Value) (hw : ∀ d ∈ tables_1, d.before a0 Z = true)  (cs : Int32) (fv : Value) (h : Heap) (n0 : Nat) (hn0 : Old Z n0 h) (hcs : ¬ cs = 0) (S1 : Sta Z Z.heap "java/lang/String" "COMPACT_STRINGS" "Z" (.int cs)) (hfv : fv.isRef = true) (S2 : Sta Z Z.heap "jdk/internal/util/Preconditions" "SIOOBE_FORMATTER" "Ljava/util/function/BiFunction;" fv) :
    Con l Z (⟨"java/lang/String", "checkIndex", "(II)V"⟩ : MethodName) jdk_42_method_155_code 2 none ({ frames := 1, cells := 0, slots := 0, locals := 14 } : Room) #[(.int (5 : Int32)), (.int (6 : Int32))] h n0 (fun v h' => v = none ∧ h = h') := by
  refine con_of hw (plainFor_of_name pn_java_lang_String) hn0 ?_
  intro p e s m below meth c T0 C X0
  refine Go.cast (congrArg T0.setTop (ef_own_sc_33 m )) ?_
  refine go_iloadN C X0 1 rfl d14_0 rfl ?_
  refine go_iloadN C X0 2 rfl d14_1 rfl ?_
  refine go_getS C X0 (C.w 71 rfl) (S2.ext X0.old.2) (pc' := 5) rfl d14_2 (fun T1 X2 => ?_)
  refine go_callS C X2 (C.w 73 rfl) (C.w 74 rfl) (C.w 72 rfl) (C.w 75 rfl) (own_pc_34 l Z a0 C.ws fv h n0 X2.old hfv) (argsL := [(.int (5 : Int32)), (.int (6 : Int32)), fv]) (rest := []) (lenOf pd_1 rfl) rfl (by decide) (by decide) (Nat.le_of_ble_eq_true rfl) (by decide) (by decide) rfl rfl (pc' := 8) rfl d14_5 ?_
  rintro T3 _ _ ⟨rfl, rfl⟩ X4
  show Go p e below _ (T3.setTop (mkF m 8 #[iv (5 : Int32), iv (6 : Int32)] [(.int (5 : Int32))]))
  refine go_pop C X4 9 rfl d14_8 rfl ?_
  exact go_ret0 C X4 d14_9 ⟨rfl, rfl⟩ (by decide) (by decide)
theorem ef_own_lc_32 (m : MethodId) (sb : Addr)  : entryFrame m #[(.ref sb), (.int (5 : Int32))] 2 = mkF m 0 #[rv sb, iv (5 : Int32)] [] := by
  first | (simp [entryFrame, mkF, argsToLocals, Value.category]; done) | rfl
set_option maxRecDepth 65536 in
set_option maxHeartbeats 40000000 in
theorem own_lc_32 (l : Launch) (Z : State) (a0 : Array Value) (hw : ∀ d ∈ tables_1, d.before a0 Z = true) (sb : Addr) (cs : Int32) (fv : Value) (h : Heap) (n0 : Nat) (hn0 : Old Z n0 h) (AS : La Z h sb .byte [(.int (45 : Int32)), (.int (45 : Int32)), (.int (104 : Int32)), (.int (101 : Int32)), (.int (108 : Int32)), (.int (112 : Int32))]) (hcs : ¬ cs = 0) (S1 : Sta Z Z.heap "java/lang/String" "COMPACT_STRINGS" "Z" (.int cs)) (hfv : fv.isRef = true) (S2 : Sta Z Z.heap "jdk/internal/util/Preconditions" "SIOOBE_FORMATTER" "Ljava/util/function/BiFunction;" fv) :
    Con l Z (⟨"java/lang/StringLatin1", "charAt", "([BI)C"⟩ : MethodName) jdk_43_method_2_code 2 (some .char) ({ frames := 2, cells := 0, slots := 0, locals := 27 } : Room) #[(.ref sb), (.int (5 : Int32))] h n0 (fun v h' => v = some (.int (112 : Int32)) ∧ h = h') := by
  refine con_of hw (plainFor_of_name pn_java_lang_StringLatin1) hn0 ?_
  intro p e s m below meth c T0 C X0
  refine Go.cast (congrArg T0.setTop (ef_own_lc_32 m sb)) ?_
  refine go_iloadN C X0 1 rfl d13_0 rfl ?_
  refine go_aloadN C X0 2 rfl d13_1 rfl rfl ?_
  refine go_alen C X0 AS (z := (6 : Int32)) rfl (pc' := 3) rfl d13_2 ?_
  refine go_callS C X0 (C.w 68 rfl) (C.w 69 rfl) (C.w 3 rfl) (C.w 70 rfl) (own_sc_33 l Z a0 C.ws cs fv h n0 X0.old hcs S1 hfv S2) (argsL := [(.int (5 : Int32)), (.int (6 : Int32))]) (rest := []) (lenOf pd_2 rfl) rfl (by decide) (by decide) (Nat.le_of_ble_eq_true rfl) (by decide) (by decide) rfl rfl (pc' := 6) rfl d13_3 ?_
  rintro T1 _ _ ⟨rfl, rfl⟩ X2
  show Go p e below _ (T1.setTop (mkF m 6 #[rv sb, iv (5 : Int32)] []))
  refine go_aloadN C X2 7 rfl d13_6 rfl rfl ?_
  refine go_iloadN C X2 8 rfl d13_7 rfl ?_
  refine go_baloadBytes C X2 AS (by decide) (v := (.int (112 : Int32))) rfl (pc' := 9) rfl d13_8 ?_
  refine go_sipush C X2 12 rfl d13_9 (z := 255) rfl ?_
  refine go_iandL C X2 13 rfl d13_12 (z := (112)) rfl ?_
  refine go_i2c C X2 14 rfl d13_13 ?_
  show Go p e below _ (T1.setTop (mkF m 14 #[rv sb, iv (5 : Int32)] [(.int (112 : Int32))]))
  exact go_retN C X2 (by simp) (z' := 112) rfl d13_14 ⟨rfl, rfl⟩ (by decide) (by decide)
theorem ef_own_s11_31 (m : MethodId) (sa : Addr)  : entryFrame m #[(.ref sa), (.int (5 : Int32))] 2 = mkF m 0 #[rv sa, iv (5 : Int32)] [] := by
  first | (simp [entryFrame, mkF, argsToLocals, Value.category]; done) | rfl
set_option maxRecDepth 65536 in
set_option maxHeartbeats 40000000 in
theorem own_s11_31 (l : Launch) (Z : State) (a0 : Array Value) (hw : ∀ d ∈ tables_1, d.before a0 Z = true) (sa : Addr) (sb : Addr) (cs : Int32) (fv : Value) (h : Heap) (n0 : Nat) (hn0 : Old Z n0 h) (ES : Exa Z h sa "java/lang/String") (G1 : Fld Z h sa "java/lang/String" "coder" "B" (.int 0)) (G2 : Fld Z h sa "java/lang/String" "value" "[B" (.ref sb)) (AS : La Z h sb .byte [(.int (45 : Int32)), (.int (45 : Int32)), (.int (104 : Int32)), (.int (101 : Int32)), (.int (108 : Int32)), (.int (112 : Int32))]) (hcs : ¬ cs = 0) (S1 : Sta Z Z.heap "java/lang/String" "COMPACT_STRINGS" "Z" (.int cs)) (hfv : fv.isRef = true) (S2 : Sta Z Z.heap "jdk/internal/util/Preconditions" "SIOOBE_FORMATTER" "Ljava/util/function/BiFunction;" fv) :
    Con l Z (⟨"java/lang/String", "charAt", "(I)C"⟩ : MethodName) jdk_42_method_56_code 2 (some .char) ({ frames := 3, cells := 0, slots := 0, locals := 40 } : Room) #[(.ref sa), (.int (5 : Int32))] h n0 (fun v h' => v = some (.int (112 : Int32)) ∧ h = h') := by
  refine con_of hw (plainFor_of_name pn_java_lang_String) hn0 ?_
  intro p e s m below meth c T0 C X0
  refine Go.cast (congrArg T0.setTop (ef_own_s11_31 m sa)) ?_
  refine go_aloadN C X0 1 rfl d11_0 rfl rfl ?_
  refine go_virtual C X0 ES (C.w 60 rfl) (C.w 61 rfl) (notFace_of_selects (args := #[]) (mvT C.hZ (C.w 63 rfl))) (C.w 63 rfl) (C.w 62 rfl) (C.w 3 rfl) (C.w 64 rfl) (own_s12_7 l Z a0 C.ws sa sb cs fv h n0 X0.old ES G1 G2 AS hcs S1 hfv S2) (argsL := []) (rest := []) (lenOf pd_0 rfl) rfl (by decide) (by decide) (Nat.le_of_ble_eq_true rfl) (by decide) (by decide) rfl rfl (pc' := 4) rfl d11_1 ?_
  rintro T1 _ _ ⟨rfl, rfl⟩ X2
  show Go p e below _ (T1.setTop (mkF m 4 #[rv sa, iv (5 : Int32)] [(.int (1 : Int32))]))
  refine go_if_eq C X2 d11_4 (pc' := 7) (pc2 := 16) rfl (by decide) (by decide) (fun (c4 : (1 : Int32) = (0 : Int32)) => False.elim (by first | omega | exact absurd c4 (by decide))) (fun (c4 : ¬ (1 : Int32) = (0 : Int32)) => ?_)
  refine go_aloadN C X2 8 rfl d11_7 rfl rfl ?_
  refine go_getF C X2 (C.w 20 rfl) Via.refl G2 (pc' := 11) rfl d11_8 (fun T4 X5 => ?_)
  refine go_iloadN C X5 12 rfl d11_11 rfl ?_
  refine go_callS C X5 (C.w 65 rfl) (C.w 66 rfl) (C.w 36 rfl) (C.w 67 rfl) (own_lc_32 l Z a0 C.ws sb cs fv h n0 X5.old AS hcs S1 hfv S2) (argsL := [(.ref sb), (.int (5 : Int32))]) (rest := []) (lenOf pd_3 rfl) rfl (by decide) (by decide) (Nat.le_of_ble_eq_true rfl) (by decide) (by decide) rfl rfl (pc' := 15) rfl d11_12 ?_
  rintro T6 _ _ ⟨rfl, rfl⟩ X7
  show Go p e below _ (T6.setTop (mkF m 15 #[rv sa, iv (5 : Int32)] [(.int (112 : Int32))]))
  exact go_retN C X7 (by simp) (z' := 112) rfl d11_15 ⟨rfl, rfl⟩ (by decide) (by decide)
theorem ef_own_pick_5 (m : MethodId) (kd : Int32) (raw : Int64) (pp : Int32) (ch : Int32)  : entryFrame m #[(.int (5 : Int32)), (.int kd), (.long raw), (.int pp), (.int ch)] 7 = mkF m 0 #[iv (5 : Int32), iv kd, jv raw, sc, iv pp, iv ch, un] [] := by
  first | (simp [entryFrame, mkF, argsToLocals, Value.category]; done) | rfl
set_option maxRecDepth 65536 in
set_option maxHeartbeats 40000000 in
theorem own_pick_5 (l : Launch) (Z : State) (a0 : Array Value) (hw : ∀ d ∈ tables_1, d.before a0 Z = true) (kd : Int32) (raw : Int64) (pp : Int32) (ch : Int32) (cs : Int32) (fv : Value) (h : Heap) (n0 : Nat) (hn0 : Old Z n0 h) (hEL : EW Z a0 consts_1) (hcs : ¬ cs = 0) (S1 : Sta Z Z.heap "java/lang/String" "COMPACT_STRINGS" "Z" (.int cs)) (hfv : fv.isRef = true) (S2 : Sta Z Z.heap "jdk/internal/util/Preconditions" "SIOOBE_FORMATTER" "Ljava/util/function/BiFunction;" fv) :
    ConW l Z consts_1 (⟨"com/example/bundlewalk/bundlewalk/OptionsIsHelpPinLaw", "pick", "(IIJII)C"⟩ : MethodName) method_3_code 7 (some .char) ({ frames := 4, cells := 2, slots := 28, locals := 53 } : Room) #[(.int (5 : Int32)), (.int kd), (.long raw), (.int pp), (.int ch)] h n0 (fun v h' => ∃ cq : Int32, v = some (.int cq) ∧ (0 ≤ cq.toInt ∧ cq.toInt ≤ 255) ∧ Keep h h' []) := by
  refine conW_of hw (plainFor_of_name pn_com_example_bundlewalk_bundlewalk_OptionsIsHelpPinLaw) hn0 ?_
  intro p e sv0 s m below meth c T0 C WI0 X0
  refine Go.cast (congrArg T0.setTop (ef_own_pick_5 m kd raw pp ch)) ?_
  refine go_lloadN C X0 1 rfl d7_0 rfl ?_
  refine go_bipush C X0 3 rfl d7_1 (z := 8) rfl ?_
  refine go_iloadN C X0 4 rfl d7_3 rfl ?_
  refine go_imulL C X0 5 rfl d7_4 (z := (40)) rfl ?_
  refine go_lushr C X0 6 rfl d7_5 ?_
  refine go_ldc2Long C X0 (C.w 43 rfl) (pc' := 9) rfl d7_6 ?_
  refine go_land C X0 10 rfl d7_9 ?_
  refine go_l2i C X0 11 rfl d7_10 ?_
  refine go_i2c C X0 12 rfl d7_11 ?_
  refine go_istore C X0 14 rfl d7_12 #[iv (5 : Int32), iv kd, jv raw, sc, iv pp, iv ch, iv (((((raw.toUInt64 >>> ((40 : Int32) &&& 0x3f).toInt64.toUInt64).toInt64) &&& (255 : Int64)).toInt32).toUInt32.toUInt16.toUInt32.toInt32)] rfl ?_
  refine go_iloadN C X0 15 rfl d7_14 rfl ?_
  refine go_iconst C X0 16 rfl d7_15 (z := 1) rfl ?_
  refine go_icmp_ne C X0 d7_16 (pc' := 19) (pc2 := 33) rfl (by decide) (by decide) (fun (c16 : ¬ kd = (1 : Int32)) => ?_) (fun (c16 : kd = (1 : Int32)) => ?_)
  · refine go_iloadN C X0 34 rfl d7_33 rfl ?_
    refine go_iconst C X0 35 rfl d7_34 (z := 2) rfl ?_
    refine go_icmp_ne C X0 d7_35 (pc' := 38) (pc2 := 51) rfl (by decide) (by decide) (fun (c35 : ¬ kd = (2 : Int32)) => ?_) (fun (c35 : kd = (2 : Int32)) => ?_)
    · refine go_iload C X0 53 rfl d7_51 rfl ?_
      refine go_iloadN C X0 54 rfl d7_53 rfl ?_
      refine go_icmp_ne C X0 d7_54 (pc' := 57) (pc2 := 66) rfl (by decide) (by decide) (fun (c54 : ¬ pp = (5 : Int32)) => ?_) (fun (c54 : pp = (5 : Int32)) => ?_)
      · refine go_iload C X0 68 rfl d7_66 rfl ?_
        exact go_retNW C X0 WI0 hEL (by simp) rfl d7_68 ⟨_, rfl, own_nar255 (own_pb1 _).1 (own_pb1 _).2, (Keep.refl h [])⟩ (by decide) (by decide)
      · refine go_iload C X0 59 rfl d7_57 rfl ?_
        refine go_sipush C X0 62 rfl d7_59 (z := 255) rfl ?_
        refine go_iand C X0 63 rfl d7_62 ?_
        refine go_i2c C X0 64 rfl d7_63 ?_
        refine go_istore C X0 66 rfl d7_64 #[iv (5 : Int32), iv kd, jv raw, sc, iv pp, iv ch, iv ((ch &&& (255 : Int32)).toUInt32.toUInt16.toUInt32.toInt32)] rfl ?_
        refine go_iload C X0 68 rfl d7_66 rfl ?_
        exact go_retNW C X0 WI0 hEL (by simp) rfl d7_68 ⟨_, rfl, own_nar255 (own_pb2 _).1 (own_pb2 _).2, (Keep.refl h [])⟩ (by decide) (by decide)
    · refine go_iloadN C X0 39 rfl d7_38 rfl ?_
      refine go_iconst C X0 40 rfl d7_39 (z := 2) rfl ?_
      refine go_icmp_ge C X0 d7_40 (pc' := 43) (pc2 := 51) rfl (by decide) (by decide) (fun (c40 : 2 ≤ 5) => ?_) (fun (c40 : 5 < 2) => False.elim (by first | omega | exact absurd c40 (by decide)))
      refine go_iload C X0 53 rfl d7_51 rfl ?_
      refine go_iloadN C X0 54 rfl d7_53 rfl ?_
      refine go_icmp_ne C X0 d7_54 (pc' := 57) (pc2 := 66) rfl (by decide) (by decide) (fun (c54 : ¬ pp = (5 : Int32)) => ?_) (fun (c54 : pp = (5 : Int32)) => ?_)
      · refine go_iload C X0 68 rfl d7_66 rfl ?_
        exact go_retNW C X0 WI0 hEL (by simp) rfl d7_68 ⟨_, rfl, own_nar255 (own_pb1 _).1 (own_pb1 _).2, (Keep.refl h [])⟩ (by decide) (by decide)
      · refine go_iload C X0 59 rfl d7_57 rfl ?_
        refine go_sipush C X0 62 rfl d7_59 (z := 255) rfl ?_
        refine go_iand C X0 63 rfl d7_62 ?_
        refine go_i2c C X0 64 rfl d7_63 ?_
        refine go_istore C X0 66 rfl d7_64 #[iv (5 : Int32), iv kd, jv raw, sc, iv pp, iv ch, iv ((ch &&& (255 : Int32)).toUInt32.toUInt16.toUInt32.toInt32)] rfl ?_
        refine go_iload C X0 68 rfl d7_66 rfl ?_
        exact go_retNW C X0 WI0 hEL (by simp) rfl d7_68 ⟨_, rfl, own_nar255 (own_pb2 _).1 (own_pb2 _).2, (Keep.refl h [])⟩ (by decide) (by decide)
  · refine go_iloadN C X0 20 rfl d7_19 rfl ?_
    refine go_bipush C X0 22 rfl d7_20 (z := 6) rfl ?_
    refine go_icmp_ge C X0 d7_22 (pc' := 25) (pc2 := 33) rfl (by decide) (by decide) (fun (c22 : 6 ≤ 5) => False.elim (by first | omega | exact absurd c22 (by decide))) (fun (c22 : 5 < 6) => ?_)
    refine go_ldcH C X0 WI0 hEL (C.w 76 rfl) (own_wS C.ws) (List.mem_of_getElem? (i := 2) rfl) (vs := [(.int (45 : Int32)), (.int (45 : Int32)), (.int (104 : Int32)), (.int (101 : Int32)), (.int (108 : Int32)), (.int (112 : Int32))]) (z := 6) (own_lit26) (by decide) (by decide) (q := 24) own_len26 (by decide) (by decide) (by decide) (pc' := 27) rfl d7_25 ?_
    intro s T1 h3 la lb C WI10 E4 E5 F6 F7 A8 SF9 SFT11 X2
    have K12 := (Keep.refl h []).ext E4
    refine go_iloadN C X2 28 rfl d7_27 rfl ?_
    refine go_virtual C X2 E5 (C.w 55 rfl) (C.w 56 rfl) (notFace_of_selects (args := #[]) (mvT C.hZ (C.w 58 rfl))) (C.w 58 rfl) (C.w 57 rfl) (C.w 3 rfl) (C.w 59 rfl) (own_s11_31 l Z a0 C.ws la lb cs fv h3 n0 X2.old E5 F6 F7 A8 hcs S1 hfv S2) (argsL := [(.int (5 : Int32))]) (rest := []) (lenOf pd_4 rfl) rfl (by decide) (by decide) (Nat.le_of_ble_eq_true rfl) (by decide) (by decide) rfl rfl (pc' := 31) rfl d7_28 ?_
    rintro T13 _ _ ⟨rfl, rfl⟩ X14
    show Go p e below _ (T13.setTop (mkF m 31 #[iv (5 : Int32), iv kd, jv raw, sc, iv pp, iv ch, iv (((((raw.toUInt64 >>> ((40 : Int32) &&& 0x3f).toInt64.toUInt64).toInt64) &&& (255 : Int64)).toInt32).toUInt32.toUInt16.toUInt32.toInt32)] [(.int (112 : Int32))]))
    refine go_istore C X14 33 rfl d7_31 #[iv (5 : Int32), iv kd, jv raw, sc, iv pp, iv ch, iv (112 : Int32)] rfl ?_
    refine go_iloadN C X14 34 rfl d7_33 rfl ?_
    refine go_iconst C X14 35 rfl d7_34 (z := 2) rfl ?_
    refine go_icmp_ne C X14 d7_35 (pc' := 38) (pc2 := 51) rfl (by decide) (by decide) (fun (c35 : ¬ kd = (2 : Int32)) => ?_) (fun (c35 : kd = (2 : Int32)) => False.elim (by rw [c16] at c35; exact absurd c35 (by decide)))
    refine go_iload C X14 53 rfl d7_51 rfl ?_
    refine go_iloadN C X14 54 rfl d7_53 rfl ?_
    refine go_icmp_ne C X14 d7_54 (pc' := 57) (pc2 := 66) rfl (by decide) (by decide) (fun (c54 : ¬ pp = (5 : Int32)) => ?_) (fun (c54 : pp = (5 : Int32)) => ?_)
    · refine go_iload C X14 68 rfl d7_66 rfl ?_
      exact go_retNW C X14 WI10 hEL (by simp) (z' := 112) rfl d7_68 ⟨_, rfl, ⟨by decide, by decide⟩, K12⟩ (by decide) (by decide)
    · refine go_iload C X14 59 rfl d7_57 rfl ?_
      refine go_sipush C X14 62 rfl d7_59 (z := 255) rfl ?_
      refine go_iand C X14 63 rfl d7_62 ?_
      refine go_i2c C X14 64 rfl d7_63 ?_
      refine go_istore C X14 66 rfl d7_64 #[iv (5 : Int32), iv kd, jv raw, sc, iv pp, iv ch, iv ((ch &&& (255 : Int32)).toUInt32.toUInt16.toUInt32.toInt32)] rfl ?_
      refine go_iload C X14 68 rfl d7_66 rfl ?_
      exact go_retNW C X14 WI10 hEL (by simp) rfl d7_68 ⟨_, rfl, own_nar255 (own_pb2 _).1 (own_pb2 _).2, K12⟩ (by decide) (by decide)
theorem ef_own_pick_6 (m : MethodId) (kd : Int32) (raw : Int64) (pp : Int32) (ch : Int32)  : entryFrame m #[(.int (6 : Int32)), (.int kd), (.long raw), (.int pp), (.int ch)] 7 = mkF m 0 #[iv (6 : Int32), iv kd, jv raw, sc, iv pp, iv ch, un] [] := by
  first | (simp [entryFrame, mkF, argsToLocals, Value.category]; done) | rfl
set_option maxRecDepth 65536 in
set_option maxHeartbeats 40000000 in
theorem own_pick_6 (l : Launch) (Z : State) (a0 : Array Value) (hw : ∀ d ∈ tables_1, d.before a0 Z = true) (kd : Int32) (raw : Int64) (pp : Int32) (ch : Int32) (cs : Int32) (fv : Value) (h : Heap) (n0 : Nat) (hn0 : Old Z n0 h) (hEL : EW Z a0 consts_1) (hcs : ¬ cs = 0) (S1 : Sta Z Z.heap "java/lang/String" "COMPACT_STRINGS" "Z" (.int cs)) (hfv : fv.isRef = true) (S2 : Sta Z Z.heap "jdk/internal/util/Preconditions" "SIOOBE_FORMATTER" "Ljava/util/function/BiFunction;" fv) :
    ConW l Z consts_1 (⟨"com/example/bundlewalk/bundlewalk/OptionsIsHelpPinLaw", "pick", "(IIJII)C"⟩ : MethodName) method_3_code 7 (some .char) ({ frames := 0, cells := 0, slots := 0, locals := 0 } : Room) #[(.int (6 : Int32)), (.int kd), (.long raw), (.int pp), (.int ch)] h n0 (fun v h' => ∃ cq : Int32, v = some (.int cq) ∧ (0 ≤ cq.toInt ∧ cq.toInt ≤ 255) ∧ Keep h h' []) := by
  refine conW_of hw (plainFor_of_name pn_com_example_bundlewalk_bundlewalk_OptionsIsHelpPinLaw) hn0 ?_
  intro p e sv0 s m below meth c T0 C WI0 X0
  refine Go.cast (congrArg T0.setTop (ef_own_pick_6 m kd raw pp ch)) ?_
  refine go_lloadN C X0 1 rfl d7_0 rfl ?_
  refine go_bipush C X0 3 rfl d7_1 (z := 8) rfl ?_
  refine go_iloadN C X0 4 rfl d7_3 rfl ?_
  refine go_imulL C X0 5 rfl d7_4 (z := (48)) rfl ?_
  refine go_lushr C X0 6 rfl d7_5 ?_
  refine go_ldc2Long C X0 (C.w 43 rfl) (pc' := 9) rfl d7_6 ?_
  refine go_land C X0 10 rfl d7_9 ?_
  refine go_l2i C X0 11 rfl d7_10 ?_
  refine go_i2c C X0 12 rfl d7_11 ?_
  refine go_istore C X0 14 rfl d7_12 #[iv (6 : Int32), iv kd, jv raw, sc, iv pp, iv ch, iv (((((raw.toUInt64 >>> ((48 : Int32) &&& 0x3f).toInt64.toUInt64).toInt64) &&& (255 : Int64)).toInt32).toUInt32.toUInt16.toUInt32.toInt32)] rfl ?_
  refine go_iloadN C X0 15 rfl d7_14 rfl ?_
  refine go_iconst C X0 16 rfl d7_15 (z := 1) rfl ?_
  refine go_icmp_ne C X0 d7_16 (pc' := 19) (pc2 := 33) rfl (by decide) (by decide) (fun (c16 : ¬ kd = (1 : Int32)) => ?_) (fun (c16 : kd = (1 : Int32)) => ?_)
  · refine go_iloadN C X0 34 rfl d7_33 rfl ?_
    refine go_iconst C X0 35 rfl d7_34 (z := 2) rfl ?_
    refine go_icmp_ne C X0 d7_35 (pc' := 38) (pc2 := 51) rfl (by decide) (by decide) (fun (c35 : ¬ kd = (2 : Int32)) => ?_) (fun (c35 : kd = (2 : Int32)) => ?_)
    · refine go_iload C X0 53 rfl d7_51 rfl ?_
      refine go_iloadN C X0 54 rfl d7_53 rfl ?_
      refine go_icmp_ne C X0 d7_54 (pc' := 57) (pc2 := 66) rfl (by decide) (by decide) (fun (c54 : ¬ pp = (6 : Int32)) => ?_) (fun (c54 : pp = (6 : Int32)) => ?_)
      · refine go_iload C X0 68 rfl d7_66 rfl ?_
        exact go_retNW C X0 WI0 hEL (by simp) rfl d7_68 ⟨_, rfl, own_nar255 (own_pb1 _).1 (own_pb1 _).2, (Keep.refl h [])⟩ (by decide) (by decide)
      · refine go_iload C X0 59 rfl d7_57 rfl ?_
        refine go_sipush C X0 62 rfl d7_59 (z := 255) rfl ?_
        refine go_iand C X0 63 rfl d7_62 ?_
        refine go_i2c C X0 64 rfl d7_63 ?_
        refine go_istore C X0 66 rfl d7_64 #[iv (6 : Int32), iv kd, jv raw, sc, iv pp, iv ch, iv ((ch &&& (255 : Int32)).toUInt32.toUInt16.toUInt32.toInt32)] rfl ?_
        refine go_iload C X0 68 rfl d7_66 rfl ?_
        exact go_retNW C X0 WI0 hEL (by simp) rfl d7_68 ⟨_, rfl, own_nar255 (own_pb2 _).1 (own_pb2 _).2, (Keep.refl h [])⟩ (by decide) (by decide)
    · refine go_iloadN C X0 39 rfl d7_38 rfl ?_
      refine go_iconst C X0 40 rfl d7_39 (z := 2) rfl ?_
      refine go_icmp_ge C X0 d7_40 (pc' := 43) (pc2 := 51) rfl (by decide) (by decide) (fun (c40 : 2 ≤ 6) => ?_) (fun (c40 : 6 < 2) => False.elim (by first | omega | exact absurd c40 (by decide)))
      refine go_iload C X0 53 rfl d7_51 rfl ?_
      refine go_iloadN C X0 54 rfl d7_53 rfl ?_
      refine go_icmp_ne C X0 d7_54 (pc' := 57) (pc2 := 66) rfl (by decide) (by decide) (fun (c54 : ¬ pp = (6 : Int32)) => ?_) (fun (c54 : pp = (6 : Int32)) => ?_)
      · refine go_iload C X0 68 rfl d7_66 rfl ?_
        exact go_retNW C X0 WI0 hEL (by simp) rfl d7_68 ⟨_, rfl, own_nar255 (own_pb1 _).1 (own_pb1 _).2, (Keep.refl h [])⟩ (by decide) (by decide)
      · refine go_iload C X0 59 rfl d7_57 rfl ?_
        refine go_sipush C X0 62 rfl d7_59 (z := 255) rfl ?_
        refine go_iand C X0 63 rfl d7_62 ?_
        refine go_i2c C X0 64 rfl d7_63 ?_
        refine go_istore C X0 66 rfl d7_64 #[iv (6 : Int32), iv kd, jv raw, sc, iv pp, iv ch, iv ((ch &&& (255 : Int32)).toUInt32.toUInt16.toUInt32.toInt32)] rfl ?_
        refine go_iload C X0 68 rfl d7_66 rfl ?_
        exact go_retNW C X0 WI0 hEL (by simp) rfl d7_68 ⟨_, rfl, own_nar255 (own_pb2 _).1 (own_pb2 _).2, (Keep.refl h [])⟩ (by decide) (by decide)
  · refine go_iloadN C X0 20 rfl d7_19 rfl ?_
    refine go_bipush C X0 22 rfl d7_20 (z := 6) rfl ?_
    refine go_icmp_ge C X0 d7_22 (pc' := 25) (pc2 := 33) rfl (by decide) (by decide) (fun (c22 : 6 ≤ 6) => ?_) (fun (c22 : 6 < 6) => False.elim (by first | omega | exact absurd c22 (by decide)))
    refine go_iloadN C X0 34 rfl d7_33 rfl ?_
    refine go_iconst C X0 35 rfl d7_34 (z := 2) rfl ?_
    refine go_icmp_ne C X0 d7_35 (pc' := 38) (pc2 := 51) rfl (by decide) (by decide) (fun (c35 : ¬ kd = (2 : Int32)) => ?_) (fun (c35 : kd = (2 : Int32)) => ?_)
    · refine go_iload C X0 53 rfl d7_51 rfl ?_
      refine go_iloadN C X0 54 rfl d7_53 rfl ?_
      refine go_icmp_ne C X0 d7_54 (pc' := 57) (pc2 := 66) rfl (by decide) (by decide) (fun (c54 : ¬ pp = (6 : Int32)) => ?_) (fun (c54 : pp = (6 : Int32)) => ?_)
      · refine go_iload C X0 68 rfl d7_66 rfl ?_
        exact go_retNW C X0 WI0 hEL (by simp) rfl d7_68 ⟨_, rfl, own_nar255 (own_pb1 _).1 (own_pb1 _).2, (Keep.refl h [])⟩ (by decide) (by decide)
      · refine go_iload C X0 59 rfl d7_57 rfl ?_
        refine go_sipush C X0 62 rfl d7_59 (z := 255) rfl ?_
        refine go_iand C X0 63 rfl d7_62 ?_
        refine go_i2c C X0 64 rfl d7_63 ?_
        refine go_istore C X0 66 rfl d7_64 #[iv (6 : Int32), iv kd, jv raw, sc, iv pp, iv ch, iv ((ch &&& (255 : Int32)).toUInt32.toUInt16.toUInt32.toInt32)] rfl ?_
        refine go_iload C X0 68 rfl d7_66 rfl ?_
        exact go_retNW C X0 WI0 hEL (by simp) rfl d7_68 ⟨_, rfl, own_nar255 (own_pb2 _).1 (own_pb2 _).2, (Keep.refl h [])⟩ (by decide) (by decide)
    · refine go_iloadN C X0 39 rfl d7_38 rfl ?_
      refine go_iconst C X0 40 rfl d7_39 (z := 2) rfl ?_
      refine go_icmp_ge C X0 d7_40 (pc' := 43) (pc2 := 51) rfl (by decide) (by decide) (fun (c40 : 2 ≤ 6) => ?_) (fun (c40 : 6 < 2) => False.elim (by first | omega | exact absurd c40 (by decide)))
      refine go_iload C X0 53 rfl d7_51 rfl ?_
      refine go_iloadN C X0 54 rfl d7_53 rfl ?_
      refine go_icmp_ne C X0 d7_54 (pc' := 57) (pc2 := 66) rfl (by decide) (by decide) (fun (c54 : ¬ pp = (6 : Int32)) => ?_) (fun (c54 : pp = (6 : Int32)) => ?_)
      · refine go_iload C X0 68 rfl d7_66 rfl ?_
        exact go_retNW C X0 WI0 hEL (by simp) rfl d7_68 ⟨_, rfl, own_nar255 (own_pb1 _).1 (own_pb1 _).2, (Keep.refl h [])⟩ (by decide) (by decide)
      · refine go_iload C X0 59 rfl d7_57 rfl ?_
        refine go_sipush C X0 62 rfl d7_59 (z := 255) rfl ?_
        refine go_iand C X0 63 rfl d7_62 ?_
        refine go_i2c C X0 64 rfl d7_63 ?_
        refine go_istore C X0 66 rfl d7_64 #[iv (6 : Int32), iv kd, jv raw, sc, iv pp, iv ch, iv ((ch &&& (255 : Int32)).toUInt32.toUInt16.toUInt32.toInt32)] rfl ?_
        refine go_iload C X0 68 rfl d7_66 rfl ?_
        exact go_retNW C X0 WI0 hEL (by simp) rfl d7_68 ⟨_, rfl, own_nar255 (own_pb2 _).1 (own_pb2 _).2, (Keep.refl h [])⟩ (by decide) (by decide)
theorem own_z0 : (0 : Int32).toNatClampNeg = 0 := by decide
theorem d9_0 : decode jdk_52_method_21_code 0 = .ok (.iconst 0, 1) := by decide +kernel
theorem d9_1 : decode jdk_52_method_21_code 1 = .ok (.istore 5, 2) := by decide +kernel
theorem d9_3 : decode jdk_52_method_21_code 3 = .ok (.iload 5, 2) := by decide +kernel
theorem d9_5 : decode jdk_52_method_21_code 5 = .ok (.iload 4, 2) := by decide +kernel
theorem d9_7 : decode jdk_52_method_21_code 7 = .ok (.if_icmp .ge 37, 3) := by decide +kernel
theorem d9_44 : decode jdk_52_method_21_code 44 = .ok (.iload 4, 2) := by decide +kernel
theorem d9_46 : decode jdk_52_method_21_code 46 = .ok (.ireturn, 1) := by decide +kernel
theorem d9_10 : decode jdk_52_method_21_code 10 = .ok (.aload_n 0, 1) := by decide +kernel
theorem d9_11 : decode jdk_52_method_21_code 11 = .ok (.iload_n 1, 1) := by decide +kernel
theorem d9_12 : decode jdk_52_method_21_code 12 = .ok (.caload, 1) := by decide +kernel
theorem d9_13 : decode jdk_52_method_21_code 13 = .ok (.istore 6, 2) := by decide +kernel
theorem d9_15 : decode jdk_52_method_21_code 15 = .ok (.iload 6, 2) := by decide +kernel
theorem d9_17 : decode jdk_52_method_21_code 17 = .ok (.sipush 255, 3) := by decide +kernel
theorem d9_20 : decode jdk_52_method_21_code 20 = .ok (.if_icmp .le 6, 3) := by decide +kernel
theorem d9_26 : decode jdk_52_method_21_code 26 = .ok (.aload_n 2, 1) := by decide +kernel
theorem d9_27 : decode jdk_52_method_21_code 27 = .ok (.iload_n 3, 1) := by decide +kernel
theorem d9_28 : decode jdk_52_method_21_code 28 = .ok (.iload 6, 2) := by decide +kernel
theorem d9_30 : decode jdk_52_method_21_code 30 = .ok (.i2b, 1) := by decide +kernel
theorem d9_31 : decode jdk_52_method_21_code 31 = .ok (.bastore, 1) := by decide +kernel
theorem d9_32 : decode jdk_52_method_21_code 32 = .ok (.iinc 1 1, 3) := by decide +kernel
theorem d9_35 : decode jdk_52_method_21_code 35 = .ok (.iinc 3 1, 3) := by decide +kernel
theorem d9_38 : decode jdk_52_method_21_code 38 = .ok (.iinc 5 1, 3) := by decide +kernel
theorem d9_41 : decode jdk_52_method_21_code 41 = .ok (.goto (-38), 3) := by decide +kernel
theorem pn_java_lang_StringUTF16 : plainName "java/lang/StringUTF16" = true := by first | (simp [plainName, overriddenIn]; done) | decide +kernel
theorem ef_own_cmp (m : MethodId) (cb : Addr) (db : Addr) (n : Int32)  : entryFrame m #[(.ref cb), (.int (0 : Int32)), (.ref db), (.int (0 : Int32)), (.int n)] 7 = mkF m 0 #[rv cb, iv (0 : Int32), rv db, iv (0 : Int32), iv n, un, un] [] := by
  first | (simp [entryFrame, mkF, argsToLocals, Value.category]; done) | rfl
set_option maxRecDepth 65536 in
set_option maxHeartbeats 40000000 in
theorem own_cmp (l : Launch) (Z : State) (a0 : Array Value) (hw : ∀ d ∈ tables_1, d.before a0 Z = true) (cb : Addr) (db : Addr) (n : Int32) (xs : List Int32) (h : Heap) (n0 : Nat) (hn0 : Old Z n0 h) (A1 : La Z h cb .char (ia xs)) (A2 : La Z h db .byte (ia (List.replicate xs.length 0))) (hx : own_ok n xs) (gb : n0 ≤ db) (ncd : cb ≠ db) :
    Con l Z (⟨"java/lang/StringUTF16", "compress", "([CI[BII)I"⟩ : MethodName) jdk_52_method_21_code 7 (some .int) ({ frames := 0, cells := 0, slots := 0, locals := 0 } : Room) #[(.ref cb), (.int (0 : Int32)), (.ref db), (.int (0 : Int32)), (.int n)] h n0 (fun v h' => v = some (.int n) ∧ Keep h h' [db] ∧ La Z h' db .byte (ia (xs.map own_b))) := by
  refine con_of hw (plainFor_of_name pn_java_lang_StringUTF16) hn0 ?_
  intro p e s m below meth c T0 C X0
  refine Go.cast (congrArg T0.setTop (ef_own_cmp m cb db n)) ?_
  have hl31 := A1.len
  rw [ia_len] at hl31
  have hxl : xs.length < 2147483648 := hl31
  refine go_iconst C X0 1 rfl d9_0 (z := 0) rfl ?_
  refine go_istore C X0 3 rfl d9_1 #[rv cb, iv (0 : Int32), rv db, iv (0 : Int32), iv n, iv (0 : Int32), un] rfl ?_
  have LP : ∀ (mm : Nat) (T1 : State) (h1 : Heap) (X1 : St Z p l e ({ frames := 0, cells := 0, slots := 0, locals := 0 } : Room) s m #[(.ref cb), (.int (0 : Int32)), (.ref db), (.int (0 : Int32)), (.int n)] below meth c n0 T1 h1 (0) (0)) (i : Int32) (sl : Slot) (_ : La Z h1 cb .char (ia xs)) (_ : La Z h1 db .byte (ia ((xs.map own_b).take i.toNatClampNeg ++ List.replicate (xs.length - i.toNatClampNeg) 0))) (_ : Keep h h1 [db]) (_ : 0 ≤ i.toInt ∧ i.toInt + mm = n.toInt) (_ : ∀ ci : Int32, storeLocals #[rv cb, iv i, rv db, iv i, iv n, iv i, sl] 6 (.int ci) = some #[rv cb, iv i, rv db, iv i, iv n, iv i, iv ci]), Go p e below (FinQ s ({ frames := 0, cells := 0, slots := 0, locals := 0 } : Room).cells ({ frames := 0, cells := 0, slots := 0, locals := 0 } : Room).slots n0 (fun v h' => v = some (.int n) ∧ Keep h h' [db] ∧ La Z h' db .byte (ia (xs.map own_b)))) (T1.setTop (mkF m 3 #[rv cb, iv i, rv db, iv i, iv n, iv i, sl] [])) := by
    intro mm
    induction mm with
    | zero =>
      intro T1 h1 X1 i sl A8 A9 K9 q9 hsl
      refine go_iload C X1 5 rfl d9_3 rfl ?_
      refine go_iload C X1 7 rfl d9_5 rfl ?_
      refine go_icmp_ge C X1 d9_7 (pc' := 10) (pc2 := 44) rfl (by decide) (by decide) (fun (c7 : n.toInt ≤ i.toInt) => ?_) (fun (c7 : i.toInt < n.toInt) => False.elim (by omega))
      refine go_iload C X1 46 rfl d9_44 rfl ?_
      exact go_retI C X1 d9_46 (by have e : i.toNatClampNeg = xs.length := (by have := clamp_eq (j := i) (by omega); have := hx.1; omega); have e2 : (xs.map own_b).take xs.length = xs.map own_b := List.take_of_length_le (by rw [List.length_map]; exact Nat.le_refl _); rw [e, Nat.sub_self, List.replicate_zero, List.append_nil, e2] at A9; exact ⟨rfl, K9, A9⟩) (by decide) (by decide)
    | succ mm ih =>
      intro T1 h1 X1 i sl A8 A9 K9 q9 hsl
      refine go_iload C X1 5 rfl d9_3 rfl ?_
      refine go_iload C X1 7 rfl d9_5 rfl ?_
      refine go_icmp_ge C X1 d9_7 (pc' := 10) (pc2 := 44) rfl (by decide) (by decide) (fun (c7 : n.toInt ≤ i.toInt) => False.elim (by omega)) (fun (c7 : i.toInt < n.toInt) => ?_)
      refine go_aloadN C X1 11 rfl d9_10 rfl rfl ?_
      refine go_iloadN C X1 12 rfl d9_11 rfl ?_
      have hc := own_at_ok hx q9.1 (by have := hx.1; omega)
      refine go_caload C X1 A8 q9.1 (v := (.int (at32 xs i))) (ia_at q9.1 (by have := hx.1; omega)) (pc' := 13) rfl d9_12 ?_
      refine go_istore C X1 15 rfl d9_13 #[rv cb, iv i, rv db, iv i, iv n, iv i, iv (at32 xs i)] (hsl _) ?_
      refine go_iload C X1 17 rfl d9_15 rfl ?_
      refine go_sipush C X1 20 rfl d9_17 (z := 255) rfl ?_
      refine go_icmp_le C X1 d9_20 (pc' := 23) (pc2 := 26) rfl (by decide) (by decide) (fun (c20 : (at32 xs i).toInt ≤ 255) => ?_) (fun (c20 : 255 < (at32 xs i).toInt) => False.elim (by omega))
      refine go_aloadN C X1 27 rfl d9_26 rfl rfl ?_
      refine go_iloadN C X1 28 rfl d9_27 rfl ?_
      refine go_iload C X1 30 rfl d9_28 rfl ?_
      refine go_i2b C X1 31 rfl d9_30 ?_
      refine go_bastore C X1 A9 q9.1 (by rw [ia_len]; have := clamp_eq q9.1; have := hx.1; simp only [List.length_append, List.length_replicate, List.length_take, List.length_map]; omega) gb (pc' := 32) rfl d9_31 (fun T1 h3 W4 A5 X2 => ?_)
      rw [ia_put] at A5
      have A6 := A8.other W4 ncd
      have K7 := K9.wr W4 (Or.inl (List.mem_of_getElem? (i := 0) rfl))
      refine go_iinc C X2 35 rfl d9_32 rfl (z := 1) rfl #[rv cb, iv (i + (1 : Int32)), rv db, iv i, iv n, iv i, iv (at32 xs i)] rfl ?_
      refine go_iinc C X2 38 rfl d9_35 rfl (z := 1) rfl #[rv cb, iv (i + (1 : Int32)), rv db, iv (i + (1 : Int32)), iv n, iv i, iv (at32 xs i)] rfl ?_
      refine go_iinc C X2 41 rfl d9_38 rfl (z := 1) rfl #[rv cb, iv (i + (1 : Int32)), rv db, iv (i + (1 : Int32)), iv n, iv (i + (1 : Int32)), iv (at32 xs i)] rfl ?_
      refine go_goto C X2 d9_41 (pc' := 3) (by decide) (by decide) ?_
      replace A5 : La Z h3 db .byte (ia (put32 ((xs.map own_b).take i.toNatClampNeg ++ List.replicate (xs.length - i.toNatClampNeg) 0) i (own_b (at32 xs i)))) := A5
      rw [own_cstep q9.1 (by have := hx.1; omega) hxl] at A5
      have e1 : (i + 1).toInt = i.toInt + 1 := i_add rfl rfl (by omega) (by have := rng32 n; omega)
      exact ih _ _ X2 _ _ A6 A5 K7 ⟨by omega, by omega⟩ (fun _ => rfl)
  exact LP n.toNatClampNeg _ _ X0 (0 : Int32) _ A1 (by rw [own_z0, List.take_zero, Nat.sub_zero]; exact A2) (Keep.refl h [db]) ⟨by decide, by have := clamp_eq (j := n) (by have := hx.1; omega); have : (0 : Int32).toInt = 0 := rfl; omega⟩ (fun _ => rfl)
theorem d8_0 : decode jdk_52_method_16_code 0 = .ok (.iload_n 2, 1) := by decide +kernel
theorem d8_1 : decode jdk_52_method_16_code 1 = .ok (.newarray .byte, 2) := by decide +kernel
theorem d8_3 : decode jdk_52_method_16_code 3 = .ok (.astore_n 3, 1) := by decide +kernel
theorem d8_4 : decode jdk_52_method_16_code 4 = .ok (.aload_n 0, 1) := by decide +kernel
theorem d8_5 : decode jdk_52_method_16_code 5 = .ok (.iload_n 1, 1) := by decide +kernel
theorem d8_6 : decode jdk_52_method_16_code 6 = .ok (.aload_n 3, 1) := by decide +kernel
theorem d8_7 : decode jdk_52_method_16_code 7 = .ok (.iconst 0, 1) := by decide +kernel
theorem d8_8 : decode jdk_52_method_16_code 8 = .ok (.iload_n 2, 1) := by decide +kernel
theorem pd_5 : parseMethodDescriptor "([CI[BII)I" = some ⟨[(.array .char), .int, (.array .byte), .int, .int], some .int⟩ := by decide +kernel
theorem d8_9 : decode jdk_52_method_16_code 9 = .ok (.invokestatic 115, 3) := by decide +kernel
theorem d8_12 : decode jdk_52_method_16_code 12 = .ok (.istore 4, 2) := by decide +kernel
theorem d8_14 : decode jdk_52_method_16_code 14 = .ok (.iload 4, 2) := by decide +kernel
theorem d8_16 : decode jdk_52_method_16_code 16 = .ok (.iload_n 2, 1) := by decide +kernel
theorem d8_17 : decode jdk_52_method_16_code 17 = .ok (.if_icmp .eq 40, 3) := by decide +kernel
theorem d8_57 : decode jdk_52_method_16_code 57 = .ok (.aload_n 3, 1) := by decide +kernel
theorem d8_58 : decode jdk_52_method_16_code 58 = .ok (.areturn, 1) := by decide +kernel
theorem ef_own_cpr (m : MethodId) (cb : Addr) (n : Int32)  : entryFrame m #[(.ref cb), (.int (0 : Int32)), (.int n)] 6 = mkF m 0 #[rv cb, iv (0 : Int32), iv n, un, un, un] [] := by
  first | (simp [entryFrame, mkF, argsToLocals, Value.category]; done) | rfl
set_option maxRecDepth 65536 in
set_option maxHeartbeats 40000000 in
theorem own_cpr (l : Launch) (Z : State) (a0 : Array Value) (hw : ∀ d ∈ tables_1, d.before a0 Z = true) (cb : Addr) (n : Int32) (xs : List Int32) (h : Heap) (n0 : Nat) (hn0 : Old Z n0 h) (A1 : La Z h cb .char (ia xs)) (hx : own_ok n xs) (hn7 : n.toInt ≤ (7 : Nat)) :
    Con l Z (⟨"java/lang/StringUTF16", "compress", "([CII)[B"⟩ : MethodName) jdk_52_method_16_code 6 (some (.array .byte)) ({ frames := 1, cells := 1, slots := 7, locals := 18 } : Room) #[(.ref cb), (.int (0 : Int32)), (.int n)] h n0 (fun v h' => ∃ db : Addr, v = some (.ref db) ∧ Keep h h' [] ∧ h.size ≤ db ∧ La Z h' db .byte (ia (xs.map own_b))) := by
  refine con_of hw (plainFor_of_name pn_java_lang_StringUTF16) hn0 ?_
  intro p e s m below meth c T0 C X0
  refine Go.cast (congrArg T0.setTop (ef_own_cpr m cb n)) ?_
  refine go_iloadN C X0 1 rfl d8_0 rfl ?_
  refine go_newarr C X0 (C.w 15 rfl) (cap := 7) (by have := hx.1; omega) hn7 (by decide) (by decide) (by decide) (pc' := 3) rfl d8_1 (fun T1 h3 db ha_db ga_db E4 A5  X2 => ?_)
  have ne_cb_db : cb ≠ db := Nat.ne_of_lt (Nat.lt_of_lt_of_le A1.lt (Nat.le_of_eq ha_db.symm))
  have sz_db : h.size ≤ db := Nat.le_trans (Keep.refl h []).1 (Nat.le_of_eq ha_db.symm)
  have A6 := A1.ext E4
  have K7 := (Keep.refl h []).ext E4
  replace A5 : La Z h3 db .byte (List.replicate n.toNatClampNeg (.int 0)) := A5
  have en : n.toNatClampNeg = xs.length := by have := clamp_eq (j := n) (by have := hx.1; omega); have := hx.1; omega
  rw [own_irep, en] at A5
  refine go_astoreN C X2 4 rfl d8_3 rfl #[rv cb, iv (0 : Int32), iv n, rv db, un, un] rfl ?_
  refine go_aloadN C X2 5 rfl d8_4 rfl rfl ?_
  refine go_iloadN C X2 6 rfl d8_5 rfl ?_
  refine go_aloadN C X2 7 rfl d8_6 rfl rfl ?_
  refine go_iconst C X2 8 rfl d8_7 (z := 0) rfl ?_
  refine go_iloadN C X2 9 rfl d8_8 rfl ?_
  refine go_callS C X2 (C.w 48 rfl) (C.w 49 rfl) (C.w 46 rfl) (C.w 50 rfl) (own_cmp l Z a0 C.ws cb db n xs h3 n0 X2.old A6 A5 hx ga_db ne_cb_db) (argsL := [(.ref cb), (.int (0 : Int32)), (.ref db), (.int (0 : Int32)), (.int n)]) (rest := []) (lenOf pd_5 rfl) rfl (by decide) (by decide) (Nat.le_of_ble_eq_true rfl) (by decide) (by decide) rfl rfl (pc' := 12) rfl d8_9 ?_
  rintro T8 h10 _ ⟨rfl, K8, A8⟩ X9
  show Go p e below _ (T8.setTop (mkF m 12 #[rv cb, iv (0 : Int32), iv n, rv db, un, un] [(.int n)]))
  have A11 := A6.keep K8 (ninS ne_cb_db nin0)
  have K12 := K7.trans K8 (allS (Or.inr sz_db) all0)
  refine go_istore C X9 14 rfl d8_12 #[rv cb, iv (0 : Int32), iv n, rv db, iv n, un] rfl ?_
  refine go_iload C X9 16 rfl d8_14 rfl ?_
  refine go_iloadN C X9 17 rfl d8_16 rfl ?_
  refine go_icmp_eq C X9 d8_17 (pc' := 20) (pc2 := 57) rfl (by decide) (by decide) (fun (c17 : n = n) => ?_) (fun (c17 : ¬ n = n) => False.elim (by first | exact c17 rfl | omega))
  refine go_aloadN C X9 58 rfl d8_57 rfl rfl ?_
  exact go_retA C X9 d8_58 rfl rfl ⟨db, rfl, K12, sz_db, A8⟩ (by decide) (by decide)
theorem d10_0 : decode jdk_52_method_15_code 0 = .ok (.iload_n 1, 1) := by decide +kernel
theorem d10_1 : decode jdk_52_method_15_code 1 = .ok (.aload_n 0, 1) := by decide +kernel
theorem d10_2 : decode jdk_52_method_15_code 2 = .ok (.arraylength, 1) := by decide +kernel
theorem d10_3 : decode jdk_52_method_15_code 3 = .ok (.isub, 1) := by decide +kernel
theorem d10_4 : decode jdk_52_method_15_code 4 = .ok (.bipush 31, 2) := by decide +kernel
theorem d10_6 : decode jdk_52_method_15_code 6 = .ok (.iushr, 1) := by decide +kernel
theorem d10_7 : decode jdk_52_method_15_code 7 = .ok (.i2b, 1) := by decide +kernel
theorem d10_8 : decode jdk_52_method_15_code 8 = .ok (.ireturn, 1) := by decide +kernel
theorem ef_own_cfa (m : MethodId) (db : Addr) (n : Int32)  : entryFrame m #[(.ref db), (.int n)] 2 = mkF m 0 #[rv db, iv n] [] := by
  first | (simp [entryFrame, mkF, argsToLocals, Value.category]; done) | rfl
set_option maxRecDepth 65536 in
set_option maxHeartbeats 40000000 in
theorem own_cfa (l : Launch) (Z : State) (a0 : Array Value) (hw : ∀ d ∈ tables_1, d.before a0 Z = true) (db : Addr) (n : Int32) (xs : List Int32) (h : Heap) (n0 : Nat) (hn0 : Old Z n0 h) (A1 : La Z h db .byte (ia (xs.map own_b))) (hx : own_ok n xs) :
    Con l Z (⟨"java/lang/StringUTF16", "coderFromArrayLen", "([BI)B"⟩ : MethodName) jdk_52_method_15_code 2 (some .byte) ({ frames := 0, cells := 0, slots := 0, locals := 0 } : Room) #[(.ref db), (.int n)] h n0 (fun v h' => v = some (.int 0) ∧ h = h') := by
  refine con_of hw (plainFor_of_name pn_java_lang_StringUTF16) hn0 ?_
  intro p e s m below meth c T0 C X0
  refine Go.cast (congrArg T0.setTop (ef_own_cfa m db n)) ?_
  refine go_iloadN C X0 1 rfl d10_0 rfl ?_
  refine go_aloadN C X0 2 rfl d10_1 rfl rfl ?_
  refine go_alen C X0 A1 (z := n) (by rw [ia_len, List.length_map]; exact own_l32 hx.1) (pc' := 3) rfl d10_2 ?_
  refine go_isub C X0 4 rfl d10_3 ?_
  rw [own_ss]
  refine go_bipush C X0 6 rfl d10_4 (z := 31) rfl ?_
  refine go_iushr C X0 7 rfl d10_6 ?_
  show Go p e below _ (T0.setTop (mkF m 7 #[rv db, iv n] [(.int (0 : Int32))]))
  refine go_i2b C X0 8 rfl d10_7 ?_
  show Go p e below _ (T0.setTop (mkF m 8 #[rv db, iv n] [(.int (0 : Int32))]))
  exact go_retN C X0 (by simp) (z' := 0) rfl d10_8 ⟨rfl, rfl⟩ (by decide) (by decide)
theorem d2_0 : decode jdk_42_method_149_code 0 = .ok (.aload_n 0, 1) := by decide +kernel
theorem d2_1 : decode jdk_42_method_149_code 1 = .ok (.invokespecial 1, 3) := by decide +kernel
theorem d2_4 : decode jdk_42_method_149_code 4 = .ok (.iload_n 3, 1) := by decide +kernel
theorem d2_5 : decode jdk_42_method_149_code 5 = .ok (.ifCond .ne 22, 3) := by decide +kernel
theorem d2_27 : decode jdk_42_method_149_code 27 = .ok (.getstatic 38, 3) := by decide +kernel
theorem d2_30 : decode jdk_42_method_149_code 30 = .ok (.ifCond .eq 28, 3) := by decide +kernel
theorem d2_33 : decode jdk_42_method_149_code 33 = .ok (.aload_n 1, 1) := by decide +kernel
theorem d2_34 : decode jdk_42_method_149_code 34 = .ok (.iload_n 2, 1) := by decide +kernel
theorem d2_35 : decode jdk_42_method_149_code 35 = .ok (.iload_n 3, 1) := by decide +kernel
theorem pd_6 : parseMethodDescriptor "([CII)[B" = some ⟨[(.array .char), .int, .int], some (.array .byte)⟩ := by decide +kernel
theorem d2_36 : decode jdk_42_method_149_code 36 = .ok (.invokestatic 177, 3) := by decide +kernel
theorem d2_39 : decode jdk_42_method_149_code 39 = .ok (.astore 5, 2) := by decide +kernel
theorem d2_41 : decode jdk_42_method_149_code 41 = .ok (.aload_n 0, 1) := by decide +kernel
theorem d2_42 : decode jdk_42_method_149_code 42 = .ok (.aload 5, 2) := by decide +kernel
theorem d2_44 : decode jdk_42_method_149_code 44 = .ok (.iload_n 3, 1) := by decide +kernel
theorem pd_7 : parseMethodDescriptor "([BI)B" = some ⟨[(.array .byte), .int], some .byte⟩ := by decide +kernel
theorem d2_45 : decode jdk_42_method_149_code 45 = .ok (.invokestatic 47, 3) := by decide +kernel
theorem d2_48 : decode jdk_42_method_149_code 48 = .ok (.putfield 15, 3) := by decide +kernel
theorem d2_51 : decode jdk_42_method_149_code 51 = .ok (.aload_n 0, 1) := by decide +kernel
theorem d2_52 : decode jdk_42_method_149_code 52 = .ok (.aload 5, 2) := by decide +kernel
theorem d2_54 : decode jdk_42_method_149_code 54 = .ok (.putfield 9, 3) := by decide +kernel
theorem d2_57 : decode jdk_42_method_149_code 57 = .ok (.return_, 1) := by decide +kernel
theorem ef_own_i4 (m : MethodId) (sa : Addr) (cb : Addr) (n : Int32)  : entryFrame m #[(.ref sa), (.ref cb), (.int (0 : Int32)), (.int n), .null] 6 = mkF m 0 #[rv sa, rv cb, iv (0 : Int32), iv n, .val .null, un] [] := by
  first | (simp [entryFrame, mkF, argsToLocals, Value.category]; done) | rfl
set_option maxRecDepth 65536 in
set_option maxHeartbeats 40000000 in
theorem own_i4 (l : Launch) (Z : State) (a0 : Array Value) (hw : ∀ d ∈ tables_1, d.before a0 Z = true) (sa : Addr) (cb : Addr) (n : Int32) (xs : List Int32) (cs : Int32) (fv : Value) (h : Heap) (n0 : Nat) (hn0 : Old Z n0 h) (E0 : Exa Z h sa "java/lang/String") (G1 : Fld Z h sa "java/lang/String" "coder" "B" (.int 0)) (G2 : Fld Z h sa "java/lang/String" "value" "[B" .null) (ga : n0 ≤ sa) (A1 : La Z h cb .char (ia xs)) (nsc : sa ≠ cb) (hx : own_ok n xs) (hn7 : n.toInt ≤ (7 : Nat)) (hnz : ¬ n = 0) (hcs : ¬ cs = 0) (S1 : Sta Z Z.heap "java/lang/String" "COMPACT_STRINGS" "Z" (.int cs)) (hfv : fv.isRef = true) (S2 : Sta Z Z.heap "jdk/internal/util/Preconditions" "SIOOBE_FORMATTER" "Ljava/util/function/BiFunction;" fv) :
    Con l Z (⟨"java/lang/String", "<init>", "([CIILjava/lang/Void;)V"⟩ : MethodName) jdk_42_method_149_code 6 none ({ frames := 2, cells := 1, slots := 7, locals := 35 } : Room) #[(.ref sa), (.ref cb), (.int (0 : Int32)), (.int n), .null] h n0 (fun v h' => v = none ∧ ∃ db : Addr, Keep h h' [sa] ∧ Exa Z h' sa "java/lang/String" ∧ Fld Z h' sa "java/lang/String" "coder" "B" (.int 0) ∧ Fld Z h' sa "java/lang/String" "value" "[B" (.ref db) ∧ La Z h' db .byte (ia (xs.map own_b))) := by
  refine con_of hw (plainFor_of_name pn_java_lang_String) hn0 ?_
  intro p e s m below meth c T0 C X0
  refine Go.cast (congrArg T0.setTop (ef_own_i4 m sa cb n)) ?_
  refine go_aloadN C X0 1 rfl d2_0 rfl rfl ?_
  refine go_initO C X0 (C.w 11 rfl) (C.w 12 rfl) (C.w 13 rfl) (by decide) (Nat.le_of_ble_eq_true rfl) rfl (pc' := 4) rfl d2_1 (fun T1 X2 => ?_)
  refine go_iloadN C X2 5 rfl d2_4 rfl ?_
  refine go_if_ne C X2 d2_5 (pc' := 8) (pc2 := 27) rfl (by decide) (by decide) (fun (c5 : ¬ n = (0 : Int32)) => ?_) (fun (c5 : n = (0 : Int32)) => False.elim (hnz c5))
  refine go_getS C X2 (C.w 33 rfl) (S1.ext X2.old.2) (pc' := 30) rfl d2_27 (fun T3 X4 => ?_)
  refine go_if_eq C X4 d2_30 (pc' := 33) (pc2 := 58) rfl (by decide) (by decide) (fun (c30 : cs = (0 : Int32)) => False.elim (hcs c30)) (fun (c30 : ¬ cs = (0 : Int32)) => ?_)
  refine go_aloadN C X4 34 rfl d2_33 rfl rfl ?_
  refine go_iloadN C X4 35 rfl d2_34 rfl ?_
  refine go_iloadN C X4 36 rfl d2_35 rfl ?_
  have hsz_36 := X4.sz
  have lt_sa_36 := E0.lt
  have lt_cb_36 := A1.lt
  refine go_callS C X4 (C.w 44 rfl) (C.w 45 rfl) (C.w 46 rfl) (C.w 47 rfl) (own_cpr l Z a0 C.ws cb n xs h n0 X4.old A1 hx hn7) (argsL := [(.ref cb), (.int (0 : Int32)), (.int n)]) (rest := []) (lenOf pd_6 rfl) rfl (by decide) (by decide) (Nat.le_of_ble_eq_true rfl) (by decide) (by decide) rfl rfl (pc' := 39) rfl d2_36 ?_
  rintro T5 h7 _ ⟨db, rfl, K7, sz7, A7⟩ X6
  show Go p e below _ (T5.setTop (mkF m 39 #[rv sa, rv cb, iv (0 : Int32), iv n, .val .null, un] [(.ref db)]))
  have ne_sa_db : sa ≠ db := Nat.ne_of_lt (Nat.lt_of_lt_of_le lt_sa_36 sz7)
  have ne_cb_db : cb ≠ db := Nat.ne_of_lt (Nat.lt_of_lt_of_le lt_cb_36 sz7)
  have ga_db : n0 ≤ db := Nat.le_trans hsz_36 sz7
  have sz_db : h.size ≤ db := Nat.le_trans (Keep.refl h [sa]).1 sz7
  have E8 := E0.keep K7
  have F9 := G1.keep K7 nin0
  have F10 := G2.keep K7 nin0
  have A11 := A1.keep K7 nin0
  have K12 := (Keep.refl h [sa]).trans K7 all0
  refine go_astore C X6 41 rfl d2_39 rfl #[rv sa, rv cb, iv (0 : Int32), iv n, .val .null, rv db] rfl ?_
  refine go_aloadN C X6 42 rfl d2_41 rfl rfl ?_
  refine go_aload C X6 44 rfl d2_42 rfl rfl ?_
  refine go_iloadN C X6 45 rfl d2_44 rfl ?_
  refine go_callS C X6 (C.w 51 rfl) (C.w 52 rfl) (C.w 46 rfl) (C.w 53 rfl) (own_cfa l Z a0 C.ws db n xs h7 n0 X6.old A7 hx) (argsL := [(.ref db), (.int n)]) (rest := [(.ref sa)]) (lenOf pd_7 rfl) rfl (by decide) (by decide) (Nat.le_of_ble_eq_true rfl) (by decide) (by decide) rfl rfl (pc' := 48) rfl d2_45 ?_
  rintro T13 _ _ ⟨rfl, rfl⟩ X14
  show Go p e below _ (T13.setTop (mkF m 48 #[rv sa, rv cb, iv (0 : Int32), iv n, .val .null, rv db] [(.int (0 : Int32)), (.ref sa)]))
  refine go_putFN C X14 (C.w 21 rfl) Via.refl F9 E8 (Or.inr ⟨C.w 17 rfl, rfl, C.nmE⟩) (C.w 2 rfl) ga (ty := .byte) (by decide) (v' := (.int (0 : Int32))) rfl rfl (pc' := 51) rfl d2_48 (fun T16 h18 W19 X17 => ?_)
  have F20 := F9.same W19
  have E21 := E8.wr W19
  have F22 := F10.other W19 (Or.inr (slot_ne (Or.inr (C.w 16 rfl)) (Or.inr (C.w 17 rfl)) (by decide) (t := (.array .byte)) (t' := .byte) (by decide) (by decide)))
  have A23 := A11.other W19 (Ne.symm nsc)
  have A24 := A7.other W19 (Ne.symm ne_sa_db)
  have K25 := K12.wr W19 (Or.inl (List.mem_of_getElem? (i := 0) rfl))
  refine go_aloadN C X17 52 rfl d2_51 rfl rfl ?_
  refine go_aload C X17 54 rfl d2_52 rfl rfl ?_
  refine go_putF C X17 (C.w 20 rfl) Via.refl F22 E21 (Or.inr ⟨C.w 16 rfl, rfl, C.nmE⟩) (C.w 2 rfl) ga (ty := (.array .byte)) (by decide) rfl rfl (pc' := 57) rfl d2_54 (fun T26 h28 W29 X27 => ?_)
  have F30 := F22.same W29
  have E31 := E21.wr W29
  have F32 := F20.other W29 (Or.inr (slot_ne (Or.inr (C.w 17 rfl)) (Or.inr (C.w 16 rfl)) (by decide) (t := .byte) (t' := (.array .byte)) (by decide) (by decide)))
  have A33 := A23.other W29 (Ne.symm nsc)
  have A34 := A24.other W29 (Ne.symm ne_sa_db)
  have K35 := K25.wr W29 (Or.inl (List.mem_of_getElem? (i := 0) rfl))
  exact go_ret0 C X27 d2_57 ⟨rfl, db, K35, E31, F32, F30, A34⟩ (by decide) (by decide)
theorem d1_0 : decode jdk_42_method_3_code 0 = .ok (.aload_n 0, 1) := by decide +kernel
theorem d1_1 : decode jdk_42_method_3_code 1 = .ok (.aload_n 1, 1) := by decide +kernel
theorem d1_2 : decode jdk_42_method_3_code 2 = .ok (.iconst 0, 1) := by decide +kernel
theorem d1_3 : decode jdk_42_method_3_code 3 = .ok (.aload_n 1, 1) := by decide +kernel
theorem d1_4 : decode jdk_42_method_3_code 4 = .ok (.arraylength, 1) := by decide +kernel
theorem d1_5 : decode jdk_42_method_3_code 5 = .ok (.aconst_null, 1) := by decide +kernel
theorem pd_8 : parseMethodDescriptor "([CIILjava/lang/Void;)V" = some ⟨[(.array .char), .int, .int, (.object "java/lang/Void")], none⟩ := by decide +kernel
theorem d1_6 : decode jdk_42_method_3_code 6 = .ok (.invokespecial 27, 3) := by decide +kernel
theorem d1_9 : decode jdk_42_method_3_code 9 = .ok (.return_, 1) := by decide +kernel
theorem ef_own_i1 (m : MethodId) (sa : Addr) (cb : Addr)  : entryFrame m #[(.ref sa), (.ref cb)] 2 = mkF m 0 #[rv sa, rv cb] [] := by
  first | (simp [entryFrame, mkF, argsToLocals, Value.category]; done) | rfl
set_option maxRecDepth 65536 in
set_option maxHeartbeats 40000000 in
theorem own_i1 (l : Launch) (Z : State) (a0 : Array Value) (hw : ∀ d ∈ tables_1, d.before a0 Z = true) (sa : Addr) (cb : Addr) (n : Int32) (xs : List Int32) (cs : Int32) (fv : Value) (h : Heap) (n0 : Nat) (hn0 : Old Z n0 h) (E0 : Exa Z h sa "java/lang/String") (G1 : Fld Z h sa "java/lang/String" "coder" "B" (.int 0)) (G2 : Fld Z h sa "java/lang/String" "value" "[B" .null) (ga : n0 ≤ sa) (A1 : La Z h cb .char (ia xs)) (nsc : sa ≠ cb) (hx : own_ok n xs) (hn7 : n.toInt ≤ (7 : Nat)) (hnz : ¬ n = 0) (hcs : ¬ cs = 0) (S1 : Sta Z Z.heap "java/lang/String" "COMPACT_STRINGS" "Z" (.int cs)) (hfv : fv.isRef = true) (S2 : Sta Z Z.heap "jdk/internal/util/Preconditions" "SIOOBE_FORMATTER" "Ljava/util/function/BiFunction;" fv) :
    Con l Z (⟨"java/lang/String", "<init>", "([C)V"⟩ : MethodName) jdk_42_method_3_code 2 none ({ frames := 3, cells := 1, slots := 7, locals := 52 } : Room) #[(.ref sa), (.ref cb)] h n0 (fun v h' => v = none ∧ ∃ db : Addr, Keep h h' [sa] ∧ Exa Z h' sa "java/lang/String" ∧ Fld Z h' sa "java/lang/String" "coder" "B" (.int 0) ∧ Fld Z h' sa "java/lang/String" "value" "[B" (.ref db) ∧ La Z h' db .byte (ia (xs.map own_b))) := by
  refine con_of hw (plainFor_of_name pn_java_lang_String) hn0 ?_
  intro p e s m below meth c T0 C X0
  refine Go.cast (congrArg T0.setTop (ef_own_i1 m sa cb)) ?_
  refine go_aloadN C X0 1 rfl d1_0 rfl rfl ?_
  refine go_aloadN C X0 2 rfl d1_1 rfl rfl ?_
  refine go_iconst C X0 3 rfl d1_2 (z := 0) rfl ?_
  refine go_aloadN C X0 4 rfl d1_3 rfl rfl ?_
  refine go_alen C X0 A1 (z := n) (by rw [ia_len]; exact own_l32 hx.1) (pc' := 5) rfl d1_4 ?_
  refine go_aconstNull C X0 6 rfl d1_5 ?_
  refine go_special C X0 (C.w 7 rfl) (C.w 8 rfl) (C.w 3 rfl) (C.w 10 rfl) rfl (own_i4 l Z a0 C.ws sa cb n xs cs fv h n0 X0.old E0 G1 G2 ga A1 nsc hx hn7 hnz hcs S1 hfv S2) (argsL := [(.ref cb), (.int (0 : Int32)), (.int n), .null]) (rest := []) (lenOf pd_8 rfl) rfl (by decide) (by decide) (Nat.le_of_ble_eq_true rfl) (by decide) (by decide) rfl rfl (pc' := 9) rfl d1_6 ?_
  rintro T1 h3 _ ⟨rfl, db, KK6, EE6, GG6, GG7, AA6⟩ X2
  show Go p e below _ (T1.setTop (mkF m 9 #[rv sa, rv cb] []))
  have E4 := E0.keep KK6
  have A5 := A1.keep KK6 (ninS (Ne.symm nsc) nin0)
  have K6 := (Keep.refl h [sa]).trans KK6 (allS (Or.inl (List.mem_of_getElem? (i := 0) rfl)) all0)
  exact go_ret0 C X2 d1_9 ⟨rfl, db, K6, EE6, GG6, GG7, AA6⟩ (by decide) (by decide)
theorem d2_8 : decode jdk_42_method_149_code 8 = .ok (.aload_n 0, 1) := by decide +kernel
theorem d2_9 : decode jdk_42_method_149_code 9 = .ok (.ldc 7, 2) := by decide +kernel
theorem d2_11 : decode jdk_42_method_149_code 11 = .ok (.getfield 9, 3) := by decide +kernel
theorem d2_14 : decode jdk_42_method_149_code 14 = .ok (.putfield 9, 3) := by decide +kernel
theorem d2_17 : decode jdk_42_method_149_code 17 = .ok (.aload_n 0, 1) := by decide +kernel
theorem d2_18 : decode jdk_42_method_149_code 18 = .ok (.ldc 7, 2) := by decide +kernel
theorem d2_20 : decode jdk_42_method_149_code 20 = .ok (.getfield 15, 3) := by decide +kernel
theorem d2_23 : decode jdk_42_method_149_code 23 = .ok (.putfield 15, 3) := by decide +kernel
theorem d2_26 : decode jdk_42_method_149_code 26 = .ok (.return_, 1) := by decide +kernel
theorem ef_own_i4z (m : MethodId) (sa : Addr) (cb : Addr)  : entryFrame m #[(.ref sa), (.ref cb), (.int (0 : Int32)), (.int (0 : Int32)), .null] 6 = mkF m 0 #[rv sa, rv cb, iv (0 : Int32), iv (0 : Int32), .val .null, un] [] := by
  first | (simp [entryFrame, mkF, argsToLocals, Value.category]; done) | rfl
set_option maxRecDepth 65536 in
set_option maxHeartbeats 40000000 in
theorem own_i4z (l : Launch) (Z : State) (a0 : Array Value) (hw : ∀ d ∈ tables_1, d.before a0 Z = true) (sa : Addr) (cb : Addr)  (h : Heap) (n0 : Nat) (hn0 : Old Z n0 h) (hEL : EW Z a0 consts_1) (E0 : Exa Z h sa "java/lang/String") (G1 : Fld Z h sa "java/lang/String" "coder" "B" (.int 0)) (G2 : Fld Z h sa "java/lang/String" "value" "[B" .null) (ga : n0 ≤ sa) :
    ConW l Z consts_1 (⟨"java/lang/String", "<init>", "([CIILjava/lang/Void;)V"⟩ : MethodName) jdk_42_method_149_code 6 none ({ frames := 1, cells := 4, slots := 8, locals := 12 } : Room) #[(.ref sa), (.ref cb), (.int (0 : Int32)), (.int (0 : Int32)), .null] h n0 (fun v h' => v = none ∧ ∃ db : Addr, Keep h h' [sa] ∧ Exa Z h' sa "java/lang/String" ∧ Fld Z h' sa "java/lang/String" "coder" "B" (.int 0) ∧ Fld Z h' sa "java/lang/String" "value" "[B" (.ref db) ∧ La Z h' db .byte (ia [])) := by
  refine conW_of hw (plainFor_of_name pn_java_lang_String) hn0 ?_
  intro p e sv0 s m below meth c T0 C WI0 X0
  refine Go.cast (congrArg T0.setTop (ef_own_i4z m sa cb)) ?_
  refine go_aloadN C X0 1 rfl d2_0 rfl rfl ?_
  refine go_initO C X0 (C.w 11 rfl) (C.w 12 rfl) (C.w 13 rfl) (by decide) (Nat.le_of_ble_eq_true rfl) rfl (pc' := 4) rfl d2_1 (fun T1 X2 => ?_)
  refine go_iloadN C X2 5 rfl d2_4 rfl ?_
  refine go_if_ne C X2 d2_5 (pc' := 8) (pc2 := 27) rfl (by decide) (by decide) (fun (c5 : ¬ (0 : Int32) = (0 : Int32)) => False.elim (by first | omega | exact absurd c5 (by decide))) (fun (c5 : (0 : Int32) = (0 : Int32)) => ?_)
  refine go_aloadN C X2 9 rfl d2_8 rfl rfl ?_
  refine go_ldcH C X2 WI0 hEL (C.w 14 rfl) (own_wS C.ws) (List.mem_of_getElem? (i := 4) rfl) (vs := []) (z := 0) (own_lit7) (by decide) (by decide) (q := 0) own_len7 (by decide) (by decide) (by decide) (pc' := 11) rfl d2_9 ?_
  intro s T3 h5 ea eb C WI12 E6 E7 F8 F9 A10 SF11 SFT13 X4
  have E14 := E0.ext E6
  have F15 := G1.ext E6
  have F16 := G2.ext E6
  have K17 := (Keep.refl h [sa]).ext E6
  have ne_sa_ea := (SF11 sa (safeN C E14 F16)).1
  have ne_sa_eb := (SF11 sa (safeN C E14 F16)).2
  refine go_getF C X4 (C.w 20 rfl) Via.refl F9 (pc' := 14) rfl d2_11 (fun T18 X19 => ?_)
  refine go_putF C X19 (C.w 20 rfl) Via.refl F16 E14 (Or.inr ⟨C.w 16 rfl, rfl, C.nmE⟩) (C.w 2 rfl) ga (ty := (.array .byte)) (by decide) rfl rfl (pc' := 17) rfl d2_14 (fun T20 h22 W23 X21 => ?_)
  have F24 := F16.same W23
  have SQ25 : Safe Z consts_1 s.vm _ sa := (safeN C E14 F16)
  have SQ26 := Safe.wr W23 SQ25 WI12.2.2.1 SQ25
  have WI27 := WI12.wr W23 SQ25
  have E28 := E14.wr W23
  have F29 := F15.other W23 (Or.inr (slot_ne (Or.inr (C.w 17 rfl)) (Or.inr (C.w 16 rfl)) (by decide) (t := .byte) (t' := (.array .byte)) (by decide) (by decide)))
  have E30 := E7.wr W23
  have F31 := F8.other W23 (Or.inl (Ne.symm ne_sa_ea))
  have F32 := F9.other W23 (Or.inl (Ne.symm ne_sa_ea))
  have A33 := A10.other W23 (Ne.symm ne_sa_eb)
  have K34 := K17.wr W23 (Or.inl (List.mem_of_getElem? (i := 0) rfl))
  refine go_aloadN C X21 18 rfl d2_17 rfl rfl ?_
  refine go_ldcH C X21 WI27 hEL (C.w 14 rfl) (own_wS C.ws) (List.mem_of_getElem? (i := 4) rfl) (vs := []) (z := 0) (own_lit7) (by decide) (by decide) (q := 0) own_len7 (by decide) (by decide) (by decide) (pc' := 20) rfl d2_18 ?_
  intro s T35 h37 ec ed C WI44 E38 E39 F40 F41 A42 SF43 SFT45 X36
  have SQ47 := SFT45 sa E28.lt SQ26
  have E48 := E28.ext E38
  have F49 := F29.ext E38
  have F50 := F24.ext E38
  have E51 := E30.ext E38
  have F52 := F31.ext E38
  have F53 := F32.ext E38
  have A54 := A33.ext E38
  have K55 := K34.ext E38
  have ne_sa_ec := (SF43 sa SQ47).1
  have ne_sa_ed := (SF43 sa SQ47).2
  refine go_getF C X36 (C.w 21 rfl) Via.refl F40 (pc' := 23) rfl d2_20 (fun T56 X57 => ?_)
  refine go_putFN C X57 (C.w 21 rfl) Via.refl F49 E48 (Or.inr ⟨C.w 17 rfl, rfl, C.nmE⟩) (C.w 2 rfl) ga (ty := .byte) (by decide) (v' := (.int (0 : Int32))) rfl rfl (pc' := 26) rfl d2_23 (fun T58 h60 W61 X59 => ?_)
  have F62 := F49.same W61
  have SQ63 := Safe.wr W61 SQ47 WI44.2.2.1 SQ47
  have WI64 := WI44.wr W61 SQ47
  have E65 := E48.wr W61
  have F66 := F50.other W61 (Or.inr (slot_ne (Or.inr (C.w 16 rfl)) (Or.inr (C.w 17 rfl)) (by decide) (t := (.array .byte)) (t' := .byte) (by decide) (by decide)))
  have E67 := E51.wr W61
  have F68 := F52.other W61 (Or.inl (Ne.symm ne_sa_ea))
  have F69 := F53.other W61 (Or.inl (Ne.symm ne_sa_ea))
  have A70 := A54.other W61 (Ne.symm ne_sa_eb)
  have E71 := E39.wr W61
  have F72 := F40.other W61 (Or.inl (Ne.symm ne_sa_ec))
  have F73 := F41.other W61 (Or.inl (Ne.symm ne_sa_ec))
  have A74 := A42.other W61 (Ne.symm ne_sa_ed)
  have K75 := K55.wr W61 (Or.inl (List.mem_of_getElem? (i := 0) rfl))
  exact go_ret0W C X59 WI64 hEL d2_26 ⟨rfl, eb, K75, E65, F62, F66, A70⟩ (by decide) (by decide)
theorem ef_own_i1z (m : MethodId) (sa : Addr) (cb : Addr)  : entryFrame m #[(.ref sa), (.ref cb)] 2 = mkF m 0 #[rv sa, rv cb] [] := by
  first | (simp [entryFrame, mkF, argsToLocals, Value.category]; done) | rfl
set_option maxRecDepth 65536 in
set_option maxHeartbeats 40000000 in
theorem own_i1z (l : Launch) (Z : State) (a0 : Array Value) (hw : ∀ d ∈ tables_1, d.before a0 Z = true) (sa : Addr) (cb : Addr)  (h : Heap) (n0 : Nat) (hn0 : Old Z n0 h) (hEL : EW Z a0 consts_1) (E0 : Exa Z h sa "java/lang/String") (G1 : Fld Z h sa "java/lang/String" "coder" "B" (.int 0)) (G2 : Fld Z h sa "java/lang/String" "value" "[B" .null) (ga : n0 ≤ sa) (A1 : La Z h cb .char []) (nsc : sa ≠ cb) :
    ConW l Z consts_1 (⟨"java/lang/String", "<init>", "([C)V"⟩ : MethodName) jdk_42_method_3_code 2 none ({ frames := 2, cells := 4, slots := 8, locals := 29 } : Room) #[(.ref sa), (.ref cb)] h n0 (fun v h' => v = none ∧ ∃ db : Addr, Keep h h' [sa] ∧ Exa Z h' sa "java/lang/String" ∧ Fld Z h' sa "java/lang/String" "coder" "B" (.int 0) ∧ Fld Z h' sa "java/lang/String" "value" "[B" (.ref db) ∧ La Z h' db .byte (ia [])) := by
  refine conW_of hw (plainFor_of_name pn_java_lang_String) hn0 ?_
  intro p e sv0 s m below meth c T0 C WI0 X0
  refine Go.cast (congrArg T0.setTop (ef_own_i1z m sa cb)) ?_
  refine go_aloadN C X0 1 rfl d1_0 rfl rfl ?_
  refine go_aloadN C X0 2 rfl d1_1 rfl rfl ?_
  refine go_iconst C X0 3 rfl d1_2 (z := 0) rfl ?_
  refine go_aloadN C X0 4 rfl d1_3 rfl rfl ?_
  refine go_alen C X0 A1 (z := (0 : Int32)) rfl (pc' := 5) rfl d1_4 ?_
  refine go_aconstNull C X0 6 rfl d1_5 ?_
  refine go_specialW C X0 WI0 hEL (C.w 7 rfl) (C.w 8 rfl) (C.w 3 rfl) (C.w 10 rfl) rfl (own_i4z l Z a0 C.ws sa cb h n0 X0.old hEL E0 G1 G2 ga) (argsL := [(.ref cb), (.int (0 : Int32)), (.int (0 : Int32)), .null]) (rest := []) (lenOf pd_8 rfl) rfl (by decide) (by decide) (Nat.le_of_ble_eq_true rfl) (by decide) (by decide) rfl rfl (pc' := 9) rfl d1_6 ?_
  rintro s T1 h3 _ ⟨rfl, db, KK6, EE6, GG6, GG7, AA6⟩ C WI4 X2
  show Go p e below _ (T1.setTop (mkF m 9 #[rv sa, rv cb] []))
  have E5 := E0.keep KK6
  have A6 := A1.keep KK6 (ninS (Ne.symm nsc) nin0)
  have K7 := (Keep.refl h [sa]).trans KK6 (allS (Or.inl (List.mem_of_getElem? (i := 0) rfl)) all0)
  exact go_ret0W C X2 WI4 hEL d1_9 ⟨rfl, db, K7, EE6, GG6, GG7, AA6⟩ (by decide) (by decide)
theorem d6_0 : decode jdk_43_method_13_code 0 = .ok (.aload_n 0, 1) := by decide +kernel
theorem d6_1 : decode jdk_43_method_13_code 1 = .ok (.arraylength, 1) := by decide +kernel
theorem d6_2 : decode jdk_43_method_13_code 2 = .ok (.aload_n 1, 1) := by decide +kernel
theorem d6_3 : decode jdk_43_method_13_code 3 = .ok (.arraylength, 1) := by decide +kernel
theorem d6_4 : decode jdk_43_method_13_code 4 = .ok (.if_icmp .ne 30, 3) := by decide +kernel
theorem d6_34 : decode jdk_43_method_13_code 34 = .ok (.iconst 0, 1) := by decide +kernel
theorem d6_35 : decode jdk_43_method_13_code 35 = .ok (.ireturn, 1) := by decide +kernel
theorem d6_7 : decode jdk_43_method_13_code 7 = .ok (.iconst 0, 1) := by decide +kernel
theorem d6_8 : decode jdk_43_method_13_code 8 = .ok (.istore_n 2, 1) := by decide +kernel
theorem d6_9 : decode jdk_43_method_13_code 9 = .ok (.iload_n 2, 1) := by decide +kernel
theorem d6_10 : decode jdk_43_method_13_code 10 = .ok (.aload_n 0, 1) := by decide +kernel
theorem d6_11 : decode jdk_43_method_13_code 11 = .ok (.arraylength, 1) := by decide +kernel
theorem d6_12 : decode jdk_43_method_13_code 12 = .ok (.if_icmp .ge 20, 3) := by decide +kernel
theorem d6_15 : decode jdk_43_method_13_code 15 = .ok (.aload_n 0, 1) := by decide +kernel
theorem d6_16 : decode jdk_43_method_13_code 16 = .ok (.iload_n 2, 1) := by decide +kernel
theorem d6_17 : decode jdk_43_method_13_code 17 = .ok (.baload, 1) := by decide +kernel
theorem d6_18 : decode jdk_43_method_13_code 18 = .ok (.aload_n 1, 1) := by decide +kernel
theorem d6_19 : decode jdk_43_method_13_code 19 = .ok (.iload_n 2, 1) := by decide +kernel
theorem d6_20 : decode jdk_43_method_13_code 20 = .ok (.baload, 1) := by decide +kernel
theorem d6_21 : decode jdk_43_method_13_code 21 = .ok (.if_icmp .eq 5, 3) := by decide +kernel
theorem d6_26 : decode jdk_43_method_13_code 26 = .ok (.iinc 2 1, 3) := by decide +kernel
theorem d6_29 : decode jdk_43_method_13_code 29 = .ok (.goto (-20), 3) := by decide +kernel
theorem d6_32 : decode jdk_43_method_13_code 32 = .ok (.iconst 1, 1) := by decide +kernel
theorem d6_33 : decode jdk_43_method_13_code 33 = .ok (.ireturn, 1) := by decide +kernel
theorem d6_24 : decode jdk_43_method_13_code 24 = .ok (.iconst 0, 1) := by decide +kernel
theorem d6_25 : decode jdk_43_method_13_code 25 = .ok (.ireturn, 1) := by decide +kernel
theorem ef_own_leq6 (m : MethodId) (vb : Addr) (lb : Addr)  : entryFrame m #[(.ref vb), (.ref lb)] 3 = mkF m 0 #[rv vb, rv lb, un] [] := by
  first | (simp [entryFrame, mkF, argsToLocals, Value.category]; done) | rfl
set_option maxRecDepth 65536 in
set_option maxHeartbeats 40000000 in
theorem own_leq6 (l : Launch) (Z : State) (a0 : Array Value) (hw : ∀ d ∈ tables_1, d.before a0 Z = true) (vb : Addr) (lb : Addr) (bs : List Int32) (h : Heap) (n0 : Nat) (hn0 : Old Z n0 h) (A1 : La Z h vb .byte (ia bs)) (A2 : La Z h lb .byte [(.int (45 : Int32)), (.int (45 : Int32)), (.int (104 : Int32)), (.int (101 : Int32)), (.int (108 : Int32)), (.int (112 : Int32))]) :
    Con l Z (⟨"java/lang/StringLatin1", "equals", "([B[B)Z"⟩ : MethodName) jdk_43_method_13_code 3 (some .boolean) ({ frames := 0, cells := 0, slots := 0, locals := 0 } : Room) #[(.ref vb), (.ref lb)] h n0 (fun v h' => v = some (.int (own_eqb bs [45, 45, 104, 101, 108, 112])) ∧ h = h') := by
  refine con_of hw (plainFor_of_name pn_java_lang_StringLatin1) hn0 ?_
  intro p e s m below meth c T0 C X0
  refine Go.cast (congrArg T0.setTop (ef_own_leq6 m vb lb)) ?_
  have hl31 := A1.len
  rw [ia_len] at hl31
  refine go_aloadN C X0 1 rfl d6_0 rfl rfl ?_
  refine go_alen C X0 A1 (z := (bs.length.toInt32)) (by rw [ia_len]) (pc' := 2) rfl d6_1 ?_
  refine go_aloadN C X0 3 rfl d6_2 rfl rfl ?_
  refine go_alen C X0 A2 (z := (6 : Int32)) rfl (pc' := 4) rfl d6_3 ?_
  refine go_icmp_ne C X0 d6_4 (pc' := 7) (pc2 := 34) rfl (by decide) (by decide) (fun (c4 : ¬ (bs.length.toInt32) = (6 : Int32)) => ?_) (fun (c4 : (bs.length.toInt32) = (6 : Int32)) => ?_)
  · refine go_iconst C X0 35 rfl d6_34 (z := 0) rfl ?_
    exact go_retN C X0 (by simp) (z' := 0) rfl d6_35 ⟨by unfold own_eqb; rw [if_neg (fun q => c4 (by subst q; rfl))], rfl⟩ (by decide) (by decide)
  · have hlen : bs.length = 6 := by have e : (Int32.ofNat bs.length).toInt = (bs.length : Int) := Int32.toInt_ofNat_of_lt hl31; have e2 := congrArg Int32.toInt c4; have e3 : bs.length.toInt32.toInt = (Int32.ofNat bs.length).toInt := rfl; have z : (6 : Int32).toInt = 6 := rfl; omega
    refine go_iconst C X0 8 rfl d6_7 (z := 0) rfl ?_
    refine go_istoreN C X0 9 rfl d6_8 #[rv vb, rv lb, iv (0 : Int32)] rfl ?_
    refine go_iloadN C X0 10 rfl d6_9 rfl ?_
    refine go_aloadN C X0 11 rfl d6_10 rfl rfl ?_
    refine go_alen C X0 A1 (z := (6 : Int32)) (by rw [ia_len]; exact c4) (pc' := 12) rfl d6_11 ?_
    refine go_icmp_ge C X0 d6_12 (pc' := 15) (pc2 := 32) rfl (by decide) (by decide) (fun (c12_0 : 6 ≤ 0) => False.elim (by first | omega | exact absurd c12_0 (by decide))) (fun (c12_0 : 0 < 6) => ?_)
    refine go_aloadN C X0 16 rfl d6_15 rfl rfl ?_
    refine go_iloadN C X0 17 rfl d6_16 rfl ?_
    refine go_baloadBytes C X0 A1 (by decide) (v := (.int (at32 bs (0 : Int32)))) (ia_at (by decide) (by rw [hlen]; decide)) (pc' := 18) rfl d6_17 ?_
    refine go_aloadN C X0 19 rfl d6_18 rfl rfl ?_
    refine go_iloadN C X0 20 rfl d6_19 rfl ?_
    refine go_baloadBytes C X0 A2 (by decide) (v := (.int (45 : Int32))) rfl (pc' := 21) rfl d6_20 ?_
    refine go_icmp_eq C X0 d6_21 (pc' := 24) (pc2 := 26) rfl (by decide) (by decide) (fun (c21_0 : (at32 bs (0 : Int32)) = (45 : Int32)) => ?_) (fun (c21_0 : ¬ (at32 bs (0 : Int32)) = (45 : Int32)) => ?_)
    · refine go_iinc C X0 29 rfl d6_26 rfl (z := 1) rfl #[rv vb, rv lb, iv (1 : Int32)] rfl ?_
      refine go_goto C X0 d6_29 (pc' := 9) (by decide) (by decide) ?_
      refine go_iloadN C X0 10 rfl d6_9 rfl ?_
      refine go_aloadN C X0 11 rfl d6_10 rfl rfl ?_
      refine go_alen C X0 A1 (z := (6 : Int32)) (by rw [ia_len]; exact c4) (pc' := 12) rfl d6_11 ?_
      refine go_icmp_ge C X0 d6_12 (pc' := 15) (pc2 := 32) rfl (by decide) (by decide) (fun (c12_1 : 6 ≤ 1) => False.elim (by first | omega | exact absurd c12_1 (by decide))) (fun (c12_1 : 1 < 6) => ?_)
      refine go_aloadN C X0 16 rfl d6_15 rfl rfl ?_
      refine go_iloadN C X0 17 rfl d6_16 rfl ?_
      refine go_baloadBytes C X0 A1 (by decide) (v := (.int (at32 bs (1 : Int32)))) (ia_at (by decide) (by rw [hlen]; decide)) (pc' := 18) rfl d6_17 ?_
      refine go_aloadN C X0 19 rfl d6_18 rfl rfl ?_
      refine go_iloadN C X0 20 rfl d6_19 rfl ?_
      refine go_baloadBytes C X0 A2 (by decide) (v := (.int (45 : Int32))) rfl (pc' := 21) rfl d6_20 ?_
      refine go_icmp_eq C X0 d6_21 (pc' := 24) (pc2 := 26) rfl (by decide) (by decide) (fun (c21_1 : (at32 bs (1 : Int32)) = (45 : Int32)) => ?_) (fun (c21_1 : ¬ (at32 bs (1 : Int32)) = (45 : Int32)) => ?_)
      · refine go_iinc C X0 29 rfl d6_26 rfl (z := 1) rfl #[rv vb, rv lb, iv (2 : Int32)] rfl ?_
        refine go_goto C X0 d6_29 (pc' := 9) (by decide) (by decide) ?_
        refine go_iloadN C X0 10 rfl d6_9 rfl ?_
        refine go_aloadN C X0 11 rfl d6_10 rfl rfl ?_
        refine go_alen C X0 A1 (z := (6 : Int32)) (by rw [ia_len]; exact c4) (pc' := 12) rfl d6_11 ?_
        refine go_icmp_ge C X0 d6_12 (pc' := 15) (pc2 := 32) rfl (by decide) (by decide) (fun (c12_2 : 6 ≤ 2) => False.elim (by first | omega | exact absurd c12_2 (by decide))) (fun (c12_2 : 2 < 6) => ?_)
        refine go_aloadN C X0 16 rfl d6_15 rfl rfl ?_
        refine go_iloadN C X0 17 rfl d6_16 rfl ?_
        refine go_baloadBytes C X0 A1 (by decide) (v := (.int (at32 bs (2 : Int32)))) (ia_at (by decide) (by rw [hlen]; decide)) (pc' := 18) rfl d6_17 ?_
        refine go_aloadN C X0 19 rfl d6_18 rfl rfl ?_
        refine go_iloadN C X0 20 rfl d6_19 rfl ?_
        refine go_baloadBytes C X0 A2 (by decide) (v := (.int (104 : Int32))) rfl (pc' := 21) rfl d6_20 ?_
        refine go_icmp_eq C X0 d6_21 (pc' := 24) (pc2 := 26) rfl (by decide) (by decide) (fun (c21_2 : (at32 bs (2 : Int32)) = (104 : Int32)) => ?_) (fun (c21_2 : ¬ (at32 bs (2 : Int32)) = (104 : Int32)) => ?_)
        · refine go_iinc C X0 29 rfl d6_26 rfl (z := 1) rfl #[rv vb, rv lb, iv (3 : Int32)] rfl ?_
          refine go_goto C X0 d6_29 (pc' := 9) (by decide) (by decide) ?_
          refine go_iloadN C X0 10 rfl d6_9 rfl ?_
          refine go_aloadN C X0 11 rfl d6_10 rfl rfl ?_
          refine go_alen C X0 A1 (z := (6 : Int32)) (by rw [ia_len]; exact c4) (pc' := 12) rfl d6_11 ?_
          refine go_icmp_ge C X0 d6_12 (pc' := 15) (pc2 := 32) rfl (by decide) (by decide) (fun (c12_3 : 6 ≤ 3) => False.elim (by first | omega | exact absurd c12_3 (by decide))) (fun (c12_3 : 3 < 6) => ?_)
          refine go_aloadN C X0 16 rfl d6_15 rfl rfl ?_
          refine go_iloadN C X0 17 rfl d6_16 rfl ?_
          refine go_baloadBytes C X0 A1 (by decide) (v := (.int (at32 bs (3 : Int32)))) (ia_at (by decide) (by rw [hlen]; decide)) (pc' := 18) rfl d6_17 ?_
          refine go_aloadN C X0 19 rfl d6_18 rfl rfl ?_
          refine go_iloadN C X0 20 rfl d6_19 rfl ?_
          refine go_baloadBytes C X0 A2 (by decide) (v := (.int (101 : Int32))) rfl (pc' := 21) rfl d6_20 ?_
          refine go_icmp_eq C X0 d6_21 (pc' := 24) (pc2 := 26) rfl (by decide) (by decide) (fun (c21_3 : (at32 bs (3 : Int32)) = (101 : Int32)) => ?_) (fun (c21_3 : ¬ (at32 bs (3 : Int32)) = (101 : Int32)) => ?_)
          · refine go_iinc C X0 29 rfl d6_26 rfl (z := 1) rfl #[rv vb, rv lb, iv (4 : Int32)] rfl ?_
            refine go_goto C X0 d6_29 (pc' := 9) (by decide) (by decide) ?_
            refine go_iloadN C X0 10 rfl d6_9 rfl ?_
            refine go_aloadN C X0 11 rfl d6_10 rfl rfl ?_
            refine go_alen C X0 A1 (z := (6 : Int32)) (by rw [ia_len]; exact c4) (pc' := 12) rfl d6_11 ?_
            refine go_icmp_ge C X0 d6_12 (pc' := 15) (pc2 := 32) rfl (by decide) (by decide) (fun (c12_4 : 6 ≤ 4) => False.elim (by first | omega | exact absurd c12_4 (by decide))) (fun (c12_4 : 4 < 6) => ?_)
            refine go_aloadN C X0 16 rfl d6_15 rfl rfl ?_
            refine go_iloadN C X0 17 rfl d6_16 rfl ?_
            refine go_baloadBytes C X0 A1 (by decide) (v := (.int (at32 bs (4 : Int32)))) (ia_at (by decide) (by rw [hlen]; decide)) (pc' := 18) rfl d6_17 ?_
            refine go_aloadN C X0 19 rfl d6_18 rfl rfl ?_
            refine go_iloadN C X0 20 rfl d6_19 rfl ?_
            refine go_baloadBytes C X0 A2 (by decide) (v := (.int (108 : Int32))) rfl (pc' := 21) rfl d6_20 ?_
            refine go_icmp_eq C X0 d6_21 (pc' := 24) (pc2 := 26) rfl (by decide) (by decide) (fun (c21_4 : (at32 bs (4 : Int32)) = (108 : Int32)) => ?_) (fun (c21_4 : ¬ (at32 bs (4 : Int32)) = (108 : Int32)) => ?_)
            · refine go_iinc C X0 29 rfl d6_26 rfl (z := 1) rfl #[rv vb, rv lb, iv (5 : Int32)] rfl ?_
              refine go_goto C X0 d6_29 (pc' := 9) (by decide) (by decide) ?_
              refine go_iloadN C X0 10 rfl d6_9 rfl ?_
              refine go_aloadN C X0 11 rfl d6_10 rfl rfl ?_
              refine go_alen C X0 A1 (z := (6 : Int32)) (by rw [ia_len]; exact c4) (pc' := 12) rfl d6_11 ?_
              refine go_icmp_ge C X0 d6_12 (pc' := 15) (pc2 := 32) rfl (by decide) (by decide) (fun (c12_5 : 6 ≤ 5) => False.elim (by first | omega | exact absurd c12_5 (by decide))) (fun (c12_5 : 5 < 6) => ?_)
              refine go_aloadN C X0 16 rfl d6_15 rfl rfl ?_
              refine go_iloadN C X0 17 rfl d6_16 rfl ?_
              refine go_baloadBytes C X0 A1 (by decide) (v := (.int (at32 bs (5 : Int32)))) (ia_at (by decide) (by rw [hlen]; decide)) (pc' := 18) rfl d6_17 ?_
              refine go_aloadN C X0 19 rfl d6_18 rfl rfl ?_
              refine go_iloadN C X0 20 rfl d6_19 rfl ?_
              refine go_baloadBytes C X0 A2 (by decide) (v := (.int (112 : Int32))) rfl (pc' := 21) rfl d6_20 ?_
              refine go_icmp_eq C X0 d6_21 (pc' := 24) (pc2 := 26) rfl (by decide) (by decide) (fun (c21_5 : (at32 bs (5 : Int32)) = (112 : Int32)) => ?_) (fun (c21_5 : ¬ (at32 bs (5 : Int32)) = (112 : Int32)) => ?_)
              · refine go_iinc C X0 29 rfl d6_26 rfl (z := 1) rfl #[rv vb, rv lb, iv (6 : Int32)] rfl ?_
                refine go_goto C X0 d6_29 (pc' := 9) (by decide) (by decide) ?_
                refine go_iloadN C X0 10 rfl d6_9 rfl ?_
                refine go_aloadN C X0 11 rfl d6_10 rfl rfl ?_
                refine go_alen C X0 A1 (z := (6 : Int32)) (by rw [ia_len]; exact c4) (pc' := 12) rfl d6_11 ?_
                refine go_icmp_ge C X0 d6_12 (pc' := 15) (pc2 := 32) rfl (by decide) (by decide) (fun (c12_6 : 6 ≤ 6) => ?_) (fun (c12_6 : 6 < 6) => False.elim (by first | omega | exact absurd c12_6 (by decide)))
                refine go_iconst C X0 33 rfl d6_32 (z := 1) rfl ?_
                exact go_retN C X0 (by simp) (z' := 1) rfl d6_33 ⟨by unfold own_eqb; rw [if_pos (own_all6 hlen c21_0 c21_1 c21_2 c21_3 c21_4 c21_5)], rfl⟩ (by decide) (by decide)
              · refine go_iconst C X0 25 rfl d6_24 (z := 0) rfl ?_
                exact go_retN C X0 (by simp) (z' := 0) rfl d6_25 ⟨by unfold own_eqb; rw [if_neg (fun q => c21_5 (by subst q; rfl))], rfl⟩ (by decide) (by decide)
            · refine go_iconst C X0 25 rfl d6_24 (z := 0) rfl ?_
              exact go_retN C X0 (by simp) (z' := 0) rfl d6_25 ⟨by unfold own_eqb; rw [if_neg (fun q => c21_4 (by subst q; rfl))], rfl⟩ (by decide) (by decide)
          · refine go_iconst C X0 25 rfl d6_24 (z := 0) rfl ?_
            exact go_retN C X0 (by simp) (z' := 0) rfl d6_25 ⟨by unfold own_eqb; rw [if_neg (fun q => c21_3 (by subst q; rfl))], rfl⟩ (by decide) (by decide)
        · refine go_iconst C X0 25 rfl d6_24 (z := 0) rfl ?_
          exact go_retN C X0 (by simp) (z' := 0) rfl d6_25 ⟨by unfold own_eqb; rw [if_neg (fun q => c21_2 (by subst q; rfl))], rfl⟩ (by decide) (by decide)
      · refine go_iconst C X0 25 rfl d6_24 (z := 0) rfl ?_
        exact go_retN C X0 (by simp) (z' := 0) rfl d6_25 ⟨by unfold own_eqb; rw [if_neg (fun q => c21_1 (by subst q; rfl))], rfl⟩ (by decide) (by decide)
    · refine go_iconst C X0 25 rfl d6_24 (z := 0) rfl ?_
      exact go_retN C X0 (by simp) (z' := 0) rfl d6_25 ⟨by unfold own_eqb; rw [if_neg (fun q => c21_0 (by subst q; rfl))], rfl⟩ (by decide) (by decide)
theorem own_ref6 {Z : State} {h : Heap} {sa la vb lb : Addr} {bs : List Int32} (c : (Value.ref sa) = .ref la) (F : Fld Z h sa "java/lang/String" "value" "[B" (.ref vb)) (G : Fld Z h la "java/lang/String" "value" "[B" (.ref lb)) (A : La Z h vb .byte (ia bs)) (B : La Z h lb .byte [(.int (45 : Int32)), (.int (45 : Int32)), (.int (104 : Int32)), (.int (101 : Int32)), (.int (108 : Int32)), (.int (112 : Int32))]) : bs = [45, 45, 104, 101, 108, 112] := by
  have e : sa = la := Value.ref.inj c
  subst e
  have e2 : vb = lb := Classical.byContradiction fun q => Fld.ne F G (fun r => q (Value.ref.inj r)) rfl
  subst e2
  have e3 := la_uni A B
  have e4 : ia bs = ia [45, 45, 104, 101, 108, 112] := e3
  have e5 := congrArg (List.map (fun v => match v with | Value.int z => z | _ => 0)) e4
  simpa [ia, Function.comp_def] using e5
theorem d5_0 : decode jdk_42_method_66_code 0 = .ok (.aload_n 0, 1) := by decide +kernel
theorem d5_1 : decode jdk_42_method_66_code 1 = .ok (.aload_n 1, 1) := by decide +kernel
theorem d5_2 : decode jdk_42_method_66_code 2 = .ok (.if_acmp .ne 5, 3) := by decide +kernel
theorem d5_7 : decode jdk_42_method_66_code 7 = .ok (.aload_n 1, 1) := by decide +kernel
theorem d5_8 : decode jdk_42_method_66_code 8 = .ok (.instanceof 10, 3) := by decide +kernel
theorem d5_11 : decode jdk_42_method_66_code 11 = .ok (.ifCond .eq 43, 3) := by decide +kernel
theorem d5_14 : decode jdk_42_method_66_code 14 = .ok (.aload_n 1, 1) := by decide +kernel
theorem d5_15 : decode jdk_42_method_66_code 15 = .ok (.checkcast 10, 3) := by decide +kernel
theorem d5_18 : decode jdk_42_method_66_code 18 = .ok (.astore_n 2, 1) := by decide +kernel
theorem d5_19 : decode jdk_42_method_66_code 19 = .ok (.getstatic 38, 3) := by decide +kernel
theorem d5_22 : decode jdk_42_method_66_code 22 = .ok (.ifCond .eq 14, 3) := by decide +kernel
theorem d5_25 : decode jdk_42_method_66_code 25 = .ok (.aload_n 0, 1) := by decide +kernel
theorem d5_26 : decode jdk_42_method_66_code 26 = .ok (.getfield 15, 3) := by decide +kernel
theorem d5_29 : decode jdk_42_method_66_code 29 = .ok (.aload_n 2, 1) := by decide +kernel
theorem d5_30 : decode jdk_42_method_66_code 30 = .ok (.getfield 15, 3) := by decide +kernel
theorem d5_33 : decode jdk_42_method_66_code 33 = .ok (.if_icmp .ne 21, 3) := by decide +kernel
theorem d5_36 : decode jdk_42_method_66_code 36 = .ok (.aload_n 0, 1) := by decide +kernel
theorem d5_37 : decode jdk_42_method_66_code 37 = .ok (.getfield 9, 3) := by decide +kernel
theorem d5_40 : decode jdk_42_method_66_code 40 = .ok (.aload_n 2, 1) := by decide +kernel
theorem d5_41 : decode jdk_42_method_66_code 41 = .ok (.getfield 9, 3) := by decide +kernel
theorem pd_9 : parseMethodDescriptor "([B[B)Z" = some ⟨[(.array .byte), (.array .byte)], some .boolean⟩ := by decide +kernel
theorem d5_44 : decode jdk_42_method_66_code 44 = .ok (.invokestatic 541, 3) := by decide +kernel
theorem d5_47 : decode jdk_42_method_66_code 47 = .ok (.ifCond .eq 7, 3) := by decide +kernel
theorem d5_54 : decode jdk_42_method_66_code 54 = .ok (.iconst 0, 1) := by decide +kernel
theorem d5_55 : decode jdk_42_method_66_code 55 = .ok (.ireturn, 1) := by decide +kernel
theorem d5_50 : decode jdk_42_method_66_code 50 = .ok (.iconst 1, 1) := by decide +kernel
theorem d5_51 : decode jdk_42_method_66_code 51 = .ok (.goto 4, 3) := by decide +kernel
theorem d5_5 : decode jdk_42_method_66_code 5 = .ok (.iconst 1, 1) := by decide +kernel
theorem d5_6 : decode jdk_42_method_66_code 6 = .ok (.ireturn, 1) := by decide +kernel
theorem ef_own_eq6 (m : MethodId) (sa : Addr) (la : Addr)  : entryFrame m #[(.ref sa), (.ref la)] 3 = mkF m 0 #[rv sa, rv la, un] [] := by
  first | (simp [entryFrame, mkF, argsToLocals, Value.category]; done) | rfl
set_option maxRecDepth 65536 in
set_option maxHeartbeats 40000000 in
theorem own_eq6 (l : Launch) (Z : State) (a0 : Array Value) (hw : ∀ d ∈ tables_1, d.before a0 Z = true) (sa : Addr) (la : Addr) (vb lb : Addr) (bs : List Int32) (cs : Int32) (fv : Value) (h : Heap) (n0 : Nat) (hn0 : Old Z n0 h) (E0 : Exa Z h sa "java/lang/String") (G1 : Fld Z h sa "java/lang/String" "coder" "B" (.int 0)) (G2 : Fld Z h sa "java/lang/String" "value" "[B" (.ref vb)) (A1 : La Z h vb .byte (ia bs)) (E1 : Exa Z h la "java/lang/String") (M1 : Fld Z h la "java/lang/String" "coder" "B" (.int 0)) (M2 : Fld Z h la "java/lang/String" "value" "[B" (.ref lb)) (A2 : La Z h lb .byte [(.int (45 : Int32)), (.int (45 : Int32)), (.int (104 : Int32)), (.int (101 : Int32)), (.int (108 : Int32)), (.int (112 : Int32))]) (hcs : ¬ cs = 0) (S1 : Sta Z Z.heap "java/lang/String" "COMPACT_STRINGS" "Z" (.int cs)) (hfv : fv.isRef = true) (S2 : Sta Z Z.heap "jdk/internal/util/Preconditions" "SIOOBE_FORMATTER" "Ljava/util/function/BiFunction;" fv) :
    Con l Z (⟨"java/lang/String", "equals", "(Ljava/lang/Object;)Z"⟩ : MethodName) jdk_42_method_66_code 3 (some .boolean) ({ frames := 1, cells := 0, slots := 0, locals := 14 } : Room) #[(.ref sa), (.ref la)] h n0 (fun v h' => v = some (.int (own_eqb bs [45, 45, 104, 101, 108, 112])) ∧ h = h') := by
  refine con_of hw (plainFor_of_name pn_java_lang_String) hn0 ?_
  intro p e s m below meth c T0 C X0
  refine Go.cast (congrArg T0.setTop (ef_own_eq6 m sa la)) ?_
  refine go_aloadN C X0 1 rfl d5_0 rfl rfl ?_
  refine go_aloadN C X0 2 rfl d5_1 rfl rfl ?_
  refine go_acmp_ne C X0 rfl rfl d5_2 (pc' := 5) (pc2 := 7) rfl (by decide) (by decide) (fun (c2 : ¬ ((.ref sa) : Value) = (.ref la)) => ?_) (fun (c2 : ((.ref sa) : Value) = (.ref la)) => ?_)
  · refine go_aloadN C X0 8 rfl d5_7 rfl rfl ?_
    refine go_inst C X0 (C.w 32 rfl) (Ins.self E1) (pc' := 11) rfl d5_8 (fun T1 X2 => ?_)
    refine go_if_eq C X2 d5_11 (pc' := 14) (pc2 := 54) rfl (by decide) (by decide) (fun (c11 : (1 : Int32) = (0 : Int32)) => False.elim (by first | omega | exact absurd c11 (by decide))) (fun (c11 : ¬ (1 : Int32) = (0 : Int32)) => ?_)
    refine go_aloadN C X2 15 rfl d5_14 rfl rfl ?_
    refine go_cast C X2 (C.w 32 rfl) (Ins.self E1) (pc' := 18) rfl d5_15 (fun T3 X4 => ?_)
    refine go_astoreN C X4 19 rfl d5_18 rfl #[rv sa, rv la, rv la] rfl ?_
    refine go_getS C X4 (C.w 33 rfl) (S1.ext X4.old.2) (pc' := 22) rfl d5_19 (fun T5 X6 => ?_)
    refine go_if_eq C X6 d5_22 (pc' := 25) (pc2 := 36) rfl (by decide) (by decide) (fun (c22 : cs = (0 : Int32)) => False.elim (hcs c22)) (fun (c22 : ¬ cs = (0 : Int32)) => ?_)
    refine go_aloadN C X6 26 rfl d5_25 rfl rfl ?_
    refine go_getF C X6 (C.w 21 rfl) Via.refl G1 (pc' := 29) rfl d5_26 (fun T7 X8 => ?_)
    refine go_aloadN C X8 30 rfl d5_29 rfl rfl ?_
    refine go_getF C X8 (C.w 21 rfl) Via.refl M1 (pc' := 33) rfl d5_30 (fun T9 X10 => ?_)
    refine go_icmp_ne C X10 d5_33 (pc' := 36) (pc2 := 54) rfl (by decide) (by decide) (fun (c33 : ¬ (0 : Int32) = (0 : Int32)) => False.elim (by first | omega | exact absurd c33 (by decide))) (fun (c33 : (0 : Int32) = (0 : Int32)) => ?_)
    refine go_aloadN C X10 37 rfl d5_36 rfl rfl ?_
    refine go_getF C X10 (C.w 20 rfl) Via.refl G2 (pc' := 40) rfl d5_37 (fun T11 X12 => ?_)
    refine go_aloadN C X12 41 rfl d5_40 rfl rfl ?_
    refine go_getF C X12 (C.w 20 rfl) Via.refl M2 (pc' := 44) rfl d5_41 (fun T13 X14 => ?_)
    refine go_callS C X14 (C.w 34 rfl) (C.w 35 rfl) (C.w 36 rfl) (C.w 37 rfl) (own_leq6 l Z a0 C.ws vb lb bs h n0 X14.old A1 A2) (argsL := [(.ref vb), (.ref lb)]) (rest := []) (lenOf pd_9 rfl) rfl (by decide) (by decide) (Nat.le_of_ble_eq_true rfl) (by decide) (by decide) rfl rfl (pc' := 47) rfl d5_44 ?_
    rintro T15 _ _ ⟨rfl, rfl⟩ X16
    show Go p e below _ (T15.setTop (mkF m 47 #[rv sa, rv la, rv la] [(.int (own_eqb bs [45, 45, 104, 101, 108, 112]))]))
    refine go_if_eq C X16 d5_47 (pc' := 50) (pc2 := 54) rfl (by decide) (by decide) (fun (c47 : (own_eqb bs [45, 45, 104, 101, 108, 112]) = (0 : Int32)) => ?_) (fun (c47 : ¬ (own_eqb bs [45, 45, 104, 101, 108, 112]) = (0 : Int32)) => ?_)
    · refine go_iconst C X16 55 rfl d5_54 (z := 0) rfl ?_
      exact go_retN C X16 (by simp) (z' := 0) rfl d5_55 ⟨by rw [c47], rfl⟩ (by decide) (by decide)
    · refine go_iconst C X16 51 rfl d5_50 (z := 1) rfl ?_
      refine go_goto C X16 d5_51 (pc' := 55) (by decide) (by decide) ?_
      exact go_retN C X16 (by simp) (z' := 1) rfl d5_55 ⟨by rw [own_eqb1 c47], rfl⟩ (by decide) (by decide)
  · refine go_iconst C X0 6 rfl d5_5 (z := 1) rfl ?_
    exact go_retN C X0 (by simp) (z' := 1) rfl d5_6 ⟨by unfold own_eqb; rw [if_pos (own_ref6 c2 G2 M2 A1 A2)], rfl⟩ (by decide) (by decide)
theorem ef_own_leq2 (m : MethodId) (vb : Addr) (lb : Addr)  : entryFrame m #[(.ref vb), (.ref lb)] 3 = mkF m 0 #[rv vb, rv lb, un] [] := by
  first | (simp [entryFrame, mkF, argsToLocals, Value.category]; done) | rfl
set_option maxRecDepth 65536 in
set_option maxHeartbeats 40000000 in
theorem own_leq2 (l : Launch) (Z : State) (a0 : Array Value) (hw : ∀ d ∈ tables_1, d.before a0 Z = true) (vb : Addr) (lb : Addr) (bs : List Int32) (h : Heap) (n0 : Nat) (hn0 : Old Z n0 h) (A1 : La Z h vb .byte (ia bs)) (A2 : La Z h lb .byte [(.int (45 : Int32)), (.int (104 : Int32))]) :
    Con l Z (⟨"java/lang/StringLatin1", "equals", "([B[B)Z"⟩ : MethodName) jdk_43_method_13_code 3 (some .boolean) ({ frames := 0, cells := 0, slots := 0, locals := 0 } : Room) #[(.ref vb), (.ref lb)] h n0 (fun v h' => v = some (.int (own_eqb bs [45, 104])) ∧ h = h') := by
  refine con_of hw (plainFor_of_name pn_java_lang_StringLatin1) hn0 ?_
  intro p e s m below meth c T0 C X0
  refine Go.cast (congrArg T0.setTop (ef_own_leq2 m vb lb)) ?_
  have hl31 := A1.len
  rw [ia_len] at hl31
  refine go_aloadN C X0 1 rfl d6_0 rfl rfl ?_
  refine go_alen C X0 A1 (z := (bs.length.toInt32)) (by rw [ia_len]) (pc' := 2) rfl d6_1 ?_
  refine go_aloadN C X0 3 rfl d6_2 rfl rfl ?_
  refine go_alen C X0 A2 (z := (2 : Int32)) rfl (pc' := 4) rfl d6_3 ?_
  refine go_icmp_ne C X0 d6_4 (pc' := 7) (pc2 := 34) rfl (by decide) (by decide) (fun (c4 : ¬ (bs.length.toInt32) = (2 : Int32)) => ?_) (fun (c4 : (bs.length.toInt32) = (2 : Int32)) => ?_)
  · refine go_iconst C X0 35 rfl d6_34 (z := 0) rfl ?_
    exact go_retN C X0 (by simp) (z' := 0) rfl d6_35 ⟨by unfold own_eqb; rw [if_neg (fun q => c4 (by subst q; rfl))], rfl⟩ (by decide) (by decide)
  · have hlen : bs.length = 2 := by have e : (Int32.ofNat bs.length).toInt = (bs.length : Int) := Int32.toInt_ofNat_of_lt hl31; have e2 := congrArg Int32.toInt c4; have e3 : bs.length.toInt32.toInt = (Int32.ofNat bs.length).toInt := rfl; have z : (2 : Int32).toInt = 2 := rfl; omega
    refine go_iconst C X0 8 rfl d6_7 (z := 0) rfl ?_
    refine go_istoreN C X0 9 rfl d6_8 #[rv vb, rv lb, iv (0 : Int32)] rfl ?_
    refine go_iloadN C X0 10 rfl d6_9 rfl ?_
    refine go_aloadN C X0 11 rfl d6_10 rfl rfl ?_
    refine go_alen C X0 A1 (z := (2 : Int32)) (by rw [ia_len]; exact c4) (pc' := 12) rfl d6_11 ?_
    refine go_icmp_ge C X0 d6_12 (pc' := 15) (pc2 := 32) rfl (by decide) (by decide) (fun (c12_0 : 2 ≤ 0) => False.elim (by first | omega | exact absurd c12_0 (by decide))) (fun (c12_0 : 0 < 2) => ?_)
    refine go_aloadN C X0 16 rfl d6_15 rfl rfl ?_
    refine go_iloadN C X0 17 rfl d6_16 rfl ?_
    refine go_baloadBytes C X0 A1 (by decide) (v := (.int (at32 bs (0 : Int32)))) (ia_at (by decide) (by rw [hlen]; decide)) (pc' := 18) rfl d6_17 ?_
    refine go_aloadN C X0 19 rfl d6_18 rfl rfl ?_
    refine go_iloadN C X0 20 rfl d6_19 rfl ?_
    refine go_baloadBytes C X0 A2 (by decide) (v := (.int (45 : Int32))) rfl (pc' := 21) rfl d6_20 ?_
    refine go_icmp_eq C X0 d6_21 (pc' := 24) (pc2 := 26) rfl (by decide) (by decide) (fun (c21_0 : (at32 bs (0 : Int32)) = (45 : Int32)) => ?_) (fun (c21_0 : ¬ (at32 bs (0 : Int32)) = (45 : Int32)) => ?_)
    · refine go_iinc C X0 29 rfl d6_26 rfl (z := 1) rfl #[rv vb, rv lb, iv (1 : Int32)] rfl ?_
      refine go_goto C X0 d6_29 (pc' := 9) (by decide) (by decide) ?_
      refine go_iloadN C X0 10 rfl d6_9 rfl ?_
      refine go_aloadN C X0 11 rfl d6_10 rfl rfl ?_
      refine go_alen C X0 A1 (z := (2 : Int32)) (by rw [ia_len]; exact c4) (pc' := 12) rfl d6_11 ?_
      refine go_icmp_ge C X0 d6_12 (pc' := 15) (pc2 := 32) rfl (by decide) (by decide) (fun (c12_1 : 2 ≤ 1) => False.elim (by first | omega | exact absurd c12_1 (by decide))) (fun (c12_1 : 1 < 2) => ?_)
      refine go_aloadN C X0 16 rfl d6_15 rfl rfl ?_
      refine go_iloadN C X0 17 rfl d6_16 rfl ?_
      refine go_baloadBytes C X0 A1 (by decide) (v := (.int (at32 bs (1 : Int32)))) (ia_at (by decide) (by rw [hlen]; decide)) (pc' := 18) rfl d6_17 ?_
      refine go_aloadN C X0 19 rfl d6_18 rfl rfl ?_
      refine go_iloadN C X0 20 rfl d6_19 rfl ?_
      refine go_baloadBytes C X0 A2 (by decide) (v := (.int (104 : Int32))) rfl (pc' := 21) rfl d6_20 ?_
      refine go_icmp_eq C X0 d6_21 (pc' := 24) (pc2 := 26) rfl (by decide) (by decide) (fun (c21_1 : (at32 bs (1 : Int32)) = (104 : Int32)) => ?_) (fun (c21_1 : ¬ (at32 bs (1 : Int32)) = (104 : Int32)) => ?_)
      · refine go_iinc C X0 29 rfl d6_26 rfl (z := 1) rfl #[rv vb, rv lb, iv (2 : Int32)] rfl ?_
        refine go_goto C X0 d6_29 (pc' := 9) (by decide) (by decide) ?_
        refine go_iloadN C X0 10 rfl d6_9 rfl ?_
        refine go_aloadN C X0 11 rfl d6_10 rfl rfl ?_
        refine go_alen C X0 A1 (z := (2 : Int32)) (by rw [ia_len]; exact c4) (pc' := 12) rfl d6_11 ?_
        refine go_icmp_ge C X0 d6_12 (pc' := 15) (pc2 := 32) rfl (by decide) (by decide) (fun (c12_2 : 2 ≤ 2) => ?_) (fun (c12_2 : 2 < 2) => False.elim (by first | omega | exact absurd c12_2 (by decide)))
        refine go_iconst C X0 33 rfl d6_32 (z := 1) rfl ?_
        exact go_retN C X0 (by simp) (z' := 1) rfl d6_33 ⟨by unfold own_eqb; rw [if_pos (own_all2 hlen c21_0 c21_1)], rfl⟩ (by decide) (by decide)
      · refine go_iconst C X0 25 rfl d6_24 (z := 0) rfl ?_
        exact go_retN C X0 (by simp) (z' := 0) rfl d6_25 ⟨by unfold own_eqb; rw [if_neg (fun q => c21_1 (by subst q; rfl))], rfl⟩ (by decide) (by decide)
    · refine go_iconst C X0 25 rfl d6_24 (z := 0) rfl ?_
      exact go_retN C X0 (by simp) (z' := 0) rfl d6_25 ⟨by unfold own_eqb; rw [if_neg (fun q => c21_0 (by subst q; rfl))], rfl⟩ (by decide) (by decide)
theorem own_ref2 {Z : State} {h : Heap} {sa la vb lb : Addr} {bs : List Int32} (c : (Value.ref sa) = .ref la) (F : Fld Z h sa "java/lang/String" "value" "[B" (.ref vb)) (G : Fld Z h la "java/lang/String" "value" "[B" (.ref lb)) (A : La Z h vb .byte (ia bs)) (B : La Z h lb .byte [(.int (45 : Int32)), (.int (104 : Int32))]) : bs = [45, 104] := by
  have e : sa = la := Value.ref.inj c
  subst e
  have e2 : vb = lb := Classical.byContradiction fun q => Fld.ne F G (fun r => q (Value.ref.inj r)) rfl
  subst e2
  have e3 := la_uni A B
  have e4 : ia bs = ia [45, 104] := e3
  have e5 := congrArg (List.map (fun v => match v with | Value.int z => z | _ => 0)) e4
  simpa [ia, Function.comp_def] using e5
theorem ef_own_eq2 (m : MethodId) (sa : Addr) (la : Addr)  : entryFrame m #[(.ref sa), (.ref la)] 3 = mkF m 0 #[rv sa, rv la, un] [] := by
  first | (simp [entryFrame, mkF, argsToLocals, Value.category]; done) | rfl
set_option maxRecDepth 65536 in
set_option maxHeartbeats 40000000 in
theorem own_eq2 (l : Launch) (Z : State) (a0 : Array Value) (hw : ∀ d ∈ tables_1, d.before a0 Z = true) (sa : Addr) (la : Addr) (vb lb : Addr) (bs : List Int32) (cs : Int32) (fv : Value) (h : Heap) (n0 : Nat) (hn0 : Old Z n0 h) (E0 : Exa Z h sa "java/lang/String") (G1 : Fld Z h sa "java/lang/String" "coder" "B" (.int 0)) (G2 : Fld Z h sa "java/lang/String" "value" "[B" (.ref vb)) (A1 : La Z h vb .byte (ia bs)) (E1 : Exa Z h la "java/lang/String") (M1 : Fld Z h la "java/lang/String" "coder" "B" (.int 0)) (M2 : Fld Z h la "java/lang/String" "value" "[B" (.ref lb)) (A2 : La Z h lb .byte [(.int (45 : Int32)), (.int (104 : Int32))]) (hcs : ¬ cs = 0) (S1 : Sta Z Z.heap "java/lang/String" "COMPACT_STRINGS" "Z" (.int cs)) (hfv : fv.isRef = true) (S2 : Sta Z Z.heap "jdk/internal/util/Preconditions" "SIOOBE_FORMATTER" "Ljava/util/function/BiFunction;" fv) :
    Con l Z (⟨"java/lang/String", "equals", "(Ljava/lang/Object;)Z"⟩ : MethodName) jdk_42_method_66_code 3 (some .boolean) ({ frames := 1, cells := 0, slots := 0, locals := 14 } : Room) #[(.ref sa), (.ref la)] h n0 (fun v h' => v = some (.int (own_eqb bs [45, 104])) ∧ h = h') := by
  refine con_of hw (plainFor_of_name pn_java_lang_String) hn0 ?_
  intro p e s m below meth c T0 C X0
  refine Go.cast (congrArg T0.setTop (ef_own_eq2 m sa la)) ?_
  refine go_aloadN C X0 1 rfl d5_0 rfl rfl ?_
  refine go_aloadN C X0 2 rfl d5_1 rfl rfl ?_
  refine go_acmp_ne C X0 rfl rfl d5_2 (pc' := 5) (pc2 := 7) rfl (by decide) (by decide) (fun (c2 : ¬ ((.ref sa) : Value) = (.ref la)) => ?_) (fun (c2 : ((.ref sa) : Value) = (.ref la)) => ?_)
  · refine go_aloadN C X0 8 rfl d5_7 rfl rfl ?_
    refine go_inst C X0 (C.w 32 rfl) (Ins.self E1) (pc' := 11) rfl d5_8 (fun T1 X2 => ?_)
    refine go_if_eq C X2 d5_11 (pc' := 14) (pc2 := 54) rfl (by decide) (by decide) (fun (c11 : (1 : Int32) = (0 : Int32)) => False.elim (by first | omega | exact absurd c11 (by decide))) (fun (c11 : ¬ (1 : Int32) = (0 : Int32)) => ?_)
    refine go_aloadN C X2 15 rfl d5_14 rfl rfl ?_
    refine go_cast C X2 (C.w 32 rfl) (Ins.self E1) (pc' := 18) rfl d5_15 (fun T3 X4 => ?_)
    refine go_astoreN C X4 19 rfl d5_18 rfl #[rv sa, rv la, rv la] rfl ?_
    refine go_getS C X4 (C.w 33 rfl) (S1.ext X4.old.2) (pc' := 22) rfl d5_19 (fun T5 X6 => ?_)
    refine go_if_eq C X6 d5_22 (pc' := 25) (pc2 := 36) rfl (by decide) (by decide) (fun (c22 : cs = (0 : Int32)) => False.elim (hcs c22)) (fun (c22 : ¬ cs = (0 : Int32)) => ?_)
    refine go_aloadN C X6 26 rfl d5_25 rfl rfl ?_
    refine go_getF C X6 (C.w 21 rfl) Via.refl G1 (pc' := 29) rfl d5_26 (fun T7 X8 => ?_)
    refine go_aloadN C X8 30 rfl d5_29 rfl rfl ?_
    refine go_getF C X8 (C.w 21 rfl) Via.refl M1 (pc' := 33) rfl d5_30 (fun T9 X10 => ?_)
    refine go_icmp_ne C X10 d5_33 (pc' := 36) (pc2 := 54) rfl (by decide) (by decide) (fun (c33 : ¬ (0 : Int32) = (0 : Int32)) => False.elim (by first | omega | exact absurd c33 (by decide))) (fun (c33 : (0 : Int32) = (0 : Int32)) => ?_)
    refine go_aloadN C X10 37 rfl d5_36 rfl rfl ?_
    refine go_getF C X10 (C.w 20 rfl) Via.refl G2 (pc' := 40) rfl d5_37 (fun T11 X12 => ?_)
    refine go_aloadN C X12 41 rfl d5_40 rfl rfl ?_
    refine go_getF C X12 (C.w 20 rfl) Via.refl M2 (pc' := 44) rfl d5_41 (fun T13 X14 => ?_)
    refine go_callS C X14 (C.w 34 rfl) (C.w 35 rfl) (C.w 36 rfl) (C.w 37 rfl) (own_leq2 l Z a0 C.ws vb lb bs h n0 X14.old A1 A2) (argsL := [(.ref vb), (.ref lb)]) (rest := []) (lenOf pd_9 rfl) rfl (by decide) (by decide) (Nat.le_of_ble_eq_true rfl) (by decide) (by decide) rfl rfl (pc' := 47) rfl d5_44 ?_
    rintro T15 _ _ ⟨rfl, rfl⟩ X16
    show Go p e below _ (T15.setTop (mkF m 47 #[rv sa, rv la, rv la] [(.int (own_eqb bs [45, 104]))]))
    refine go_if_eq C X16 d5_47 (pc' := 50) (pc2 := 54) rfl (by decide) (by decide) (fun (c47 : (own_eqb bs [45, 104]) = (0 : Int32)) => ?_) (fun (c47 : ¬ (own_eqb bs [45, 104]) = (0 : Int32)) => ?_)
    · refine go_iconst C X16 55 rfl d5_54 (z := 0) rfl ?_
      exact go_retN C X16 (by simp) (z' := 0) rfl d5_55 ⟨by rw [c47], rfl⟩ (by decide) (by decide)
    · refine go_iconst C X16 51 rfl d5_50 (z := 1) rfl ?_
      refine go_goto C X16 d5_51 (pc' := 55) (by decide) (by decide) ?_
      exact go_retN C X16 (by simp) (z' := 1) rfl d5_55 ⟨by rw [own_eqb1 c47], rfl⟩ (by decide) (by decide)
  · refine go_iconst C X0 6 rfl d5_5 (z := 1) rfl ?_
    exact go_retN C X0 (by simp) (z' := 1) rfl d5_6 ⟨by unfold own_eqb; rw [if_pos (own_ref2 c2 G2 M2 A1 A2)], rfl⟩ (by decide) (by decide)
theorem d4_0 : decode prog_2_method_3_code 0 = .ok (.aload_n 0, 1) := by decide +kernel
theorem d4_1 : decode prog_2_method_3_code 1 = .ok (.ldc 76, 2) := by decide +kernel
theorem pd_10 : parseMethodDescriptor "(Ljava/lang/Object;)Z" = some ⟨[(.object "java/lang/Object")], some .boolean⟩ := by decide +kernel
theorem d4_3 : decode prog_2_method_3_code 3 = .ok (.invokevirtual 78, 3) := by decide +kernel
theorem d4_6 : decode prog_2_method_3_code 6 = .ok (.ifCond .ne 12, 3) := by decide +kernel
theorem d4_18 : decode prog_2_method_3_code 18 = .ok (.iconst 1, 1) := by decide +kernel
theorem d4_19 : decode prog_2_method_3_code 19 = .ok (.goto 4, 3) := by decide +kernel
theorem d4_23 : decode prog_2_method_3_code 23 = .ok (.ireturn, 1) := by decide +kernel
theorem d4_9 : decode prog_2_method_3_code 9 = .ok (.aload_n 0, 1) := by decide +kernel
theorem d4_10 : decode prog_2_method_3_code 10 = .ok (.ldc 81, 2) := by decide +kernel
theorem d4_12 : decode prog_2_method_3_code 12 = .ok (.invokevirtual 78, 3) := by decide +kernel
theorem d4_15 : decode prog_2_method_3_code 15 = .ok (.ifCond .eq 7, 3) := by decide +kernel
theorem d4_22 : decode prog_2_method_3_code 22 = .ok (.iconst 0, 1) := by decide +kernel
theorem pn_com_example_bundlewalk_bundlewalk_Options : plainName "com/example/bundlewalk/bundlewalk/Options" = true := by first | (simp [plainName, overriddenIn]; done) | decide +kernel
theorem ef_own_help (m : MethodId) (sa : Addr)  : entryFrame m #[(.ref sa)] 1 = mkF m 0 #[rv sa] [] := by
  first | (simp [entryFrame, mkF, argsToLocals, Value.category]; done) | rfl
set_option maxRecDepth 65536 in
set_option maxHeartbeats 40000000 in
theorem own_help (l : Launch) (Z : State) (a0 : Array Value) (hw : ∀ d ∈ tables_1, d.before a0 Z = true) (sa : Addr) (vb : Addr) (bs : List Int32) (cs : Int32) (fv : Value) (h : Heap) (n0 : Nat) (hn0 : Old Z n0 h) (hEL : EW Z a0 consts_1) (E0 : Exa Z h sa "java/lang/String") (G1 : Fld Z h sa "java/lang/String" "coder" "B" (.int 0)) (G2 : Fld Z h sa "java/lang/String" "value" "[B" (.ref vb)) (A1 : La Z h vb .byte (ia bs)) (hcs : ¬ cs = 0) (S1 : Sta Z Z.heap "java/lang/String" "COMPACT_STRINGS" "Z" (.int cs)) (hfv : fv.isRef = true) (S2 : Sta Z Z.heap "jdk/internal/util/Preconditions" "SIOOBE_FORMATTER" "Ljava/util/function/BiFunction;" fv) :
    ConW l Z consts_1 (⟨"com/example/bundlewalk/bundlewalk/Options", "isHelp", "(Ljava/lang/String;)Z"⟩ : MethodName) prog_2_method_3_code 1 (some .boolean) ({ frames := 2, cells := 4, slots := 40, locals := 28 } : Room) #[(.ref sa)] h n0 (fun v h' => v = some (.int (own_hp bs)) ∧ Keep h h' []) := by
  refine conW_of hw (plainFor_of_name pn_com_example_bundlewalk_bundlewalk_Options) hn0 ?_
  intro p e sv0 s m below meth c T0 C WI0 X0
  refine Go.cast (congrArg T0.setTop (ef_own_help m sa)) ?_
  refine go_aloadN C X0 1 rfl d4_0 rfl rfl ?_
  refine go_ldcH C X0 WI0 hEL (C.w 26 rfl) (own_wS C.ws) (List.mem_of_getElem? (i := 0) rfl) (vs := [(.int (45 : Int32)), (.int (45 : Int32)), (.int (104 : Int32)), (.int (101 : Int32)), (.int (108 : Int32)), (.int (112 : Int32))]) (z := 6) (own_lit76) (by decide) (by decide) (q := 24) own_len76 (by decide) (by decide) (by decide) (pc' := 3) rfl d4_1 ?_
  intro s T1 h3 la lb C WI10 E4 E5 F6 F7 A8 SF9 SFT11 X2
  have E12 := E0.ext E4
  have F13 := G1.ext E4
  have F14 := G2.ext E4
  have A15 := A1.ext E4
  have K16 := (Keep.refl h []).ext E4
  refine go_virtual C X2 E12 (C.w 27 rfl) (C.w 28 rfl) (notFace_of_selects (args := #[]) (mvT C.hZ (C.w 30 rfl))) (C.w 30 rfl) (C.w 29 rfl) (C.w 3 rfl) (C.w 31 rfl) (own_eq6 l Z a0 C.ws sa la vb lb bs cs fv h3 n0 X2.old E12 F13 F14 A15 E5 F6 F7 A8 hcs S1 hfv S2) (argsL := [(.ref la)]) (rest := []) (lenOf pd_10 rfl) rfl (by decide) (by decide) (Nat.le_of_ble_eq_true rfl) (by decide) (by decide) rfl rfl (pc' := 6) rfl d4_3 ?_
  rintro T17 _ _ ⟨rfl, rfl⟩ X18
  show Go p e below _ (T17.setTop (mkF m 6 #[rv sa] [(.int (own_eqb bs [45, 45, 104, 101, 108, 112]))]))
  refine go_if_ne C X18 d4_6 (pc' := 9) (pc2 := 18) rfl (by decide) (by decide) (fun (c6 : ¬ (own_eqb bs [45, 45, 104, 101, 108, 112]) = (0 : Int32)) => ?_) (fun (c6 : (own_eqb bs [45, 45, 104, 101, 108, 112]) = (0 : Int32)) => ?_)
  · refine go_iconst C X18 19 rfl d4_18 (z := 1) rfl ?_
    refine go_goto C X18 d4_19 (pc' := 23) (by decide) (by decide) ?_
    exact go_retNW C X18 WI10 hEL (by simp) (z' := 1) rfl d4_23 ⟨by unfold own_hp; first | rw [if_neg c6] | rw [if_pos c6, if_neg c15] | rw [if_pos c6, if_pos c15], K16⟩ (by decide) (by decide)
  · refine go_aloadN C X18 10 rfl d4_9 rfl rfl ?_
    refine go_ldcH C X18 WI10 hEL (C.w 38 rfl) (own_wS C.ws) (List.mem_of_getElem? (i := 1) rfl) (vs := [(.int (45 : Int32)), (.int (104 : Int32))]) (z := 2) (own_lit81) (by decide) (by decide) (q := 8) own_len81 (by decide) (by decide) (by decide) (pc' := 12) rfl d4_10 ?_
    intro s T20 h22 lc ld C WI29 E23 E24 F25 F26 A27 SF28 SFT30 X21
    have E31 := E12.ext E23
    have F32 := F13.ext E23
    have F33 := F14.ext E23
    have A34 := A15.ext E23
    have E35 := E5.ext E23
    have F36 := F6.ext E23
    have F37 := F7.ext E23
    have A38 := A8.ext E23
    have K39 := K16.ext E23
    refine go_virtual C X21 E31 (C.w 27 rfl) (C.w 28 rfl) (notFace_of_selects (args := #[]) (mvT C.hZ (C.w 30 rfl))) (C.w 30 rfl) (C.w 29 rfl) (C.w 3 rfl) (C.w 31 rfl) (own_eq2 l Z a0 C.ws sa lc vb ld bs cs fv h22 n0 X21.old E31 F32 F33 A34 E24 F25 F26 A27 hcs S1 hfv S2) (argsL := [(.ref lc)]) (rest := []) (lenOf pd_10 rfl) rfl (by decide) (by decide) (Nat.le_of_ble_eq_true rfl) (by decide) (by decide) rfl rfl (pc' := 15) rfl d4_12 ?_
    rintro T40 _ _ ⟨rfl, rfl⟩ X41
    show Go p e below _ (T40.setTop (mkF m 15 #[rv sa] [(.int (own_eqb bs [45, 104]))]))
    refine go_if_eq C X41 d4_15 (pc' := 18) (pc2 := 22) rfl (by decide) (by decide) (fun (c15 : (own_eqb bs [45, 104]) = (0 : Int32)) => ?_) (fun (c15 : ¬ (own_eqb bs [45, 104]) = (0 : Int32)) => ?_)
    · refine go_iconst C X41 23 rfl d4_22 (z := 0) rfl ?_
      exact go_retNW C X41 WI29 hEL (by simp) (z' := 0) rfl d4_23 ⟨by unfold own_hp; first | rw [if_neg c6] | rw [if_pos c6, if_neg c15] | rw [if_pos c6, if_pos c15], K39⟩ (by decide) (by decide)
    · refine go_iconst C X41 19 rfl d4_18 (z := 1) rfl ?_
      refine go_goto C X41 d4_19 (pc' := 23) (by decide) (by decide) ?_
      exact go_retNW C X41 WI29 hEL (by simp) (z' := 1) rfl d4_23 ⟨by unfold own_hp; first | rw [if_neg c6] | rw [if_pos c6, if_neg c15] | rw [if_pos c6, if_pos c15], K39⟩ (by decide) (by decide)
theorem pd_11 : parseMethodDescriptor "([C)V" = some ⟨[(.array .char)], none⟩ := by decide +kernel
theorem pd_12 : parseMethodDescriptor "(Ljava/lang/String;)Z" = some ⟨[(.object "java/lang/String")], some .boolean⟩ := by decide +kernel
theorem pd_13 : parseMethodDescriptor "(IIJII)C" = some ⟨[.int, .int, .long, .int, .int], some .char⟩ := by decide +kernel
theorem ef_own_law (m : MethodId) (x1 : Int32) (raw : Int64) (x3 : Int32) (x4 : Int32)  : entryFrame m #[(.int x1), (.long raw), (.int x3), (.int x4)] maxLocals = mkF m 0 #[iv x1, jv raw, sc, iv x3, iv x4, un, un, un, un, un] [] := by
  first | (simp [entryFrame, mkF, argsToLocals, Value.category, maxLocals]; done) | rfl
set_option maxRecDepth 65536 in
set_option maxHeartbeats 40000000 in
theorem own_law (l : Launch) (Z : State) (a0 : Array Value) (hw : ∀ d ∈ tables_1, d.before a0 Z = true) (x1 : Int32) (raw : Int64) (x3 : Int32) (x4 : Int32) (cs : Int32) (fv : Value) (h : Heap) (n0 : Nat) (hn0 : Old Z n0 h) (hEL : EW Z a0 consts_1) (hcs : ¬ cs = 0) (S1 : Sta Z Z.heap "java/lang/String" "COMPACT_STRINGS" "Z" (.int cs)) (hfv : fv.isRef = true) (S2 : Sta Z Z.heap "jdk/internal/util/Preconditions" "SIOOBE_FORMATTER" "Ljava/util/function/BiFunction;" fv) :
    ConW l Z consts_1 x code maxLocals ret room_1 #[(.int x1), (.long raw), (.int x3), (.int x4)] h n0 (fun v h' => v = some (.int 1)) := by
  refine conW_of hw (plainFor_of_name pn_com_example_bundlewalk_bundlewalk_OptionsIsHelpPinLaw) hn0 ?_
  intro p e sv0 s m below meth c T0 C WI0 X0
  refine Go.cast (congrArg T0.setTop (ef_own_law m x1 raw x3 x4)) ?_
  refine go_iloadN C X0 1 rfl at_0 rfl ?_
  refine go_bipush C X0 3 rfl at_1 (z := 7) rfl ?_
  refine go_iand C X0 4 rfl at_3 ?_
  refine go_istore C X0 6 rfl at_4 #[iv x1, jv raw, sc, iv x3, iv x4, iv (x1 &&& (7 : Int32)), un, un, un, un] rfl ?_
  have hn : 0 ≤ (x1 &&& 7).toInt ∧ (x1 &&& 7).toInt ≤ (7 : Nat) := by have := c_mask x1 7 3 (by decide) (by decide); omega
  generalize e_n : (x1 &&& (7 : Int32)) = n at hn ⊢
  refine go_iloadN C X0 7 rfl at_6 rfl ?_
  refine go_iconst C X0 8 rfl at_7 (z := 3) rfl ?_
  refine go_iushr C X0 9 rfl at_8 ?_
  refine go_iconst C X0 10 rfl at_9 (z := 3) rfl ?_
  refine go_iand C X0 11 rfl at_10 ?_
  refine go_istore C X0 13 rfl at_11 #[iv x1, jv raw, sc, iv x3, iv x4, iv n, iv (((x1.toUInt32 >>> ((3 : Int32) &&& 31).toUInt32).toInt32) &&& (3 : Int32)), un, un, un] rfl ?_
  generalize e_kd : (((x1.toUInt32 >>> ((3 : Int32) &&& 31).toUInt32).toInt32) &&& (3 : Int32)) = kd
  refine go_iloadN C X0 14 rfl at_13 rfl ?_
  refine go_bipush C X0 16 rfl at_14 (z := 15) rfl ?_
  refine go_iand C X0 17 rfl at_16 ?_
  refine go_istore C X0 19 rfl at_17 #[iv x1, jv raw, sc, iv x3, iv x4, iv n, iv kd, iv (x3 &&& (15 : Int32)), un, un] rfl ?_
  generalize e_pp : (x3 &&& (15 : Int32)) = pp
  refine go_iload C X0 21 rfl at_19 rfl ?_
  refine go_newarr C X0 (C.w 0 rfl) (cap := 7) hn.1 hn.2 (by decide) (by decide) (by decide) (pc' := 23) rfl at_21 (fun T1 h3 cb ha_cb ga_cb E4 A5  X2 => ?_)
  have WI6 := WI0.ext E4
  replace A5 : La Z h3 cb .char (List.replicate n.toNatClampNeg (.int 0)) := A5
  rw [own_irep] at A5
  have hX0 := own_ok_rep hn.1
  obtain ⟨xs0, exs0⟩ : ∃ z : List Int32, z = List.replicate n.toNatClampNeg 0 := ⟨_, rfl⟩
  rw [← exs0] at A5 hX0
  refine go_astore C X2 25 rfl at_23 rfl #[iv x1, jv raw, sc, iv x3, iv x4, iv n, iv kd, iv pp, rv cb, un] rfl ?_
  have J7 : ∀  (s : State) (C : Cx p s m meth c Z a0 x.cls code maxLocals ret x.name) (T8 : State) (h10 : Heap) (X9 : St Z p l e room_1 s m #[(.int x1), (.long raw), (.int x3), (.int x4)] below meth c n0 T8 h10 (0 + 1 + 2) (0 + 7 + 28)) (xs1 : List Int32) (hX1 : own_ok n xs1) (A11 : La Z h10 cb .char (ia xs1)) (WI12 : Wi Z consts_1 sv0 s h10), Go p e below (FinW Z consts_1 sv0 room_1.cells room_1.slots n0 (fun v h' => v = some (.int 1))) (T8.setTop (mkF m 45 #[iv x1, jv raw, sc, iv x3, iv x4, iv n, iv kd, iv pp, rv cb, un] [])) := by
    intro  s C T8 h10 X9 xs1 hX1  A11 WI12
    have J13 : ∀  (s : State) (C : Cx p s m meth c Z a0 x.cls code maxLocals ret x.name) (T14 : State) (h16 : Heap) (X15 : St Z p l e room_1 s m #[(.int x1), (.long raw), (.int x3), (.int x4)] below meth c n0 T14 h16 (0 + 1 + 2 + 2) (0 + 7 + 28 + 28)) (xs2 : List Int32) (hX2 : own_ok n xs2) (A17 : La Z h16 cb .char (ia xs2)) (WI18 : Wi Z consts_1 sv0 s h16), Go p e below (FinW Z consts_1 sv0 room_1.cells room_1.slots n0 (fun v h' => v = some (.int 1))) (T14.setTop (mkF m 66 #[iv x1, jv raw, sc, iv x3, iv x4, iv n, iv kd, iv pp, rv cb, un] [])) := by
      intro  s C T14 h16 X15 xs2 hX2  A17 WI18
      have J19 : ∀  (s : State) (C : Cx p s m meth c Z a0 x.cls code maxLocals ret x.name) (T20 : State) (h22 : Heap) (X21 : St Z p l e room_1 s m #[(.int x1), (.long raw), (.int x3), (.int x4)] below meth c n0 T20 h22 (0 + 1 + 2 + 2 + 2) (0 + 7 + 28 + 28 + 28)) (xs3 : List Int32) (hX3 : own_ok n xs3) (A23 : La Z h22 cb .char (ia xs3)) (WI24 : Wi Z consts_1 sv0 s h22), Go p e below (FinW Z consts_1 sv0 room_1.cells room_1.slots n0 (fun v h' => v = some (.int 1))) (T20.setTop (mkF m 87 #[iv x1, jv raw, sc, iv x3, iv x4, iv n, iv kd, iv pp, rv cb, un] [])) := by
        intro  s C T20 h22 X21 xs3 hX3  A23 WI24
        have J25 : ∀  (s : State) (C : Cx p s m meth c Z a0 x.cls code maxLocals ret x.name) (T26 : State) (h28 : Heap) (X27 : St Z p l e room_1 s m #[(.int x1), (.long raw), (.int x3), (.int x4)] below meth c n0 T26 h28 (0 + 1 + 2 + 2 + 2 + 2) (0 + 7 + 28 + 28 + 28 + 28)) (xs4 : List Int32) (hX4 : own_ok n xs4) (A29 : La Z h28 cb .char (ia xs4)) (WI30 : Wi Z consts_1 sv0 s h28), Go p e below (FinW Z consts_1 sv0 room_1.cells room_1.slots n0 (fun v h' => v = some (.int 1))) (T26.setTop (mkF m 108 #[iv x1, jv raw, sc, iv x3, iv x4, iv n, iv kd, iv pp, rv cb, un] [])) := by
          intro  s C T26 h28 X27 xs4 hX4  A29 WI30
          have J31 : ∀  (s : State) (C : Cx p s m meth c Z a0 x.cls code maxLocals ret x.name) (T32 : State) (h34 : Heap) (X33 : St Z p l e room_1 s m #[(.int x1), (.long raw), (.int x3), (.int x4)] below meth c n0 T32 h34 (0 + 1 + 2 + 2 + 2 + 2 + 2) (0 + 7 + 28 + 28 + 28 + 28 + 28)) (xs5 : List Int32) (hX5 : own_ok n xs5) (A35 : La Z h34 cb .char (ia xs5)) (WI36 : Wi Z consts_1 sv0 s h34), Go p e below (FinW Z consts_1 sv0 room_1.cells room_1.slots n0 (fun v h' => v = some (.int 1))) (T32.setTop (mkF m 129 #[iv x1, jv raw, sc, iv x3, iv x4, iv n, iv kd, iv pp, rv cb, un] [])) := by
            intro  s C T32 h34 X33 xs5 hX5  A35 WI36
            have J37 : ∀  (s : State) (C : Cx p s m meth c Z a0 x.cls code maxLocals ret x.name) (T38 : State) (h40 : Heap) (X39 : St Z p l e room_1 s m #[(.int x1), (.long raw), (.int x3), (.int x4)] below meth c n0 T38 h40 (0 + 1 + 2 + 2 + 2 + 2 + 2 + 2) (0 + 7 + 28 + 28 + 28 + 28 + 28 + 28)) (xs6 : List Int32) (hX6 : own_ok n xs6) (A41 : La Z h40 cb .char (ia xs6)) (WI42 : Wi Z consts_1 sv0 s h40), Go p e below (FinW Z consts_1 sv0 room_1.cells room_1.slots n0 (fun v h' => v = some (.int 1))) (T38.setTop (mkF m 150 #[iv x1, jv raw, sc, iv x3, iv x4, iv n, iv kd, iv pp, rv cb, un] [])) := by
              intro  s C T38 h40 X39 xs6 hX6  A41 WI42
              have J43 : ∀  (s : State) (C : Cx p s m meth c Z a0 x.cls code maxLocals ret x.name) (T44 : State) (h46 : Heap) (X45 : St Z p l e room_1 s m #[(.int x1), (.long raw), (.int x3), (.int x4)] below meth c n0 T44 h46 (0 + 1 + 2 + 2 + 2 + 2 + 2 + 2) (0 + 7 + 28 + 28 + 28 + 28 + 28 + 28)) (xs7 : List Int32) (hX7 : own_ok n xs7) (A47 : La Z h46 cb .char (ia xs7)) (WI48 : Wi Z consts_1 sv0 s h46), Go p e below (FinW Z consts_1 sv0 room_1.cells room_1.slots n0 (fun v h' => v = some (.int 1))) (T44.setTop (mkF m 174 #[iv x1, jv raw, sc, iv x3, iv x4, iv n, iv kd, iv pp, rv cb, un] [])) := by
                intro  s C T44 h46 X45 xs7 hX7  A47 WI48
                refine go_iconst C X45 175 rfl at_174 (z := 0) rfl ?_
                refine go_istore C X45 177 rfl at_175 #[iv x1, jv raw, sc, iv x3, iv x4, iv n, iv kd, iv pp, rv cb, iv (0 : Int32)] rfl ?_
                have J49 : ∀ (ex : Int32) (_ : ex = own_ex6 n xs7), Go p e below (FinW Z consts_1 sv0 room_1.cells room_1.slots n0 (fun v h' => v = some (.int 1))) (T44.setTop (mkF m 245 #[iv x1, jv raw, sc, iv x3, iv x4, iv n, iv kd, iv pp, rv cb, iv ex] [])) := by
                  intro ex hex
                  have J50 : ∀ (ex2 : Int32) (_ : ex2 = own_ex n xs7), Go p e below (FinW Z consts_1 sv0 room_1.cells room_1.slots n0 (fun v h' => v = some (.int 1))) (T44.setTop (mkF m 276 #[iv x1, jv raw, sc, iv x3, iv x4, iv n, iv kd, iv pp, rv cb, iv ex2] [])) := by
                    intro ex2 hex2
                    by_cases nz : n = 0
                    · have xz : xs7 = [] := List.length_eq_zero_iff.mp (by have := hX7.1; have e : n.toInt = 0 := (by rw [nz]; rfl); omega)
                      refine go_new C X45 (C.w 1 rfl) (C.w 2 rfl) (C.w 3 rfl) (by decide) (by decide) (pc' := 279) rfl at_276 (fun T51 h53 sa ha_sa ga_sa E54 E55 D56 X52 => ?_)
                      have ne_cb_sa : cb ≠ sa := Nat.ne_of_lt (Nat.lt_of_lt_of_le A47.lt (Nat.le_of_eq ha_sa.symm))
                      have WI57 := WI48.ext E54
                      have A58 := A47.ext E54
                      have F59 : Fld Z h53 sa "java/lang/String" "value" "[B" .null := D56 (Or.inr (C.w 16 rfl)) (ty := (.array .byte)) (by decide)
                      have F60 : Fld Z h53 sa "java/lang/String" "coder" "B" (.int (0 : Int32)) := D56 (Or.inr (C.w 17 rfl)) (ty := .byte) (by decide)
                      refine go_dup C X52 280 rfl at_279 rfl ?_
                      refine go_aload C X52 282 rfl at_280 rfl rfl ?_
                      refine go_specialW C X52 WI57 hEL (C.w 4 rfl) (C.w 5 rfl) (C.w 3 rfl) (C.w 6 rfl) rfl (own_i1z l Z a0 C.ws sa cb h53 n0 X52.old hEL E55 F60 F59 ga_sa (by rw [xz] at A58; exact A58) (Ne.symm ne_cb_sa)) (argsL := [(.ref cb)]) (rest := [(.ref sa)]) (lenOf pd_11 rfl) rfl (by decide) (by decide) (Nat.le_of_ble_eq_true rfl) (by decide) (by decide) rfl rfl (pc' := 285) rfl at_282 ?_
                      rintro s T61 h63 _ ⟨rfl, db, KK6, EE6, GG6, GG7, AA6⟩ C WI64 X62
                      show Go p e below _ (T61.setTop (mkF m 285 #[iv x1, jv raw, sc, iv x3, iv x4, iv n, iv kd, iv pp, rv cb, iv ex2] [(.ref sa)]))
                      have A65 := A58.keep KK6 (ninS ne_cb_sa nin0)
                      have E66 := E55.keep KK6
                      replace AA6 : La Z h63 db .byte (ia (xs7.map own_b)) := by rw [xz]; exact AA6
                      refine go_callSW C X62 WI64 hEL (C.w 22 rfl) (C.w 23 rfl) (C.w 24 rfl) (C.w 25 rfl) (own_help l Z a0 C.ws sa db (xs7.map own_b) cs fv h63 n0 X62.old hEL EE6 GG6 GG7 AA6 hcs S1 hfv S2) (argsL := [(.ref sa)]) (rest := []) (lenOf pd_12 rfl) rfl (by decide) (by decide) (Nat.le_of_ble_eq_true rfl) (by decide) (by decide) rfl rfl (pc' := 288) rfl at_285 ?_
                      rintro s T67 h69 _ ⟨rfl, Kh⟩ C WI70 X68
                      show Go p e below _ (T67.setTop (mkF m 288 #[iv x1, jv raw, sc, iv x3, iv x4, iv n, iv kd, iv pp, rv cb, iv ex2] [(.int (own_hp (xs7.map own_b)))]))
                      have A71 := A65.keep Kh nin0
                      have E72 := EE6.keep Kh
                      have F73 := GG6.keep Kh nin0
                      have F74 := GG7.keep Kh nin0
                      have A75 := AA6.keep Kh nin0
                      rw [own_fin hX7, ← hex2]
                      refine go_iload C X68 290 rfl at_288 rfl ?_
                      refine go_icmp_ne C X68 at_290 (pc' := 293) (pc2 := 297) rfl (by decide) (by decide) (fun (c290 : ¬ ex2 = ex2) => False.elim (by first | exact c290 rfl | omega)) (fun (c290 : ex2 = ex2) => ?_)
                      refine go_iconst C X68 294 rfl at_293 (z := 1) rfl ?_
                      refine go_goto C X68 at_294 (pc' := 298) (by decide) (by decide) ?_
                      exact go_retNW C X68 WI70 hEL (by simp) (z' := 1) rfl at_298 rfl (by decide) (by decide)
                    · refine go_new C X45 (C.w 1 rfl) (C.w 2 rfl) (C.w 3 rfl) (by decide) (by decide) (pc' := 279) rfl at_276 (fun T76 h78 sa ha_sa ga_sa E79 E80 D81 X77 => ?_)
                      have ne_cb_sa : cb ≠ sa := Nat.ne_of_lt (Nat.lt_of_lt_of_le A47.lt (Nat.le_of_eq ha_sa.symm))
                      have WI82 := WI48.ext E79
                      have A83 := A47.ext E79
                      have F84 : Fld Z h78 sa "java/lang/String" "value" "[B" .null := D81 (Or.inr (C.w 16 rfl)) (ty := (.array .byte)) (by decide)
                      have F85 : Fld Z h78 sa "java/lang/String" "coder" "B" (.int (0 : Int32)) := D81 (Or.inr (C.w 17 rfl)) (ty := .byte) (by decide)
                      refine go_dup C X77 280 rfl at_279 rfl ?_
                      refine go_aload C X77 282 rfl at_280 rfl rfl ?_
                      refine go_special C X77 (C.w 4 rfl) (C.w 5 rfl) (C.w 3 rfl) (C.w 6 rfl) rfl (own_i1 l Z a0 C.ws sa cb n xs7 cs fv h78 n0 X77.old E80 F85 F84 ga_sa A83 (Ne.symm ne_cb_sa) hX7 hn.2 nz hcs S1 hfv S2) (argsL := [(.ref cb)]) (rest := [(.ref sa)]) (lenOf pd_11 rfl) rfl (by decide) (by decide) (Nat.le_of_ble_eq_true rfl) (by decide) (by decide) rfl rfl (pc' := 285) rfl at_282 ?_
                      rintro T86 h88 _ ⟨rfl, db, KK6, EE6, GG6, GG7, AA6⟩ X87
                      show Go p e below _ (T86.setTop (mkF m 285 #[iv x1, jv raw, sc, iv x3, iv x4, iv n, iv kd, iv pp, rv cb, iv ex2] [(.ref sa)]))
                      have WI89 := WI82.keep KK6 (sfS (safeN C E80 F84) sf0)
                      have A90 := A83.keep KK6 (ninS ne_cb_sa nin0)
                      have E91 := E80.keep KK6
                      refine go_callSW C X87 WI89 hEL (C.w 22 rfl) (C.w 23 rfl) (C.w 24 rfl) (C.w 25 rfl) (own_help l Z a0 C.ws sa db (xs7.map own_b) cs fv h88 n0 X87.old hEL EE6 GG6 GG7 AA6 hcs S1 hfv S2) (argsL := [(.ref sa)]) (rest := []) (lenOf pd_12 rfl) rfl (by decide) (by decide) (Nat.le_of_ble_eq_true rfl) (by decide) (by decide) rfl rfl (pc' := 288) rfl at_285 ?_
                      rintro s T92 h94 _ ⟨rfl, Kh⟩ C WI95 X93
                      show Go p e below _ (T92.setTop (mkF m 288 #[iv x1, jv raw, sc, iv x3, iv x4, iv n, iv kd, iv pp, rv cb, iv ex2] [(.int (own_hp (xs7.map own_b)))]))
                      have A96 := A90.keep Kh nin0
                      have E97 := EE6.keep Kh
                      have F98 := GG6.keep Kh nin0
                      have F99 := GG7.keep Kh nin0
                      have A100 := AA6.keep Kh nin0
                      rw [own_fin hX7, ← hex2]
                      refine go_iload C X93 290 rfl at_288 rfl ?_
                      refine go_icmp_ne C X93 at_290 (pc' := 293) (pc2 := 297) rfl (by decide) (by decide) (fun (c290 : ¬ ex2 = ex2) => False.elim (by first | exact c290 rfl | omega)) (fun (c290 : ex2 = ex2) => ?_)
                      refine go_iconst C X93 294 rfl at_293 (z := 1) rfl ?_
                      refine go_goto C X93 at_294 (pc' := 298) (by decide) (by decide) ?_
                      exact go_retNW C X93 WI95 hEL (by simp) (z' := 1) rfl at_298 rfl (by decide) (by decide)
                  refine go_iload C X45 247 rfl at_245 rfl ?_
                  refine go_iconst C X45 248 rfl at_247 (z := 2) rfl ?_
                  refine go_icmp_ne C X45 at_248 (pc' := 251) (pc2 := 276) rfl (by decide) (by decide) (fun (c248 : ¬ n = (2 : Int32)) => ?_) (fun (c248 : n = (2 : Int32)) => ?_)
                  · exact J50 ex (by unfold own_ex; first | (rw [if_pos c248]; exact (if_pos ⟨c257, c266⟩).symm) | (rw [if_neg c248]; exact hex) | (rw [if_pos c248]; exact (if_neg (fun q => c257 q.1)).symm) | (rw [if_pos c248]; exact (if_neg (fun q => c266 q.2)).symm))
                  · have en : n.toInt = 2 := by rw [c248]; rfl
                    refine go_aload C X45 253 rfl at_251 rfl rfl ?_
                    refine go_iconst C X45 254 rfl at_253 (z := 0) rfl ?_
                    refine go_caload C X45 A47 (by decide) (v := (.int (at32 xs7 (0 : Int32)))) (ia_at (by decide) (by have := hX7.1; have z : (0 : Int32).toInt = 0 := rfl; omega)) (pc' := 255) rfl at_254 ?_
                    refine go_bipush C X45 257 rfl at_255 (z := 45) rfl ?_
                    refine go_icmp_ne C X45 at_257 (pc' := 260) (pc2 := 273) rfl (by decide) (by decide) (fun (c257 : ¬ (at32 xs7 (0 : Int32)) = (45 : Int32)) => ?_) (fun (c257 : (at32 xs7 (0 : Int32)) = (45 : Int32)) => ?_)
                    · refine go_iconst C X45 274 rfl at_273 (z := 0) rfl ?_
                      refine go_istore C X45 276 rfl at_274 #[iv x1, jv raw, sc, iv x3, iv x4, iv n, iv kd, iv pp, rv cb, iv (0 : Int32)] rfl ?_
                      exact J50 (0 : Int32) (by unfold own_ex; first | (rw [if_pos c248]; exact (if_pos ⟨c257, c266⟩).symm) | (rw [if_neg c248]; exact hex) | (rw [if_pos c248]; exact (if_neg (fun q => c257 q.1)).symm) | (rw [if_pos c248]; exact (if_neg (fun q => c266 q.2)).symm))
                    · refine go_aload C X45 262 rfl at_260 rfl rfl ?_
                      refine go_iconst C X45 263 rfl at_262 (z := 1) rfl ?_
                      refine go_caload C X45 A47 (by decide) (v := (.int (at32 xs7 (1 : Int32)))) (ia_at (by decide) (by have := hX7.1; have z : (1 : Int32).toInt = 1 := rfl; omega)) (pc' := 264) rfl at_263 ?_
                      refine go_bipush C X45 266 rfl at_264 (z := 104) rfl ?_
                      refine go_icmp_ne C X45 at_266 (pc' := 269) (pc2 := 273) rfl (by decide) (by decide) (fun (c266 : ¬ (at32 xs7 (1 : Int32)) = (104 : Int32)) => ?_) (fun (c266 : (at32 xs7 (1 : Int32)) = (104 : Int32)) => ?_)
                      · refine go_iconst C X45 274 rfl at_273 (z := 0) rfl ?_
                        refine go_istore C X45 276 rfl at_274 #[iv x1, jv raw, sc, iv x3, iv x4, iv n, iv kd, iv pp, rv cb, iv (0 : Int32)] rfl ?_
                        exact J50 (0 : Int32) (by unfold own_ex; first | (rw [if_pos c248]; exact (if_pos ⟨c257, c266⟩).symm) | (rw [if_neg c248]; exact hex) | (rw [if_pos c248]; exact (if_neg (fun q => c257 q.1)).symm) | (rw [if_pos c248]; exact (if_neg (fun q => c266 q.2)).symm))
                      · refine go_iconst C X45 270 rfl at_269 (z := 1) rfl ?_
                        refine go_goto C X45 at_270 (pc' := 274) (by decide) (by decide) ?_
                        refine go_istore C X45 276 rfl at_274 #[iv x1, jv raw, sc, iv x3, iv x4, iv n, iv kd, iv pp, rv cb, iv (1 : Int32)] rfl ?_
                        exact J50 (1 : Int32) (by unfold own_ex; first | (rw [if_pos c248]; exact (if_pos ⟨c257, c266⟩).symm) | (rw [if_neg c248]; exact hex) | (rw [if_pos c248]; exact (if_neg (fun q => c257 q.1)).symm) | (rw [if_pos c248]; exact (if_neg (fun q => c266 q.2)).symm))
                refine go_iload C X45 179 rfl at_177 rfl ?_
                refine go_bipush C X45 181 rfl at_179 (z := 6) rfl ?_
                refine go_icmp_ne C X45 at_181 (pc' := 184) (pc2 := 245) rfl (by decide) (by decide) (fun (c181 : ¬ n = (6 : Int32)) => ?_) (fun (c181 : n = (6 : Int32)) => ?_)
                · exact J49 (0 : Int32) (by unfold own_ex6; first | exact (if_pos ⟨c181, c190, c199, c208, c217, c226, c235⟩).symm | exact (if_neg (fun q => c181 q.1)).symm | exact (if_neg (fun q => c190 q.2.1)).symm | exact (if_neg (fun q => c199 q.2.2.1)).symm | exact (if_neg (fun q => c208 q.2.2.2.1)).symm | exact (if_neg (fun q => c217 q.2.2.2.2.1)).symm | exact (if_neg (fun q => c226 q.2.2.2.2.2.1)).symm | exact (if_neg (fun q => c235 q.2.2.2.2.2.2)).symm)
                · have en : n.toInt = 6 := by rw [c181]; rfl
                  refine go_aload C X45 186 rfl at_184 rfl rfl ?_
                  refine go_iconst C X45 187 rfl at_186 (z := 0) rfl ?_
                  refine go_caload C X45 A47 (by decide) (v := (.int (at32 xs7 (0 : Int32)))) (ia_at (by decide) (by have := hX7.1; have z : (0 : Int32).toInt = 0 := rfl; omega)) (pc' := 188) rfl at_187 ?_
                  refine go_bipush C X45 190 rfl at_188 (z := 45) rfl ?_
                  refine go_icmp_ne C X45 at_190 (pc' := 193) (pc2 := 242) rfl (by decide) (by decide) (fun (c190 : ¬ (at32 xs7 (0 : Int32)) = (45 : Int32)) => ?_) (fun (c190 : (at32 xs7 (0 : Int32)) = (45 : Int32)) => ?_)
                  · refine go_iconst C X45 243 rfl at_242 (z := 0) rfl ?_
                    refine go_istore C X45 245 rfl at_243 #[iv x1, jv raw, sc, iv x3, iv x4, iv n, iv kd, iv pp, rv cb, iv (0 : Int32)] rfl ?_
                    exact J49 (0 : Int32) (by unfold own_ex6; first | exact (if_pos ⟨c181, c190, c199, c208, c217, c226, c235⟩).symm | exact (if_neg (fun q => c181 q.1)).symm | exact (if_neg (fun q => c190 q.2.1)).symm | exact (if_neg (fun q => c199 q.2.2.1)).symm | exact (if_neg (fun q => c208 q.2.2.2.1)).symm | exact (if_neg (fun q => c217 q.2.2.2.2.1)).symm | exact (if_neg (fun q => c226 q.2.2.2.2.2.1)).symm | exact (if_neg (fun q => c235 q.2.2.2.2.2.2)).symm)
                  · refine go_aload C X45 195 rfl at_193 rfl rfl ?_
                    refine go_iconst C X45 196 rfl at_195 (z := 1) rfl ?_
                    refine go_caload C X45 A47 (by decide) (v := (.int (at32 xs7 (1 : Int32)))) (ia_at (by decide) (by have := hX7.1; have z : (1 : Int32).toInt = 1 := rfl; omega)) (pc' := 197) rfl at_196 ?_
                    refine go_bipush C X45 199 rfl at_197 (z := 45) rfl ?_
                    refine go_icmp_ne C X45 at_199 (pc' := 202) (pc2 := 242) rfl (by decide) (by decide) (fun (c199 : ¬ (at32 xs7 (1 : Int32)) = (45 : Int32)) => ?_) (fun (c199 : (at32 xs7 (1 : Int32)) = (45 : Int32)) => ?_)
                    · refine go_iconst C X45 243 rfl at_242 (z := 0) rfl ?_
                      refine go_istore C X45 245 rfl at_243 #[iv x1, jv raw, sc, iv x3, iv x4, iv n, iv kd, iv pp, rv cb, iv (0 : Int32)] rfl ?_
                      exact J49 (0 : Int32) (by unfold own_ex6; first | exact (if_pos ⟨c181, c190, c199, c208, c217, c226, c235⟩).symm | exact (if_neg (fun q => c181 q.1)).symm | exact (if_neg (fun q => c190 q.2.1)).symm | exact (if_neg (fun q => c199 q.2.2.1)).symm | exact (if_neg (fun q => c208 q.2.2.2.1)).symm | exact (if_neg (fun q => c217 q.2.2.2.2.1)).symm | exact (if_neg (fun q => c226 q.2.2.2.2.2.1)).symm | exact (if_neg (fun q => c235 q.2.2.2.2.2.2)).symm)
                    · refine go_aload C X45 204 rfl at_202 rfl rfl ?_
                      refine go_iconst C X45 205 rfl at_204 (z := 2) rfl ?_
                      refine go_caload C X45 A47 (by decide) (v := (.int (at32 xs7 (2 : Int32)))) (ia_at (by decide) (by have := hX7.1; have z : (2 : Int32).toInt = 2 := rfl; omega)) (pc' := 206) rfl at_205 ?_
                      refine go_bipush C X45 208 rfl at_206 (z := 104) rfl ?_
                      refine go_icmp_ne C X45 at_208 (pc' := 211) (pc2 := 242) rfl (by decide) (by decide) (fun (c208 : ¬ (at32 xs7 (2 : Int32)) = (104 : Int32)) => ?_) (fun (c208 : (at32 xs7 (2 : Int32)) = (104 : Int32)) => ?_)
                      · refine go_iconst C X45 243 rfl at_242 (z := 0) rfl ?_
                        refine go_istore C X45 245 rfl at_243 #[iv x1, jv raw, sc, iv x3, iv x4, iv n, iv kd, iv pp, rv cb, iv (0 : Int32)] rfl ?_
                        exact J49 (0 : Int32) (by unfold own_ex6; first | exact (if_pos ⟨c181, c190, c199, c208, c217, c226, c235⟩).symm | exact (if_neg (fun q => c181 q.1)).symm | exact (if_neg (fun q => c190 q.2.1)).symm | exact (if_neg (fun q => c199 q.2.2.1)).symm | exact (if_neg (fun q => c208 q.2.2.2.1)).symm | exact (if_neg (fun q => c217 q.2.2.2.2.1)).symm | exact (if_neg (fun q => c226 q.2.2.2.2.2.1)).symm | exact (if_neg (fun q => c235 q.2.2.2.2.2.2)).symm)
                      · refine go_aload C X45 213 rfl at_211 rfl rfl ?_
                        refine go_iconst C X45 214 rfl at_213 (z := 3) rfl ?_
                        refine go_caload C X45 A47 (by decide) (v := (.int (at32 xs7 (3 : Int32)))) (ia_at (by decide) (by have := hX7.1; have z : (3 : Int32).toInt = 3 := rfl; omega)) (pc' := 215) rfl at_214 ?_
                        refine go_bipush C X45 217 rfl at_215 (z := 101) rfl ?_
                        refine go_icmp_ne C X45 at_217 (pc' := 220) (pc2 := 242) rfl (by decide) (by decide) (fun (c217 : ¬ (at32 xs7 (3 : Int32)) = (101 : Int32)) => ?_) (fun (c217 : (at32 xs7 (3 : Int32)) = (101 : Int32)) => ?_)
                        · refine go_iconst C X45 243 rfl at_242 (z := 0) rfl ?_
                          refine go_istore C X45 245 rfl at_243 #[iv x1, jv raw, sc, iv x3, iv x4, iv n, iv kd, iv pp, rv cb, iv (0 : Int32)] rfl ?_
                          exact J49 (0 : Int32) (by unfold own_ex6; first | exact (if_pos ⟨c181, c190, c199, c208, c217, c226, c235⟩).symm | exact (if_neg (fun q => c181 q.1)).symm | exact (if_neg (fun q => c190 q.2.1)).symm | exact (if_neg (fun q => c199 q.2.2.1)).symm | exact (if_neg (fun q => c208 q.2.2.2.1)).symm | exact (if_neg (fun q => c217 q.2.2.2.2.1)).symm | exact (if_neg (fun q => c226 q.2.2.2.2.2.1)).symm | exact (if_neg (fun q => c235 q.2.2.2.2.2.2)).symm)
                        · refine go_aload C X45 222 rfl at_220 rfl rfl ?_
                          refine go_iconst C X45 223 rfl at_222 (z := 4) rfl ?_
                          refine go_caload C X45 A47 (by decide) (v := (.int (at32 xs7 (4 : Int32)))) (ia_at (by decide) (by have := hX7.1; have z : (4 : Int32).toInt = 4 := rfl; omega)) (pc' := 224) rfl at_223 ?_
                          refine go_bipush C X45 226 rfl at_224 (z := 108) rfl ?_
                          refine go_icmp_ne C X45 at_226 (pc' := 229) (pc2 := 242) rfl (by decide) (by decide) (fun (c226 : ¬ (at32 xs7 (4 : Int32)) = (108 : Int32)) => ?_) (fun (c226 : (at32 xs7 (4 : Int32)) = (108 : Int32)) => ?_)
                          · refine go_iconst C X45 243 rfl at_242 (z := 0) rfl ?_
                            refine go_istore C X45 245 rfl at_243 #[iv x1, jv raw, sc, iv x3, iv x4, iv n, iv kd, iv pp, rv cb, iv (0 : Int32)] rfl ?_
                            exact J49 (0 : Int32) (by unfold own_ex6; first | exact (if_pos ⟨c181, c190, c199, c208, c217, c226, c235⟩).symm | exact (if_neg (fun q => c181 q.1)).symm | exact (if_neg (fun q => c190 q.2.1)).symm | exact (if_neg (fun q => c199 q.2.2.1)).symm | exact (if_neg (fun q => c208 q.2.2.2.1)).symm | exact (if_neg (fun q => c217 q.2.2.2.2.1)).symm | exact (if_neg (fun q => c226 q.2.2.2.2.2.1)).symm | exact (if_neg (fun q => c235 q.2.2.2.2.2.2)).symm)
                          · refine go_aload C X45 231 rfl at_229 rfl rfl ?_
                            refine go_iconst C X45 232 rfl at_231 (z := 5) rfl ?_
                            refine go_caload C X45 A47 (by decide) (v := (.int (at32 xs7 (5 : Int32)))) (ia_at (by decide) (by have := hX7.1; have z : (5 : Int32).toInt = 5 := rfl; omega)) (pc' := 233) rfl at_232 ?_
                            refine go_bipush C X45 235 rfl at_233 (z := 112) rfl ?_
                            refine go_icmp_ne C X45 at_235 (pc' := 238) (pc2 := 242) rfl (by decide) (by decide) (fun (c235 : ¬ (at32 xs7 (5 : Int32)) = (112 : Int32)) => ?_) (fun (c235 : (at32 xs7 (5 : Int32)) = (112 : Int32)) => ?_)
                            · refine go_iconst C X45 243 rfl at_242 (z := 0) rfl ?_
                              refine go_istore C X45 245 rfl at_243 #[iv x1, jv raw, sc, iv x3, iv x4, iv n, iv kd, iv pp, rv cb, iv (0 : Int32)] rfl ?_
                              exact J49 (0 : Int32) (by unfold own_ex6; first | exact (if_pos ⟨c181, c190, c199, c208, c217, c226, c235⟩).symm | exact (if_neg (fun q => c181 q.1)).symm | exact (if_neg (fun q => c190 q.2.1)).symm | exact (if_neg (fun q => c199 q.2.2.1)).symm | exact (if_neg (fun q => c208 q.2.2.2.1)).symm | exact (if_neg (fun q => c217 q.2.2.2.2.1)).symm | exact (if_neg (fun q => c226 q.2.2.2.2.2.1)).symm | exact (if_neg (fun q => c235 q.2.2.2.2.2.2)).symm)
                            · refine go_iconst C X45 239 rfl at_238 (z := 1) rfl ?_
                              refine go_goto C X45 at_239 (pc' := 243) (by decide) (by decide) ?_
                              refine go_istore C X45 245 rfl at_243 #[iv x1, jv raw, sc, iv x3, iv x4, iv n, iv kd, iv pp, rv cb, iv (1 : Int32)] rfl ?_
                              exact J49 (1 : Int32) (by unfold own_ex6; first | exact (if_pos ⟨c181, c190, c199, c208, c217, c226, c235⟩).symm | exact (if_neg (fun q => c181 q.1)).symm | exact (if_neg (fun q => c190 q.2.1)).symm | exact (if_neg (fun q => c199 q.2.2.1)).symm | exact (if_neg (fun q => c208 q.2.2.2.1)).symm | exact (if_neg (fun q => c217 q.2.2.2.2.1)).symm | exact (if_neg (fun q => c226 q.2.2.2.2.2.1)).symm | exact (if_neg (fun q => c235 q.2.2.2.2.2.2)).symm)
              refine go_iload C X39 152 rfl at_150 rfl ?_
              refine go_bipush C X39 154 rfl at_152 (z := 6) rfl ?_
              refine go_icmp_le C X39 at_154 (pc' := 157) (pc2 := 174) rfl (by decide) (by decide) (fun (c154 : n.toInt ≤ 6) => ?_) (fun (c154 : 6 < n.toInt) => ?_)
              · exact J43  _ C _ _ X39 xs6 hX6 A41 WI42
              · refine go_aload C X39 159 rfl at_157 rfl rfl ?_
                refine go_bipush C X39 161 rfl at_159 (z := 6) rfl ?_
                refine go_bipush C X39 163 rfl at_161 (z := 6) rfl ?_
                refine go_iload C X39 165 rfl at_163 rfl ?_
                refine go_lloadN C X39 166 rfl at_165 rfl ?_
                refine go_iload C X39 168 rfl at_166 rfl ?_
                refine go_iload C X39 170 rfl at_168 rfl ?_
                refine go_callSW C X39 WI42 hEL (C.w 39 rfl) (C.w 40 rfl) (C.w 41 rfl) (C.w 42 rfl) (own_pick_6 l Z a0 C.ws kd raw pp x4 cs fv h40 n0 X39.old hEL hcs S1 hfv S2) (argsL := [(.int (6 : Int32)), (.int kd), (.long raw), (.int pp), (.int x4)]) (rest := [(.int (6 : Int32)), (.ref cb)]) (lenOf pd_13 rfl) rfl (by decide) (by decide) (Nat.le_of_ble_eq_true rfl) (by decide) (by decide) rfl rfl (pc' := 173) rfl at_170 ?_
                rintro s T101 h103 _ ⟨cq6, rfl, hq6, Kp6⟩ C WI104 X102
                show Go p e below _ (T101.setTop (mkF m 173 #[iv x1, jv raw, sc, iv x3, iv x4, iv n, iv kd, iv pp, rv cb, un] [(.int cq6), (.int (6 : Int32)), (.ref cb)]))
                have A105 := A41.keep Kp6 nin0
                refine go_castore C X102 A105 (by decide) (by rw [ia_len]; have := hX6.1; have z : (6 : Int32).toInt = 6 := rfl; omega) ga_cb (pc' := 174) rfl at_173 (fun T106 h108 W109 A110 X107 => ?_)
                rw [own_nc hq6.1 hq6.2] at W109 A110
                rw [ia_put] at A110
                have SQ111 : Safe Z consts_1 s.vm _ cb := (safeA C A105 (by decide))
                have WI112 := WI104.wr W109 SQ111
                exact J43  _ C _ _ X107 (put32 xs6 6 cq6) (own_ok_put hX6 hq6.1 hq6.2) A110 WI112
            refine go_iload C X33 131 rfl at_129 rfl ?_
            refine go_iconst C X33 132 rfl at_131 (z := 5) rfl ?_
            refine go_icmp_le C X33 at_132 (pc' := 135) (pc2 := 150) rfl (by decide) (by decide) (fun (c132 : n.toInt ≤ 5) => ?_) (fun (c132 : 5 < n.toInt) => ?_)
            · exact J37  _ C _ _ (X33.more (by decide) (by decide)) xs5 hX5 A35 WI36
            · refine go_aload C X33 137 rfl at_135 rfl rfl ?_
              refine go_iconst C X33 138 rfl at_137 (z := 5) rfl ?_
              refine go_iconst C X33 139 rfl at_138 (z := 5) rfl ?_
              refine go_iload C X33 141 rfl at_139 rfl ?_
              refine go_lloadN C X33 142 rfl at_141 rfl ?_
              refine go_iload C X33 144 rfl at_142 rfl ?_
              refine go_iload C X33 146 rfl at_144 rfl ?_
              refine go_callSW C X33 WI36 hEL (C.w 39 rfl) (C.w 40 rfl) (C.w 41 rfl) (C.w 42 rfl) (own_pick_5 l Z a0 C.ws kd raw pp x4 cs fv h34 n0 X33.old hEL hcs S1 hfv S2) (argsL := [(.int (5 : Int32)), (.int kd), (.long raw), (.int pp), (.int x4)]) (rest := [(.int (5 : Int32)), (.ref cb)]) (lenOf pd_13 rfl) rfl (by decide) (by decide) (Nat.le_of_ble_eq_true rfl) (by decide) (by decide) rfl rfl (pc' := 149) rfl at_146 ?_
              rintro s T113 h115 _ ⟨cq5, rfl, hq5, Kp5⟩ C WI116 X114
              show Go p e below _ (T113.setTop (mkF m 149 #[iv x1, jv raw, sc, iv x3, iv x4, iv n, iv kd, iv pp, rv cb, un] [(.int cq5), (.int (5 : Int32)), (.ref cb)]))
              have A117 := A35.keep Kp5 nin0
              refine go_castore C X114 A117 (by decide) (by rw [ia_len]; have := hX5.1; have z : (5 : Int32).toInt = 5 := rfl; omega) ga_cb (pc' := 150) rfl at_149 (fun T118 h120 W121 A122 X119 => ?_)
              rw [own_nc hq5.1 hq5.2] at W121 A122
              rw [ia_put] at A122
              have SQ123 : Safe Z consts_1 s.vm _ cb := (safeA C A117 (by decide))
              have WI124 := WI116.wr W121 SQ123
              exact J37  _ C _ _ X119 (put32 xs5 5 cq5) (own_ok_put hX5 hq5.1 hq5.2) A122 WI124
          refine go_iload C X27 110 rfl at_108 rfl ?_
          refine go_iconst C X27 111 rfl at_110 (z := 4) rfl ?_
          refine go_icmp_le C X27 at_111 (pc' := 114) (pc2 := 129) rfl (by decide) (by decide) (fun (c111 : n.toInt ≤ 4) => ?_) (fun (c111 : 4 < n.toInt) => ?_)
          · exact J31  _ C _ _ (X27.more (by decide) (by decide)) xs4 hX4 A29 WI30
          · refine go_aload C X27 116 rfl at_114 rfl rfl ?_
            refine go_iconst C X27 117 rfl at_116 (z := 4) rfl ?_
            refine go_iconst C X27 118 rfl at_117 (z := 4) rfl ?_
            refine go_iload C X27 120 rfl at_118 rfl ?_
            refine go_lloadN C X27 121 rfl at_120 rfl ?_
            refine go_iload C X27 123 rfl at_121 rfl ?_
            refine go_iload C X27 125 rfl at_123 rfl ?_
            refine go_callSW C X27 WI30 hEL (C.w 39 rfl) (C.w 40 rfl) (C.w 41 rfl) (C.w 42 rfl) (own_pick_4 l Z a0 C.ws kd raw pp x4 cs fv h28 n0 X27.old hEL hcs S1 hfv S2) (argsL := [(.int (4 : Int32)), (.int kd), (.long raw), (.int pp), (.int x4)]) (rest := [(.int (4 : Int32)), (.ref cb)]) (lenOf pd_13 rfl) rfl (by decide) (by decide) (Nat.le_of_ble_eq_true rfl) (by decide) (by decide) rfl rfl (pc' := 128) rfl at_125 ?_
            rintro s T125 h127 _ ⟨cq4, rfl, hq4, Kp4⟩ C WI128 X126
            show Go p e below _ (T125.setTop (mkF m 128 #[iv x1, jv raw, sc, iv x3, iv x4, iv n, iv kd, iv pp, rv cb, un] [(.int cq4), (.int (4 : Int32)), (.ref cb)]))
            have A129 := A29.keep Kp4 nin0
            refine go_castore C X126 A129 (by decide) (by rw [ia_len]; have := hX4.1; have z : (4 : Int32).toInt = 4 := rfl; omega) ga_cb (pc' := 129) rfl at_128 (fun T130 h132 W133 A134 X131 => ?_)
            rw [own_nc hq4.1 hq4.2] at W133 A134
            rw [ia_put] at A134
            have SQ135 : Safe Z consts_1 s.vm _ cb := (safeA C A129 (by decide))
            have WI136 := WI128.wr W133 SQ135
            exact J31  _ C _ _ X131 (put32 xs4 4 cq4) (own_ok_put hX4 hq4.1 hq4.2) A134 WI136
        refine go_iload C X21 89 rfl at_87 rfl ?_
        refine go_iconst C X21 90 rfl at_89 (z := 3) rfl ?_
        refine go_icmp_le C X21 at_90 (pc' := 93) (pc2 := 108) rfl (by decide) (by decide) (fun (c90 : n.toInt ≤ 3) => ?_) (fun (c90 : 3 < n.toInt) => ?_)
        · exact J25  _ C _ _ (X21.more (by decide) (by decide)) xs3 hX3 A23 WI24
        · refine go_aload C X21 95 rfl at_93 rfl rfl ?_
          refine go_iconst C X21 96 rfl at_95 (z := 3) rfl ?_
          refine go_iconst C X21 97 rfl at_96 (z := 3) rfl ?_
          refine go_iload C X21 99 rfl at_97 rfl ?_
          refine go_lloadN C X21 100 rfl at_99 rfl ?_
          refine go_iload C X21 102 rfl at_100 rfl ?_
          refine go_iload C X21 104 rfl at_102 rfl ?_
          refine go_callSW C X21 WI24 hEL (C.w 39 rfl) (C.w 40 rfl) (C.w 41 rfl) (C.w 42 rfl) (own_pick_3 l Z a0 C.ws kd raw pp x4 cs fv h22 n0 X21.old hEL hcs S1 hfv S2) (argsL := [(.int (3 : Int32)), (.int kd), (.long raw), (.int pp), (.int x4)]) (rest := [(.int (3 : Int32)), (.ref cb)]) (lenOf pd_13 rfl) rfl (by decide) (by decide) (Nat.le_of_ble_eq_true rfl) (by decide) (by decide) rfl rfl (pc' := 107) rfl at_104 ?_
          rintro s T137 h139 _ ⟨cq3, rfl, hq3, Kp3⟩ C WI140 X138
          show Go p e below _ (T137.setTop (mkF m 107 #[iv x1, jv raw, sc, iv x3, iv x4, iv n, iv kd, iv pp, rv cb, un] [(.int cq3), (.int (3 : Int32)), (.ref cb)]))
          have A141 := A23.keep Kp3 nin0
          refine go_castore C X138 A141 (by decide) (by rw [ia_len]; have := hX3.1; have z : (3 : Int32).toInt = 3 := rfl; omega) ga_cb (pc' := 108) rfl at_107 (fun T142 h144 W145 A146 X143 => ?_)
          rw [own_nc hq3.1 hq3.2] at W145 A146
          rw [ia_put] at A146
          have SQ147 : Safe Z consts_1 s.vm _ cb := (safeA C A141 (by decide))
          have WI148 := WI140.wr W145 SQ147
          exact J25  _ C _ _ X143 (put32 xs3 3 cq3) (own_ok_put hX3 hq3.1 hq3.2) A146 WI148
      refine go_iload C X15 68 rfl at_66 rfl ?_
      refine go_iconst C X15 69 rfl at_68 (z := 2) rfl ?_
      refine go_icmp_le C X15 at_69 (pc' := 72) (pc2 := 87) rfl (by decide) (by decide) (fun (c69 : n.toInt ≤ 2) => ?_) (fun (c69 : 2 < n.toInt) => ?_)
      · exact J19  _ C _ _ (X15.more (by decide) (by decide)) xs2 hX2 A17 WI18
      · refine go_aload C X15 74 rfl at_72 rfl rfl ?_
        refine go_iconst C X15 75 rfl at_74 (z := 2) rfl ?_
        refine go_iconst C X15 76 rfl at_75 (z := 2) rfl ?_
        refine go_iload C X15 78 rfl at_76 rfl ?_
        refine go_lloadN C X15 79 rfl at_78 rfl ?_
        refine go_iload C X15 81 rfl at_79 rfl ?_
        refine go_iload C X15 83 rfl at_81 rfl ?_
        refine go_callSW C X15 WI18 hEL (C.w 39 rfl) (C.w 40 rfl) (C.w 41 rfl) (C.w 42 rfl) (own_pick_2 l Z a0 C.ws kd raw pp x4 cs fv h16 n0 X15.old hEL hcs S1 hfv S2) (argsL := [(.int (2 : Int32)), (.int kd), (.long raw), (.int pp), (.int x4)]) (rest := [(.int (2 : Int32)), (.ref cb)]) (lenOf pd_13 rfl) rfl (by decide) (by decide) (Nat.le_of_ble_eq_true rfl) (by decide) (by decide) rfl rfl (pc' := 86) rfl at_83 ?_
        rintro s T149 h151 _ ⟨cq2, rfl, hq2, Kp2⟩ C WI152 X150
        show Go p e below _ (T149.setTop (mkF m 86 #[iv x1, jv raw, sc, iv x3, iv x4, iv n, iv kd, iv pp, rv cb, un] [(.int cq2), (.int (2 : Int32)), (.ref cb)]))
        have A153 := A17.keep Kp2 nin0
        refine go_castore C X150 A153 (by decide) (by rw [ia_len]; have := hX2.1; have z : (2 : Int32).toInt = 2 := rfl; omega) ga_cb (pc' := 87) rfl at_86 (fun T154 h156 W157 A158 X155 => ?_)
        rw [own_nc hq2.1 hq2.2] at W157 A158
        rw [ia_put] at A158
        have SQ159 : Safe Z consts_1 s.vm _ cb := (safeA C A153 (by decide))
        have WI160 := WI152.wr W157 SQ159
        exact J19  _ C _ _ X155 (put32 xs2 2 cq2) (own_ok_put hX2 hq2.1 hq2.2) A158 WI160
    refine go_iload C X9 47 rfl at_45 rfl ?_
    refine go_iconst C X9 48 rfl at_47 (z := 1) rfl ?_
    refine go_icmp_le C X9 at_48 (pc' := 51) (pc2 := 66) rfl (by decide) (by decide) (fun (c48 : n.toInt ≤ 1) => ?_) (fun (c48 : 1 < n.toInt) => ?_)
    · exact J13  _ C _ _ (X9.more (by decide) (by decide)) xs1 hX1 A11 WI12
    · refine go_aload C X9 53 rfl at_51 rfl rfl ?_
      refine go_iconst C X9 54 rfl at_53 (z := 1) rfl ?_
      refine go_iconst C X9 55 rfl at_54 (z := 1) rfl ?_
      refine go_iload C X9 57 rfl at_55 rfl ?_
      refine go_lloadN C X9 58 rfl at_57 rfl ?_
      refine go_iload C X9 60 rfl at_58 rfl ?_
      refine go_iload C X9 62 rfl at_60 rfl ?_
      refine go_callSW C X9 WI12 hEL (C.w 39 rfl) (C.w 40 rfl) (C.w 41 rfl) (C.w 42 rfl) (own_pick_1 l Z a0 C.ws kd raw pp x4 cs fv h10 n0 X9.old hEL hcs S1 hfv S2) (argsL := [(.int (1 : Int32)), (.int kd), (.long raw), (.int pp), (.int x4)]) (rest := [(.int (1 : Int32)), (.ref cb)]) (lenOf pd_13 rfl) rfl (by decide) (by decide) (Nat.le_of_ble_eq_true rfl) (by decide) (by decide) rfl rfl (pc' := 65) rfl at_62 ?_
      rintro s T161 h163 _ ⟨cq1, rfl, hq1, Kp1⟩ C WI164 X162
      show Go p e below _ (T161.setTop (mkF m 65 #[iv x1, jv raw, sc, iv x3, iv x4, iv n, iv kd, iv pp, rv cb, un] [(.int cq1), (.int (1 : Int32)), (.ref cb)]))
      have A165 := A11.keep Kp1 nin0
      refine go_castore C X162 A165 (by decide) (by rw [ia_len]; have := hX1.1; have z : (1 : Int32).toInt = 1 := rfl; omega) ga_cb (pc' := 66) rfl at_65 (fun T166 h168 W169 A170 X167 => ?_)
      rw [own_nc hq1.1 hq1.2] at W169 A170
      rw [ia_put] at A170
      have SQ171 : Safe Z consts_1 s.vm _ cb := (safeA C A165 (by decide))
      have WI172 := WI164.wr W169 SQ171
      exact J13  _ C _ _ X167 (put32 xs1 1 cq1) (own_ok_put hX1 hq1.1 hq1.2) A170 WI172
  refine go_iload C X2 27 rfl at_25 rfl ?_
  refine go_if_le C X2 at_27 (pc' := 30) (pc2 := 45) rfl (by decide) (by decide) (fun (c27 : n.toInt ≤ 0) => ?_) (fun (c27 : 0 < n.toInt) => ?_)
  · exact J7  _ C _ _ (X2.more (by decide) (by decide)) xs0 hX0 A5 WI6
  · refine go_aload C X2 32 rfl at_30 rfl rfl ?_
    refine go_iconst C X2 33 rfl at_32 (z := 0) rfl ?_
    refine go_iconst C X2 34 rfl at_33 (z := 0) rfl ?_
    refine go_iload C X2 36 rfl at_34 rfl ?_
    refine go_lloadN C X2 37 rfl at_36 rfl ?_
    refine go_iload C X2 39 rfl at_37 rfl ?_
    refine go_iload C X2 41 rfl at_39 rfl ?_
    refine go_callSW C X2 WI6 hEL (C.w 39 rfl) (C.w 40 rfl) (C.w 41 rfl) (C.w 42 rfl) (own_pick_0 l Z a0 C.ws kd raw pp x4 cs fv h3 n0 X2.old hEL hcs S1 hfv S2) (argsL := [(.int (0 : Int32)), (.int kd), (.long raw), (.int pp), (.int x4)]) (rest := [(.int (0 : Int32)), (.ref cb)]) (lenOf pd_13 rfl) rfl (by decide) (by decide) (Nat.le_of_ble_eq_true rfl) (by decide) (by decide) rfl rfl (pc' := 44) rfl at_41 ?_
    rintro s T173 h175 _ ⟨cq0, rfl, hq0, Kp0⟩ C WI176 X174
    show Go p e below _ (T173.setTop (mkF m 44 #[iv x1, jv raw, sc, iv x3, iv x4, iv n, iv kd, iv pp, rv cb, un] [(.int cq0), (.int (0 : Int32)), (.ref cb)]))
    have A177 := A5.keep Kp0 nin0
    refine go_castore C X174 A177 (by decide) (by rw [ia_len]; have := hX0.1; have z : (0 : Int32).toInt = 0 := rfl; omega) ga_cb (pc' := 45) rfl at_44 (fun T178 h180 W181 A182 X179 => ?_)
    rw [own_nc hq0.1 hq0.2] at W181 A182
    rw [ia_put] at A182
    have SQ183 : Safe Z consts_1 s.vm _ cb := (safeA C A177 (by decide))
    have WI184 := WI176.wr W181 SQ183
    exact J7  _ C _ _ X179 (put32 xs0 0 cq0) (own_ok_put hX0 hq0.1 hq0.2) A182 WI184
set_option maxRecDepth 65536 in
set_option maxHeartbeats 40000000 in
theorem comes_1 {Post : Tables → Env → Array Value → State → Outcome → State → Prop} (hpost : ∀ tb e args s v u, (limb_1_1.after args s (.returned v) u = true ∧ limb_1_2.after args s (.returned v) u = true ∧ True) → FramedW s (.returned v) u (Jvm.fieldLocs frame_1_writes args s ++ Jvm.arrayLocs frame_1_arrays args s ++ Jvm.staticLocs frame_1_statics s) 24 5248 → Post tb e args s (.returned v) u) :
    ArmFor flags0 classFile x code maxLocals ret World_1 tables_1 room_1 Calls_1 rest_1 Pre_1 Post := by
  intro l hfl _ _ p e ha hc hk s m args below hf hA hF happ hP
  obtain ⟨hcalls, hrest, hpre⟩ := hP
  obtain ⟨-, -, -, hnamed, -, -, -, hat⟩ := (Spec.applies_iff hf).mp happ
  obtain ⟨hg, hn⟩ := and_e (Cond.before_iff.mp (show (Jvm.Cond.and given_1 narrow_1).before args s = true from hpre))
  obtain ⟨g1, g2⟩ := and_e hg
  obtain ⟨g3, g4⟩ := and_e g2
  obtain ⟨g5, g6⟩ := and_e g4
  obtain ⟨g7, g8⟩ := and_e g6
  obtain ⟨w0, w1, w2, w3, rfl⟩ : ∃ w0 w1 w2 w3 : Value, args = #[w0, w1, w2, w3] := by
    have hs : args.size = 4 := by simpa [Cond.value, given_1] using g1
    obtain ⟨L⟩ := args
    match L, hs with
    | [w0, w1, w2, w3], _ => exact ⟨w0, w1, w2, w3, rfl⟩
  have hw := fun d (hd : d ∈ tables_1) => atoms_spec (ws := Jvm.Cond.code x code maxLocals ret :: tables_1) hat d (List.mem_cons_of_mem _ hd)
  have hfit : Fit s := fun {y c} hc i hi => by
    obtain ⟨ha, rfl⟩ := Array.getElem?_eq_some_iff.mp hc
    have q := List.all_eq_true.mp ((Array.all_eq_true_iff_forall_mem.mp hF) _ (Array.getElem_mem ha)) i (List.mem_range.mpr hi)
    simpa [Array.getElem?_eq_getElem hi] using q
  obtain ⟨hsets, hown0⟩ := atoms_of _ (rest_1_c_eq ▸ (show rest_1_c.before _ s = true from hrest))
  have hr0 := Cond.before_iff.mp hown0
  obtain ⟨i0, ei0⟩ := is_v g3
  obtain rfl : w0 = (.int i0) := Option.some.inj ei0
  obtain ⟨i1, ei1⟩ := isL_v g5
  obtain rfl : w1 = (.long i1) := Option.some.inj ei1
  obtain ⟨i2, ei2⟩ := is_v g7
  obtain rfl : w2 = (.int i2) := Option.some.inj ei2
  obtain ⟨i3, ei3⟩ := is_v g8
  obtain rfl : w3 = (.int i3) := Option.some.inj ei3
  have n3 := not_v (Cond.before_iff.mp (hsets _ (List.mem_of_getElem? (i := 2) rfl)))
  obtain ⟨cs, ecs⟩ := is_v (Cond.before_iff.mp (hsets _ (List.mem_of_getElem? (i := 1) rfl)))
  have S1 : Sta s s.heap "java/lang/String" "COMPACT_STRINGS" "Z" (.int cs) := Sta.start ecs (Or.inl (hsets _ (List.mem_of_getElem? (i := 0) rfl)))
  obtain ⟨fv, efv, hfv⟩ := isR_v (Cond.before_iff.mp (hsets _ (List.mem_of_getElem? (i := 8) rfl)))
  have S2 : Sta s s.heap "jdk/internal/util/Preconditions" "SIOOBE_FORMATTER" "Ljava/util/function/BiFunction;" fv := Sta.start efv (Or.inl (hsets _ (List.mem_of_getElem? (i := 7) rfl)))
  have hcs : ¬ (cs = (0 : Int32)) := gotF (Cond.eq_ints ecs (Term.int_eval (0))) n3
  have hEL : EW s #[.int i0, .long i1, .int i2, .int i3] consts_1 := EW.cons (hw _ (List.mem_of_getElem? (i := 26) rfl)) own_lit76.1 (EW.cons (hw _ (List.mem_of_getElem? (i := 38) rfl)) own_lit81.1 (EW.cons (hw _ (List.mem_of_getElem? (i := 76) rfl)) own_lit26.1 (EW.cons (hw _ (List.mem_of_getElem? (i := 54) rfl)) own_lit32.1 (EW.cons (hw _ (List.mem_of_getElem? (i := 14) rfl)) own_lit7.1 (EW.nil)))))
  obtain ⟨hcst, _⟩ := hcalls
  have hCH : CHv s consts_1 s.vm s.heap := CHv.start hEL (fun p hp => hcst p hp) (hsets _ (List.mem_of_getElem? (i := 2) rfl)) (hw _ (List.mem_of_getElem? (i := 15) rfl)) (hw _ (List.mem_of_getElem? (i := 2) rfl))
  obtain ⟨n, o, h1, h2, h3, _, L, rfl, ⟨N, rfl⟩, -, hq⟩ := own_law l s _ hw i0 i1 i2 i3 cs fv s.heap s.heap.size (Old.start s) hEL hcs S1 hfv S2 tables_1 p e ha hc hk s m _ below hf ((Spec.applies_iff_loose hf).mp happ).1 ⟨rfl, State.Warmed39.refl s, rfl, hCH⟩ trivial
  refine ⟨n, _, h1, h2, h3, hpost _ _ _ _ _ _ ⟨Cond.after_iff.mpr rfl, Cond.after_iff.mpr (eq_i res_at (Term.int_eval (1)) rfl), trivial⟩ ⟨hq.1, hq.2.1, hq.2.2.1, (hq.2.2.2.sift fun y hy => Or.inr (N y hy)).mono (by decide) (by decide)⟩⟩
theorem main_1_1 : Claimed_1_1 := comes_1 fun _ _ _ _ _ _ h hF => ⟨h.1, hF⟩
theorem main_1_2 : Claimed_1_2 := comes_1 fun _ _ _ _ _ _ h hF => ⟨h.2.1, hF⟩

end Jvm.Pilot.@@N@@
namespace Jvm.Pilot.@@N@@
open Jvm Jvm.ClassFile Sem Op Lib Jvm.Free Jvm.Stand Jvm.Pilot.@@N@@.Jvm.D
/-! MADE BY PROGRAM (witnessworld.py) out of the Statement's table words and the real class files: 20 classes; the members and pool entries that the words name. The judged class is class 1, her method 1. -/
namespace start1
open Jvm.ClassFile
def u (s : String) : CpInfo := .utf8 (stringToUtf16 s)
/-- a pool by its gaps: so many unusable entries, then the entry; so many at the end -/
def gap : Nat → List CpInfo → List CpInfo
  | 0, r => r
  | n + 1, r => .unusable :: gap n r
def poolList (es : List (Nat × CpInfo)) (last : Nat) : List CpInfo := es.foldr (fun e r => gap e.1 (e.2 :: r)) (gap last [])
def pool (es : List (Nat × CpInfo)) (last : Nat) : Array CpInfo := ⟨poolList es last⟩
def fileOf (pool : Array CpInfo) (this : Nat) (attrs : Array Attribute := #[]) (ms : Array MethodInfo := #[]) (fl : Nat := 33) (sup : Nat := 0) (ifs : Array Nat := #[]) (fds : Array FieldInfo := #[]) : ClassFile where
  minorVersion := 0
  majorVersion := 65
  constantPool := pool
  accessFlags := fl
  thisClass := this
  superClass := sup
  interfaces := ifs
  fields := fds
  methods := ms
  attributes := attrs
def plain (name : String) (sup : Option ClassId) : Class where
  name := name
  kind := .ordinary
  loader := none
  accessFlags := 33
  super := sup
  interfaces := #[]
  cf := none
  fields := #[]
  methods := #[]
  instanceTypes := #[]
  staticTypes := #[]
  resolved := #[]
  callSites := []
  init := .initialized
  statics := none
  mirror := none

def pool0 : Array CpInfo := pool [(5, u "<init>"), (0, u "()V"), (1, .class_ 10), (1, u "java/lang/Object")] 113

def k0c0 : Code := { maxStack := 0, maxLocals := 1, code := object_method_1_code, exceptionTable := #[], attributes := #[] }
def k0m0 : Method := { name := "<init>", desc := "()V", sig := { parameters := [], returnType := none }, accessFlags := 1, code := some k0c0 }
/-- java/lang/Object -/
def k0 : Class := { plain "java/lang/Object" none with
  accessFlags := 33
  interfaces := #[]
  cf := some (fileOf pool0 8 #[] #[{ accessFlags := 1, nameIndex := 5, descriptorIndex := 6, attributes := #[] }] 33 0 #[] #[])
  fields := #[]
  methods := #[k0m0]
  instanceTypes := #[]
  staticTypes := #[]
  resolved := Array.replicate 124 none
  statics := none }

def pool1 : Array CpInfo := pool [(2, .class_ 4), (1, u "java/lang/Object"), (0, u "<init>"), (0, u "()V"), (0, .methodref 8 9), (0, .class_ 10), (0, .nameAndType 11 12), (0, u "com/example/bundlewalk/bundlewalk/OptionsIsHelpPinLaw"), (0, u "pick"), (0, u "(IIJII)C"), (0, .class_ 14), (0, u "java/lang/String"), (0, .methodref 13 16), (0, .nameAndType 5 17), (0, u "([C)V"), (0, .methodref 19 20), (0, .class_ 21), (0, .nameAndType 22 23), (0, u "com/example/bundlewalk/bundlewalk/Options"), (0, u "isHelp"), (0, u "(Ljava/lang/String;)Z"), (0, .long 255), (1, .string 27), (0, u "--help"), (0, .methodref 13 29), (0, .nameAndType 30 31), (0, u "charAt"), (0, u "(I)C"), (0, .string 33), (0, u "-h"), (2, u "law"), (0, u "(IJII)Z")] 5

def k1m0 : Method := { name := "<init>", desc := "()V", sig := { parameters := [], returnType := none }, accessFlags := 1, code := none }
def k1c1 : Code := { maxStack := 8, maxLocals := 10, code := code, exceptionTable := #[], attributes := #[] }
def k1m1 : Method := { name := "law", desc := "(IJII)Z", sig := { parameters := [.int, .long, .int, .int], returnType := some .boolean }, accessFlags := 9, code := some k1c1 }
def k1c2 : Code := { maxStack := 4, maxLocals := 7, code := method_3_code, exceptionTable := #[], attributes := #[] }
def k1m2 : Method := { name := "pick", desc := "(IIJII)C", sig := { parameters := [.int, .int, .long, .int, .int], returnType := some .char }, accessFlags := 10, code := some k1c2 }
/-- com/example/bundlewalk/bundlewalk/OptionsIsHelpPinLaw -/
def k1 : Class := { plain "com/example/bundlewalk/bundlewalk/OptionsIsHelpPinLaw" (some 0) with
  accessFlags := 49
  interfaces := #[]
  cf := some (fileOf pool1 8 #[] #[{ accessFlags := 1, nameIndex := 5, descriptorIndex := 6, attributes := #[] }, { accessFlags := 9, nameIndex := 36, descriptorIndex := 37, attributes := #[] }, { accessFlags := 10, nameIndex := 11, descriptorIndex := 12, attributes := #[] }] 49 2 #[] #[])
  fields := #[]
  methods := #[k1m0, k1m1, k1m2]
  instanceTypes := #[]
  staticTypes := #[]
  resolved := Array.replicate 43 none
  statics := none }

def pool2 : Array CpInfo := pool [(1, .class_ 2), (0, u "java/io/Serializable"), (0, .class_ 4), (0, u "java/lang/Object")] 2

/-- java/io/Serializable -/
def k2 : Class := { plain "java/io/Serializable" (some 0) with
  accessFlags := 1537
  interfaces := #[]
  cf := some (fileOf pool2 1 #[] #[] 1537 3 #[] #[])
  fields := #[]
  methods := #[]
  instanceTypes := #[]
  staticTypes := #[]
  resolved := Array.replicate 7 none
  statics := none }

def pool3 : Array CpInfo := pool [(1, .class_ 2), (0, u "java/lang/Comparable"), (0, .class_ 4), (0, u "java/lang/Object")] 7

/-- java/lang/Comparable -/
def k3 : Class := { plain "java/lang/Comparable" (some 0) with
  accessFlags := 1537
  interfaces := #[]
  cf := some (fileOf pool3 1 #[] #[] 1537 3 #[] #[])
  fields := #[]
  methods := #[]
  instanceTypes := #[]
  staticTypes := #[]
  resolved := Array.replicate 12 none
  statics := none }

def pool4 : Array CpInfo := pool [(2, .class_ 4), (1, u "java/lang/CharSequence"), (42, .class_ 48), (0, u "java/lang/CharSequence$1CodePointIterator"), (10, .class_ 60), (0, u "java/lang/CharSequence$1CharIterator"), (5, .class_ 67), (0, u "java/lang/Object")] 63

/-- java/lang/CharSequence -/
def k4 : Class := { plain "java/lang/CharSequence" (some 0) with
  accessFlags := 1537
  interfaces := #[]
  cf := some (fileOf pool4 2 #[.nestMembers #[47, 59]] #[] 1537 66 #[] #[])
  fields := #[]
  methods := #[]
  instanceTypes := #[]
  staticTypes := #[]
  resolved := Array.replicate 131 none
  statics := none }

def pool5 : Array CpInfo := pool [(1, .class_ 2), (0, u "java/lang/constant/Constable"), (0, .class_ 4), (0, u "java/lang/Object")] 6

/-- java/lang/constant/Constable -/
def k5 : Class := { plain "java/lang/constant/Constable" (some 0) with
  accessFlags := 1537
  interfaces := #[]
  cf := some (fileOf pool5 1 #[] #[] 1537 3 #[] #[])
  fields := #[]
  methods := #[]
  instanceTypes := #[]
  staticTypes := #[]
  resolved := Array.replicate 11 none
  statics := none }

def pool6 : Array CpInfo := pool [(1, .class_ 2), (0, u "java/lang/constant/ConstantDesc"), (0, .class_ 4), (0, u "java/lang/Object")] 32

/-- java/lang/constant/ConstantDesc -/
def k6 : Class := { plain "java/lang/constant/ConstantDesc" (some 0) with
  accessFlags := 1537
  interfaces := #[]
  cf := some (fileOf pool6 1 #[] #[] 1537 3 #[] #[])
  fields := #[]
  methods := #[]
  instanceTypes := #[]
  staticTypes := #[]
  resolved := Array.replicate 37 none
  statics := none }

def pool7 : Array CpInfo := pool [(1, .methodref 2 3), (0, .class_ 4), (0, .nameAndType 5 6), (0, u "java/lang/Object"), (0, u "<init>"), (0, u "()V"), (0, .string 8), (0, u ""), (0, .fieldref 10 11), (0, .class_ 12), (0, .nameAndType 13 14), (0, u "java/lang/String"), (0, u "value"), (0, u "[B"), (0, .fieldref 10 16), (0, .nameAndType 17 18), (0, u "coder"), (0, u "B"), (2, u "hash"), (0, u "I"), (2, u "hashIsZero"), (0, u "Z"), (0, .methodref 10 28), (0, .nameAndType 5 29), (0, u "([CIILjava/lang/Void;)V"), (8, .fieldref 10 39), (0, .nameAndType 40 26), (0, u "COMPACT_STRINGS"), (1, .class_ 44), (1, u "java/lang/StringUTF16"), (0, u "compress"), (1, .methodref 42 48), (0, .nameAndType 49 50), (0, u "coderFromArrayLen"), (0, u "([BI)B"), (56, .class_ 109), (1, u "java/lang/StringLatin1"), (32, u "()Z"), (34, .methodref 42 178), (0, .nameAndType 45 179), (0, u "([CII)[B"), (183, u "([BI)C"), (27, u "(II)V"), (35, u "(I)C"), (64, .methodref 10 493), (0, .nameAndType 494 142), (0, u "isLatin1"), (0, .methodref 107 496), (0, .nameAndType 497 363), (0, u "charAt"), (3, u "checkIndex"), (39, .methodref 107 542), (0, .nameAndType 543 544), (0, u "equals"), (0, u "([B[B)Z"), (28, u "(Ljava/lang/Object;)Z"), (1, .class_ 576), (0, u "java/lang/CharSequence"), (22, u "CASE_INSENSITIVE_ORDER"), (0, u "Ljava/util/Comparator;"), (409, u "([C)V"), (42, .fieldref 1054 1055), (0, .class_ 1056), (0, .nameAndType 1057 1058), (0, u "jdk/internal/util/Preconditions"), (0, u "SIOOBE_FORMATTER"), (0, u "Ljava/util/function/BiFunction;"), (0, .methodref 1054 1060), (0, .nameAndType 501 1061), (0, u "(IILjava/util/function/BiFunction;)I"), (39, u "serialPersistentFields"), (0, u "[Ljava/io/ObjectStreamField;"), (0, .class_ 1104), (0, u "java/lang/String$CaseInsensitiveComparator"), (1, .class_ 1107), (0, u "java/io/Serializable"), (0, .class_ 1109), (0, u "java/lang/Comparable"), (0, .class_ 1111), (0, u "java/lang/constant/Constable"), (0, .class_ 1113), (0, u "java/lang/constant/ConstantDesc"), (2, u "serialVersionUID"), (0, u "J"), (3, u "REPL"), (0, u "C"), (2, u "LATIN1"), (1, u "UTF16")] 323

def k7m0 : Method := { name := "<init>", desc := "()V", sig := { parameters := [], returnType := none }, accessFlags := 1, code := none }
def k7c1 : Code := { maxStack := 5, maxLocals := 2, code := jdk_42_method_3_code, exceptionTable := #[], attributes := #[] }
def k7m1 : Method := { name := "<init>", desc := "([C)V", sig := { parameters := [(.array .char)], returnType := none }, accessFlags := 1, code := some k7c1 }
def k7c2 : Code := { maxStack := 2, maxLocals := 2, code := jdk_42_method_56_code, exceptionTable := #[], attributes := #[] }
def k7m2 : Method := { name := "charAt", desc := "(I)C", sig := { parameters := [.int], returnType := some .char }, accessFlags := 1, code := some k7c2 }
def k7c3 : Code := { maxStack := 2, maxLocals := 3, code := jdk_42_method_66_code, exceptionTable := #[], attributes := #[] }
def k7m3 : Method := { name := "equals", desc := "(Ljava/lang/Object;)Z", sig := { parameters := [(.object "java/lang/Object")], returnType := some .boolean }, accessFlags := 1, code := some k7c3 }
def k7c4 : Code := { maxStack := 4, maxLocals := 6, code := jdk_42_method_149_code, exceptionTable := #[], attributes := #[] }
def k7m4 : Method := { name := "<init>", desc := "([CIILjava/lang/Void;)V", sig := { parameters := [(.array .char), .int, .int, (.object "java/lang/Void")], returnType := none }, accessFlags := 2, code := some k7c4 }
def k7c5 : Code := { maxStack := 1, maxLocals := 1, code := jdk_42_method_154_code, exceptionTable := #[], attributes := #[] }
def k7m5 : Method := { name := "isLatin1", desc := "()Z", sig := { parameters := [], returnType := some .boolean }, accessFlags := 0, code := some k7c5 }
def k7c6 : Code := { maxStack := 3, maxLocals := 2, code := jdk_42_method_155_code, exceptionTable := #[], attributes := #[] }
def k7m6 : Method := { name := "checkIndex", desc := "(II)V", sig := { parameters := [.int, .int], returnType := none }, accessFlags := 8, code := some k7c6 }
/-- java/lang/String -/
def k7 : Class := { plain "java/lang/String" (some 0) with
  accessFlags := 49
  interfaces := #[2, 3, 4, 5, 6]
  cf := some (fileOf pool7 10 #[.nestMembers #[1103]] #[{ accessFlags := 1, nameIndex := 5, descriptorIndex := 6, attributes := #[] }, { accessFlags := 1, nameIndex := 5, descriptorIndex := 1010, attributes := #[] }, { accessFlags := 1, nameIndex := 497, descriptorIndex := 427, attributes := #[] }, { accessFlags := 1, nameIndex := 543, descriptorIndex := 573, attributes := #[] }, { accessFlags := 2, nameIndex := 5, descriptorIndex := 29, attributes := #[] }, { accessFlags := 0, nameIndex := 494, descriptorIndex := 142, attributes := #[] }, { accessFlags := 8, nameIndex := 501, descriptorIndex := 391, attributes := #[] }] 49 2 #[1106, 1108, 575, 1110, 1112] #[{ accessFlags := 18, nameIndex := 13, descriptorIndex := 14, attributes := #[] }, { accessFlags := 18, nameIndex := 17, descriptorIndex := 18, attributes := #[] }, { accessFlags := 2, nameIndex := 21, descriptorIndex := 22, attributes := #[] }, { accessFlags := 2, nameIndex := 25, descriptorIndex := 26, attributes := #[] }, { accessFlags := 26, nameIndex := 1116, descriptorIndex := 1117, attributes := #[] }, { accessFlags := 24, nameIndex := 40, descriptorIndex := 26, attributes := #[] }, { accessFlags := 26, nameIndex := 1101, descriptorIndex := 1102, attributes := #[] }, { accessFlags := 26, nameIndex := 1121, descriptorIndex := 1122, attributes := #[] }, { accessFlags := 25, nameIndex := 599, descriptorIndex := 600, attributes := #[] }, { accessFlags := 24, nameIndex := 1125, descriptorIndex := 18, attributes := #[] }, { accessFlags := 24, nameIndex := 1127, descriptorIndex := 18, attributes := #[] }])
  fields := #[{ name := "value", type := (.array .byte), accessFlags := 18, slot := 0, constantValue := 0 }, { name := "coder", type := .byte, accessFlags := 18, slot := 1, constantValue := 0 }, { name := "hash", type := .int, accessFlags := 2, slot := 2, constantValue := 0 }, { name := "hashIsZero", type := .boolean, accessFlags := 2, slot := 3, constantValue := 0 }, { name := "serialVersionUID", type := .long, accessFlags := 26, slot := 0, constantValue := 0 }, { name := "COMPACT_STRINGS", type := .boolean, accessFlags := 24, slot := 1, constantValue := 0 }, { name := "serialPersistentFields", type := (.array (.object "java/io/ObjectStreamField")), accessFlags := 26, slot := 2, constantValue := 0 }, { name := "REPL", type := .char, accessFlags := 26, slot := 3, constantValue := 0 }, { name := "CASE_INSENSITIVE_ORDER", type := (.object "java/util/Comparator"), accessFlags := 25, slot := 4, constantValue := 0 }, { name := "LATIN1", type := .byte, accessFlags := 24, slot := 5, constantValue := 0 }, { name := "UTF16", type := .byte, accessFlags := 24, slot := 6, constantValue := 0 }]
  methods := #[k7m0, k7m1, k7m2, k7m3, k7m4, k7m5, k7m6]
  instanceTypes := #[(.array .byte), .byte, .int, .boolean]
  staticTypes := #[.long, .boolean, (.array (.object "java/io/ObjectStreamField")), .char, (.object "java/util/Comparator"), .byte, .byte]
  resolved := Array.replicate 1451 none
  statics := some 0 }

def pool8 : Array CpInfo := pool [(2, .class_ 4), (1, u "java/lang/Object"), (3, .class_ 10), (1, u "com/example/bundlewalk/bundlewalk/Options"), (0, u "values"), (0, u "Ljava/util/Map;"), (2, u "asksForHelp"), (0, u "Z"), (16, .class_ 34), (0, u "java/lang/String"), (2, u "isHelp"), (0, u "(Ljava/lang/String;)Z"), (14, u "(Ljava/lang/Object;)Z"), (22, .string 77), (0, u "--help"), (0, .methodref 33 79), (0, .nameAndType 80 53), (0, u "equals"), (0, .string 82), (0, u "-h"), (112, u "HELP"), (0, u "Ljava/lang/String;"), (1, u "SHORT_HELP")] 63

def k8c0 : Code := { maxStack := 2, maxLocals := 1, code := prog_2_method_3_code, exceptionTable := #[], attributes := #[] }
def k8m0 : Method := { name := "isHelp", desc := "(Ljava/lang/String;)Z", sig := { parameters := [(.object "java/lang/String")], returnType := some .boolean }, accessFlags := 8, code := some k8c0 }
/-- com/example/bundlewalk/bundlewalk/Options -/
def k8 : Class := { plain "com/example/bundlewalk/bundlewalk/Options" (some 0) with
  accessFlags := 48
  interfaces := #[]
  cf := some (fileOf pool8 8 #[] #[{ accessFlags := 8, nameIndex := 37, descriptorIndex := 38, attributes := #[] }] 48 2 #[] #[{ accessFlags := 24, nameIndex := 195, descriptorIndex := 196, attributes := #[] }, { accessFlags := 24, nameIndex := 198, descriptorIndex := 196, attributes := #[] }, { accessFlags := 18, nameIndex := 11, descriptorIndex := 12, attributes := #[] }, { accessFlags := 18, nameIndex := 15, descriptorIndex := 16, attributes := #[] }])
  fields := #[{ name := "HELP", type := (.object "java/lang/String"), accessFlags := 24, slot := 0, constantValue := 0 }, { name := "SHORT_HELP", type := (.object "java/lang/String"), accessFlags := 24, slot := 1, constantValue := 0 }, { name := "values", type := (.object "java/util/Map"), accessFlags := 18, slot := 0, constantValue := 0 }, { name := "asksForHelp", type := .boolean, accessFlags := 18, slot := 1, constantValue := 0 }]
  methods := #[k8m0]
  instanceTypes := #[(.object "java/util/Map"), .boolean]
  staticTypes := #[(.object "java/lang/String"), (.object "java/lang/String")]
  resolved := Array.replicate 262 none
  statics := none }

def pool9 : Array CpInfo := pool [(1, .class_ 2), (0, u "java/lang/String"), (1, .class_ 6), (1, u "java/lang/Object"), (0, u "<init>"), (0, u "()V"), (0, .methodref 1 10), (0, .nameAndType 11 12), (0, u "checkIndex"), (0, u "(II)V"), (1, .class_ 16), (1, u "java/lang/StringLatin1"), (36, u "([BI)C"), (67, u "$assertionsDisabled"), (0, u "Z"), (98, .class_ 223), (1, u "java/lang/StringLatin1$LinesSpliterator"), (28, u "charAt"), (28, u "equals"), (0, u "([B[B)Z"), (107, .class_ 391), (0, u "java/lang/StringLatin1$CharsSpliterator")] 3

def k9m0 : Method := { name := "<init>", desc := "()V", sig := { parameters := [], returnType := none }, accessFlags := 0, code := none }
def k9c1 : Code := { maxStack := 2, maxLocals := 2, code := jdk_43_method_2_code, exceptionTable := #[], attributes := #[] }
def k9m1 : Method := { name := "charAt", desc := "([BI)C", sig := { parameters := [(.array .byte), .int], returnType := some .char }, accessFlags := 9, code := some k9c1 }
def k9c2 : Code := { maxStack := 3, maxLocals := 3, code := jdk_43_method_13_code, exceptionTable := #[], attributes := #[] }
def k9m2 : Method := { name := "equals", desc := "([B[B)Z", sig := { parameters := [(.array .byte), (.array .byte)], returnType := some .boolean }, accessFlags := 9, code := some k9c2 }
/-- java/lang/StringLatin1 -/
def k9 : Class := { plain "java/lang/StringLatin1" (some 0) with
  accessFlags := 48
  interfaces := #[]
  cf := some (fileOf pool9 14 #[.nestMembers #[390, 221]] #[{ accessFlags := 0, nameIndex := 7, descriptorIndex := 8, attributes := #[] }, { accessFlags := 9, nameIndex := 252, descriptorIndex := 53, attributes := #[] }, { accessFlags := 9, nameIndex := 281, descriptorIndex := 282, attributes := #[] }] 48 4 #[] #[{ accessFlags := 4120, nameIndex := 121, descriptorIndex := 122, attributes := #[] }])
  fields := #[{ name := "$assertionsDisabled", type := .boolean, accessFlags := 4120, slot := 0, constantValue := 0 }]
  methods := #[k9m0, k9m1, k9m2]
  instanceTypes := #[]
  staticTypes := #[.boolean]
  resolved := Array.replicate 395 none
  statics := none }

def pool10 : Array CpInfo := pool [(6, .class_ 8), (1, u "java/lang/Object"), (0, u "<init>"), (0, u "()V"), (1, .class_ 14), (1, u "java/lang/StringUTF16"), (31, u "$assertionsDisabled"), (0, u "Z"), (13, u "HI_BYTE_SHIFT"), (0, u "I"), (2, u "LO_BYTE_SHIFT"), (49, .methodref 12 116), (0, .nameAndType 117 118), (0, u "compress"), (0, u "([CI[BII)I"), (3, u "([CII)[B"), (138, u "coderFromArrayLen"), (0, u "([BI)B"), (106, .class_ 371), (1, u "java/lang/StringUTF16$LinesSpliterator"), (58, u "MAX_LENGTH"), (196, .class_ 628), (0, u "java/lang/StringUTF16$CodePointsSpliterator"), (0, .class_ 630), (0, u "java/lang/StringUTF16$CharsSpliterator")] 4

def k10m0 : Method := { name := "<init>", desc := "()V", sig := { parameters := [], returnType := none }, accessFlags := 0, code := none }
def k10c1 : Code := { maxStack := 2, maxLocals := 2, code := jdk_52_method_15_code, exceptionTable := #[], attributes := #[] }
def k10m1 : Method := { name := "coderFromArrayLen", desc := "([BI)B", sig := { parameters := [(.array .byte), .int], returnType := some .byte }, accessFlags := 8, code := some k10c1 }
def k10c2 : Code := { maxStack := 5, maxLocals := 6, code := jdk_52_method_16_code, exceptionTable := #[], attributes := #[] }
def k10m2 : Method := { name := "compress", desc := "([CII)[B", sig := { parameters := [(.array .char), .int, .int], returnType := some (.array .byte) }, accessFlags := 9, code := some k10c2 }
def k10c3 : Code := { maxStack := 3, maxLocals := 7, code := jdk_52_method_21_code, exceptionTable := #[], attributes := #[] }
def k10m3 : Method := { name := "compress", desc := "([CI[BII)I", sig := { parameters := [(.array .char), .int, (.array .byte), .int, .int], returnType := some .int }, accessFlags := 9, code := some k10c3 }
/-- java/lang/StringUTF16 -/
def k10 : Class := { plain "java/lang/StringUTF16" (some 0) with
  accessFlags := 48
  interfaces := #[]
  cf := some (fileOf pool10 12 #[.nestMembers #[627, 629, 369]] #[{ accessFlags := 0, nameIndex := 9, descriptorIndex := 10, attributes := #[] }, { accessFlags := 8, nameIndex := 261, descriptorIndex := 262, attributes := #[] }, { accessFlags := 9, nameIndex := 117, descriptorIndex := 122, attributes := #[] }, { accessFlags := 9, nameIndex := 117, descriptorIndex := 118, attributes := #[] }] 48 6 #[] #[{ accessFlags := 26, nameIndex := 61, descriptorIndex := 62, attributes := #[] }, { accessFlags := 26, nameIndex := 65, descriptorIndex := 62, attributes := #[] }, { accessFlags := 24, nameIndex := 430, descriptorIndex := 62, attributes := #[] }, { accessFlags := 4120, nameIndex := 46, descriptorIndex := 47, attributes := #[] }])
  fields := #[{ name := "HI_BYTE_SHIFT", type := .int, accessFlags := 26, slot := 0, constantValue := 0 }, { name := "LO_BYTE_SHIFT", type := .int, accessFlags := 26, slot := 1, constantValue := 0 }, { name := "MAX_LENGTH", type := .int, accessFlags := 24, slot := 2, constantValue := 0 }, { name := "$assertionsDisabled", type := .boolean, accessFlags := 4120, slot := 3, constantValue := 0 }]
  methods := #[k10m0, k10m1, k10m2, k10m3]
  instanceTypes := #[]
  staticTypes := #[.int, .int, .int, .boolean]
  resolved := Array.replicate 635 none
  statics := none }

def pool11 : Array CpInfo := pool [(2, .class_ 4), (1, u "java/lang/Object"), (0, u "<init>"), (0, u "()V"), (17, .class_ 26), (1, u "jdk/internal/util/Preconditions"), (6, u "checkIndex"), (21, .class_ 56), (0, u "jdk/internal/util/Preconditions$4"), (57, .class_ 115), (0, u "jdk/internal/util/Preconditions$1"), (7, u "SIOOBE_FORMATTER"), (0, u "Ljava/util/function/BiFunction;"), (0, .class_ 126), (0, u "jdk/internal/util/Preconditions$2"), (3, u "AIOOBE_FORMATTER"), (0, .class_ 132), (0, u "jdk/internal/util/Preconditions$3"), (3, u "IOOBE_FORMATTER"), (41, u "(IILjava/util/function/BiFunction;)I")] 15

def k11m0 : Method := { name := "<init>", desc := "()V", sig := { parameters := [], returnType := none }, accessFlags := 1, code := none }
def k11c1 : Code := { maxStack := 3, maxLocals := 3, code := jdk_41_method_11_code, exceptionTable := #[], attributes := #[] }
def k11m1 : Method := { name := "checkIndex", desc := "(IILjava/util/function/BiFunction;)I", sig := { parameters := [.int, .int, (.object "java/util/function/BiFunction")], returnType := some .int }, accessFlags := 9, code := some k11c1 }
/-- jdk/internal/util/Preconditions -/
def k11 : Class := { plain "jdk/internal/util/Preconditions" (some 0) with
  accessFlags := 33
  interfaces := #[]
  cf := some (fileOf pool11 24 #[.nestMembers #[55, 131, 125, 114]] #[{ accessFlags := 1, nameIndex := 5, descriptorIndex := 6, attributes := #[] }, { accessFlags := 9, nameIndex := 33, descriptorIndex := 178, attributes := #[] }] 33 2 #[] #[{ accessFlags := 25, nameIndex := 123, descriptorIndex := 124, attributes := #[] }, { accessFlags := 25, nameIndex := 130, descriptorIndex := 124, attributes := #[] }, { accessFlags := 25, nameIndex := 136, descriptorIndex := 124, attributes := #[] }])
  fields := #[{ name := "SIOOBE_FORMATTER", type := (.object "java/util/function/BiFunction"), accessFlags := 25, slot := 0, constantValue := 0 }, { name := "AIOOBE_FORMATTER", type := (.object "java/util/function/BiFunction"), accessFlags := 25, slot := 1, constantValue := 0 }, { name := "IOOBE_FORMATTER", type := (.object "java/util/function/BiFunction"), accessFlags := 25, slot := 2, constantValue := 0 }]
  methods := #[k11m0, k11m1]
  instanceTypes := #[]
  staticTypes := #[(.object "java/util/function/BiFunction"), (.object "java/util/function/BiFunction"), (.object "java/util/function/BiFunction")]
  resolved := Array.replicate 194 none
  statics := some 1 }

def pool12 : Array CpInfo := pool [(9, u "<init>"), (6, .class_ 18), (1, u "java/lang/Object"), (0, u "()V"), (1, .class_ 23), (1, u "jdk/internal/util/ArraysSupport"), (0, u "LOG2_ARRAY_LONG_INDEX_SCALE"), (0, u "I"), (2, u "U"), (0, u "Ljdk/internal/misc/Unsafe;"), (8, u "BIG_ENDIAN"), (0, u "Z"), (8, u "LOG2_BYTE_BIT_SIZE"), (4, u "LOG2_ARRAY_INT_INDEX_SCALE"), (54, u "JLA"), (0, u "Ljdk/internal/access/JavaLangAccess;"), (11, u "LOG2_ARRAY_BOOLEAN_INDEX_SCALE"), (9, u "LOG2_ARRAY_BYTE_INDEX_SCALE"), (5, u "LOG2_ARRAY_CHAR_INDEX_SCALE"), (5, u "LOG2_ARRAY_SHORT_INDEX_SCALE"), (18, u "LOG2_ARRAY_FLOAT_INDEX_SCALE"), (24, u "LOG2_ARRAY_DOUBLE_INDEX_SCALE"), (89, u "T_BOOLEAN"), (2, u "T_CHAR"), (1, u "T_FLOAT"), (1, u "T_DOUBLE"), (1, u "T_BYTE"), (1, u "T_SHORT"), (1, u "T_INT"), (1, u "T_LONG"), (1, u "SOFT_MAX_ARRAY_LENGTH")] 83

def k12m0 : Method := { name := "<init>", desc := "()V", sig := { parameters := [], returnType := none }, accessFlags := 2, code := none }
/-- jdk/internal/util/ArraysSupport -/
def k12 : Class := { plain "jdk/internal/util/ArraysSupport" (some 0) with
  accessFlags := 33
  interfaces := #[]
  cf := some (fileOf pool12 21 #[] #[{ accessFlags := 2, nameIndex := 9, descriptorIndex := 19, attributes := #[] }] 33 16 #[] #[{ accessFlags := 24, nameIndex := 28, descriptorIndex := 29, attributes := #[] }, { accessFlags := 26, nameIndex := 38, descriptorIndex := 39, attributes := #[] }, { accessFlags := 25, nameIndex := 121, descriptorIndex := 25, attributes := #[] }, { accessFlags := 25, nameIndex := 131, descriptorIndex := 25, attributes := #[] }, { accessFlags := 25, nameIndex := 137, descriptorIndex := 25, attributes := #[] }, { accessFlags := 25, nameIndex := 143, descriptorIndex := 25, attributes := #[] }, { accessFlags := 25, nameIndex := 53, descriptorIndex := 25, attributes := #[] }, { accessFlags := 25, nameIndex := 24, descriptorIndex := 25, attributes := #[] }, { accessFlags := 25, nameIndex := 162, descriptorIndex := 25, attributes := #[] }, { accessFlags := 25, nameIndex := 187, descriptorIndex := 25, attributes := #[] }, { accessFlags := 26, nameIndex := 48, descriptorIndex := 25, attributes := #[] }, { accessFlags := 25, nameIndex := 277, descriptorIndex := 25, attributes := #[] }, { accessFlags := 25, nameIndex := 280, descriptorIndex := 25, attributes := #[] }, { accessFlags := 25, nameIndex := 282, descriptorIndex := 25, attributes := #[] }, { accessFlags := 25, nameIndex := 284, descriptorIndex := 25, attributes := #[] }, { accessFlags := 25, nameIndex := 286, descriptorIndex := 25, attributes := #[] }, { accessFlags := 25, nameIndex := 288, descriptorIndex := 25, attributes := #[] }, { accessFlags := 25, nameIndex := 290, descriptorIndex := 25, attributes := #[] }, { accessFlags := 25, nameIndex := 292, descriptorIndex := 25, attributes := #[] }, { accessFlags := 26, nameIndex := 108, descriptorIndex := 109, attributes := #[] }, { accessFlags := 25, nameIndex := 294, descriptorIndex := 25, attributes := #[] }])
  fields := #[{ name := "U", type := (.object "jdk/internal/misc/Unsafe"), accessFlags := 24, slot := 0, constantValue := 0 }, { name := "BIG_ENDIAN", type := .boolean, accessFlags := 26, slot := 1, constantValue := 0 }, { name := "LOG2_ARRAY_BOOLEAN_INDEX_SCALE", type := .int, accessFlags := 25, slot := 2, constantValue := 0 }, { name := "LOG2_ARRAY_BYTE_INDEX_SCALE", type := .int, accessFlags := 25, slot := 3, constantValue := 0 }, { name := "LOG2_ARRAY_CHAR_INDEX_SCALE", type := .int, accessFlags := 25, slot := 4, constantValue := 0 }, { name := "LOG2_ARRAY_SHORT_INDEX_SCALE", type := .int, accessFlags := 25, slot := 5, constantValue := 0 }, { name := "LOG2_ARRAY_INT_INDEX_SCALE", type := .int, accessFlags := 25, slot := 6, constantValue := 0 }, { name := "LOG2_ARRAY_LONG_INDEX_SCALE", type := .int, accessFlags := 25, slot := 7, constantValue := 0 }, { name := "LOG2_ARRAY_FLOAT_INDEX_SCALE", type := .int, accessFlags := 25, slot := 8, constantValue := 0 }, { name := "LOG2_ARRAY_DOUBLE_INDEX_SCALE", type := .int, accessFlags := 25, slot := 9, constantValue := 0 }, { name := "LOG2_BYTE_BIT_SIZE", type := .int, accessFlags := 26, slot := 10, constantValue := 0 }, { name := "T_BOOLEAN", type := .int, accessFlags := 25, slot := 11, constantValue := 0 }, { name := "T_CHAR", type := .int, accessFlags := 25, slot := 12, constantValue := 0 }, { name := "T_FLOAT", type := .int, accessFlags := 25, slot := 13, constantValue := 0 }, { name := "T_DOUBLE", type := .int, accessFlags := 25, slot := 14, constantValue := 0 }, { name := "T_BYTE", type := .int, accessFlags := 25, slot := 15, constantValue := 0 }, { name := "T_SHORT", type := .int, accessFlags := 25, slot := 16, constantValue := 0 }, { name := "T_INT", type := .int, accessFlags := 25, slot := 17, constantValue := 0 }, { name := "T_LONG", type := .int, accessFlags := 25, slot := 18, constantValue := 0 }, { name := "JLA", type := (.object "jdk/internal/access/JavaLangAccess"), accessFlags := 26, slot := 19, constantValue := 0 }, { name := "SOFT_MAX_ARRAY_LENGTH", type := .int, accessFlags := 25, slot := 20, constantValue := 0 }]
  methods := #[k12m0]
  instanceTypes := #[]
  staticTypes := #[(.object "jdk/internal/misc/Unsafe"), .boolean, .int, .int, .int, .int, .int, .int, .int, .int, .int, .int, .int, .int, .int, .int, .int, .int, .int, (.object "jdk/internal/access/JavaLangAccess"), .int]
  resolved := Array.replicate 378 none
  statics := none }

def pool13 : Array CpInfo := pool [(1, u "java/lang/Cloneable"), (0, .class_ 1), (0, u "java/lang/Object"), (0, .class_ 3)] 3

/-- java/lang/Cloneable -/
def k13 : Class := { plain "java/lang/Cloneable" (some 0) with
  accessFlags := 1537
  interfaces := #[]
  cf := some (fileOf pool13 2 #[] #[] 1537 4 #[] #[])
  fields := #[]
  methods := #[]
  instanceTypes := #[]
  staticTypes := #[]
  resolved := Array.replicate 8 none
  statics := none }

/-- the primitive byte -/
def k14 : Class := { plain "byte" none with kind := .primitive 'B', accessFlags := 0x411 }
/-- [B -/
def k15 : Class := { plain "[B" (some 0) with kind := .array 14 .byte, interfaces := #[13, 2], accessFlags := 1041 }

/-- the primitive char -/
def k16 : Class := { plain "char" none with kind := .primitive 'C', accessFlags := 0x411 }
/-- [C -/
def k17 : Class := { plain "[C" (some 0) with kind := .array 16 .char, interfaces := #[13, 2], accessFlags := 1041 }

/-- the primitive int -/
def k18 : Class := { plain "int" none with kind := .primitive 'I', accessFlags := 0x411 }
/-- [I -/
def k19 : Class := { plain "[I" (some 0) with kind := .array 18 .int, interfaces := #[13, 2], accessFlags := 1041 }

def heap : Heap := #[{ cls := 7, slots := #[.long 0, .int 1, .null, .int 0, .null, .int 0, .int 0], vm := .statics 7 },
  { cls := 11, slots := #[.null, .null, .null], vm := .statics 11 }]
def classes : Array Class := #[k0, k1, k2, k3, k4, k5, k6, k7, k8, k9, k10, k11, k12, k13, k14, k15, k16, k17, k18, k19]
def interned : List (Array UInt16 × Addr) := []
def slotsUsed : Nat := 10
def theMethod : MethodId := ⟨1, 1⟩
def args0 : Array Value := #[.int 5, .long 7, .int 1, .int 2]
def aboutOver (below : List Frame) : State where
  vm := { classes := classes, interned := interned.toArray }
  heap := heap
  slotsUsed := slotsUsed
  threads := #[{ frames := .invoking theMethod args0 :: below }]
def below0 : List Frame := [.native { method := ⟨0, 0⟩, args := #[] }]
def about1 : State := aboutOver below0
def p0 : Program := .bare "" "" ""
def e0 : Env := launch0.env 0 0 0
theorem w_frames : about1.frames = Frame.invoking theMethod args0 :: below0 := rfl
set_option maxRecDepth 65536 in
theorem w_args : argsFit about1.vm theMethod args0 = true := by decide +kernel
set_option maxRecDepth 65536 in
theorem w_heap : heapFits about1 = true := by decide +kernel
set_option maxRecDepth 65536 in
theorem w_runnable : about1.curStatus? = some .runnable := by decide +kernel
set_option maxRecDepth 65536 in
theorem w_alone : about1.alone = true := by decide +kernel
set_option maxRecDepth 65536 in
theorem w_named : about1.methodNamed? x = some theMethod := by decide +kernel
set_option maxRecDepth 65536 in
theorem w_hears : about1.hears theMethod below0 = true := by decide +kernel
set_option maxRecDepth 65536 in
theorem w_ripe : about1.ripe theMethod args0 below0 = true := by decide +kernel
theorem w_running : about1.status = .running := rfl
set_option maxRecDepth 65536 in
theorem w_room : about1.hasRoom e0.platform room_1 = true :=
  launch0.hasRoom_least _ room_1 (by decide +kernel) (by decide +kernel) (by decide +kernel) (by decide +kernel) (by decide +kernel) (by decide +kernel)
theorem allAtoms_all (ts : List Jvm.Cond) (a : Array Jvm.Value) (st : Jvm.State) : (allAtoms ts).before a st = ts.all (fun c => c.before a st) := by
  induction ts with
  | nil => rfl
  | cons c t ih =>
    show (Jvm.Cond.and c (allAtoms t)).before a st = _
    rw [Jvm.Cond.before_and, ih, List.all_cons]
def words1 : List Jvm.Cond := Jvm.Cond.code x code maxLocals ret :: tables_1
/-- a 'code' word, met by the world's own term for the bytes: nothing is compared byte by byte -/
theorem code_word {y : MethodName} {bytes : ByteArray} {mx : Nat} {rt : Option FieldType} {a : Array Value} {s : State} {m : MethodId} {meth : Method} {c : Code} (h1 : s.methodNamed? y = some m) (h2 : s.vm.method? m = some meth) (h3 : meth.code = some c) (h4 : c.code = bytes)
    (h5 : (c.maxLocals == mx && c.exceptionTable.isEmpty && decide (c.maxStack ≤ mostOperands) && decide (meth.sig.returnType = rt) && !meth.locks && decide (parseMethodDescriptor y.desc = some meth.sig)) = true) : (Jvm.Cond.code y bytes mx rt).before a s = true := by
  simp only [Bool.and_eq_true, beq_iff_eq, Bool.not_eq_true', decide_eq_true_eq] at h5
  obtain ⟨⟨⟨⟨⟨g1, g2⟩, g3⟩, g4⟩, g5⟩, g6⟩ := h5
  simp [Cond.before, Cond.holds, Cond.value, h1, h2, h3, h4, g1, g2, g3, g4, g5, g6]
def isCode : Jvm.Cond → Bool
  | .code _ _ _ _ => true
  | _ => false
theorem all_split {L : List Jvm.Cond} {P : Jvm.Cond → Bool} (h1 : L.all (fun c => isCode c || P c) = true) (h2 : ∀ c ∈ L.filter isCode, P c = true) : L.all P = true := by
  refine List.all_eq_true.mpr fun c hc => ?_
  have h := List.all_eq_true.mp h1 c hc
  rcases Bool.eq_false_or_eq_true (isCode c) with hi | hi
  · exact h2 c (List.mem_filter.mpr ⟨hc, hi⟩)
  · simpa [hi] using h
set_option maxRecDepth 65536 in
theorem w_c0 : (Jvm.Cond.code x code maxLocals ret).before args0 about1 = true := code_word (m := ⟨1, 1⟩) (meth := k1m1) (c := k1c1) (by decide +kernel) rfl rfl rfl (by decide +kernel)
set_option maxRecDepth 65536 in
theorem w_c1 : (Jvm.Cond.code ({ cls := "java/lang/String", name := "<init>", desc := "([C)V" } : Jvm.MethodName) jdk_42_method_3_code (2 : Nat) (Option.none : Option Jvm.ClassFile.FieldType)).before args0 about1 = true := code_word (m := ⟨7, 1⟩) (meth := k7m1) (c := k7c1) (by decide +kernel) rfl rfl rfl (by decide +kernel)
set_option maxRecDepth 65536 in
theorem w_c2 : (Jvm.Cond.code ({ cls := "java/lang/String", name := "<init>", desc := "([CIILjava/lang/Void;)V" } : Jvm.MethodName) jdk_42_method_149_code (6 : Nat) (Option.none : Option Jvm.ClassFile.FieldType)).before args0 about1 = true := code_word (m := ⟨7, 4⟩) (meth := k7m4) (c := k7c4) (by decide +kernel) rfl rfl rfl (by decide +kernel)
set_option maxRecDepth 65536 in
theorem w_c3 : (Jvm.Cond.code ({ cls := "java/lang/Object", name := "<init>", desc := "()V" } : Jvm.MethodName) object_method_1_code (1 : Nat) (Option.none : Option Jvm.ClassFile.FieldType)).before args0 about1 = true := code_word (m := ⟨0, 0⟩) (meth := k0m0) (c := k0c0) (by decide +kernel) rfl rfl rfl (by decide +kernel)
set_option maxRecDepth 65536 in
theorem w_c4 : (Jvm.Cond.code ({ cls := "com/example/bundlewalk/bundlewalk/Options", name := "isHelp", desc := "(Ljava/lang/String;)Z" } : Jvm.MethodName) prog_2_method_3_code (1 : Nat) (Option.some Jvm.ClassFile.FieldType.boolean)).before args0 about1 = true := code_word (m := ⟨8, 0⟩) (meth := k8m0) (c := k8c0) (by decide +kernel) rfl rfl rfl (by decide +kernel)
set_option maxRecDepth 65536 in
theorem w_c5 : (Jvm.Cond.code ({ cls := "java/lang/String", name := "equals", desc := "(Ljava/lang/Object;)Z" } : Jvm.MethodName) jdk_42_method_66_code (3 : Nat) (Option.some Jvm.ClassFile.FieldType.boolean)).before args0 about1 = true := code_word (m := ⟨7, 3⟩) (meth := k7m3) (c := k7c3) (by decide +kernel) rfl rfl rfl (by decide +kernel)
set_option maxRecDepth 65536 in
theorem w_c6 : (Jvm.Cond.code ({ cls := "java/lang/StringLatin1", name := "equals", desc := "([B[B)Z" } : Jvm.MethodName) jdk_43_method_13_code (3 : Nat) (Option.some Jvm.ClassFile.FieldType.boolean)).before args0 about1 = true := code_word (m := ⟨9, 2⟩) (meth := k9m2) (c := k9c2) (by decide +kernel) rfl rfl rfl (by decide +kernel)
set_option maxRecDepth 65536 in
theorem w_c7 : (Jvm.Cond.code ({ cls := "com/example/bundlewalk/bundlewalk/OptionsIsHelpPinLaw", name := "pick", desc := "(IIJII)C" } : Jvm.MethodName) method_3_code (7 : Nat) (Option.some Jvm.ClassFile.FieldType.char)).before args0 about1 = true := code_word (m := ⟨1, 2⟩) (meth := k1m2) (c := k1c2) (by decide +kernel) rfl rfl rfl (by decide +kernel)
set_option maxRecDepth 65536 in
theorem w_c8 : (Jvm.Cond.code ({ cls := "java/lang/StringUTF16", name := "compress", desc := "([CII)[B" } : Jvm.MethodName) jdk_52_method_16_code (6 : Nat) (Option.some (Jvm.ClassFile.FieldType.array Jvm.ClassFile.FieldType.byte))).before args0 about1 = true := code_word (m := ⟨10, 2⟩) (meth := k10m2) (c := k10c2) (by decide +kernel) rfl rfl rfl (by decide +kernel)
set_option maxRecDepth 65536 in
theorem w_c9 : (Jvm.Cond.code ({ cls := "java/lang/StringUTF16", name := "compress", desc := "([CI[BII)I" } : Jvm.MethodName) jdk_52_method_21_code (7 : Nat) (Option.some Jvm.ClassFile.FieldType.int)).before args0 about1 = true := code_word (m := ⟨10, 3⟩) (meth := k10m3) (c := k10c3) (by decide +kernel) rfl rfl rfl (by decide +kernel)
set_option maxRecDepth 65536 in
theorem w_c10 : (Jvm.Cond.code ({ cls := "java/lang/StringUTF16", name := "coderFromArrayLen", desc := "([BI)B" } : Jvm.MethodName) jdk_52_method_15_code (2 : Nat) (Option.some Jvm.ClassFile.FieldType.byte)).before args0 about1 = true := code_word (m := ⟨10, 1⟩) (meth := k10m1) (c := k10c1) (by decide +kernel) rfl rfl rfl (by decide +kernel)
set_option maxRecDepth 65536 in
theorem w_c11 : (Jvm.Cond.code ({ cls := "java/lang/String", name := "charAt", desc := "(I)C" } : Jvm.MethodName) jdk_42_method_56_code (2 : Nat) (Option.some Jvm.ClassFile.FieldType.char)).before args0 about1 = true := code_word (m := ⟨7, 2⟩) (meth := k7m2) (c := k7c2) (by decide +kernel) rfl rfl rfl (by decide +kernel)
set_option maxRecDepth 65536 in
theorem w_c12 : (Jvm.Cond.code ({ cls := "java/lang/String", name := "isLatin1", desc := "()Z" } : Jvm.MethodName) jdk_42_method_154_code (1 : Nat) (Option.some Jvm.ClassFile.FieldType.boolean)).before args0 about1 = true := code_word (m := ⟨7, 5⟩) (meth := k7m5) (c := k7c5) (by decide +kernel) rfl rfl rfl (by decide +kernel)
set_option maxRecDepth 65536 in
theorem w_c13 : (Jvm.Cond.code ({ cls := "java/lang/StringLatin1", name := "charAt", desc := "([BI)C" } : Jvm.MethodName) jdk_43_method_2_code (2 : Nat) (Option.some Jvm.ClassFile.FieldType.char)).before args0 about1 = true := code_word (m := ⟨9, 1⟩) (meth := k9m1) (c := k9c1) (by decide +kernel) rfl rfl rfl (by decide +kernel)
set_option maxRecDepth 65536 in
theorem w_c14 : (Jvm.Cond.code ({ cls := "java/lang/String", name := "checkIndex", desc := "(II)V" } : Jvm.MethodName) jdk_42_method_155_code (2 : Nat) (Option.none : Option Jvm.ClassFile.FieldType)).before args0 about1 = true := code_word (m := ⟨7, 6⟩) (meth := k7m6) (c := k7c6) (by decide +kernel) rfl rfl rfl (by decide +kernel)
set_option maxRecDepth 65536 in
theorem w_c15 : (Jvm.Cond.code ({ cls := "jdk/internal/util/Preconditions", name := "checkIndex", desc := "(IILjava/util/function/BiFunction;)I" } : Jvm.MethodName) jdk_41_method_11_code (3 : Nat) (Option.some Jvm.ClassFile.FieldType.int)).before args0 about1 = true := code_word (m := ⟨11, 1⟩) (meth := k11m1) (c := k11c1) (by decide +kernel) rfl rfl rfl (by decide +kernel)
def codes1 : List Jvm.Cond := [Jvm.Cond.code x code maxLocals ret, Jvm.Cond.code ({ cls := "java/lang/String", name := "<init>", desc := "([C)V" } : Jvm.MethodName) jdk_42_method_3_code (2 : Nat) (Option.none : Option Jvm.ClassFile.FieldType), Jvm.Cond.code ({ cls := "java/lang/String", name := "<init>", desc := "([CIILjava/lang/Void;)V" } : Jvm.MethodName) jdk_42_method_149_code (6 : Nat) (Option.none : Option Jvm.ClassFile.FieldType), Jvm.Cond.code ({ cls := "java/lang/Object", name := "<init>", desc := "()V" } : Jvm.MethodName) object_method_1_code (1 : Nat) (Option.none : Option Jvm.ClassFile.FieldType), Jvm.Cond.code ({ cls := "com/example/bundlewalk/bundlewalk/Options", name := "isHelp", desc := "(Ljava/lang/String;)Z" } : Jvm.MethodName) prog_2_method_3_code (1 : Nat) (Option.some Jvm.ClassFile.FieldType.boolean), Jvm.Cond.code ({ cls := "java/lang/String", name := "equals", desc := "(Ljava/lang/Object;)Z" } : Jvm.MethodName) jdk_42_method_66_code (3 : Nat) (Option.some Jvm.ClassFile.FieldType.boolean), Jvm.Cond.code ({ cls := "java/lang/StringLatin1", name := "equals", desc := "([B[B)Z" } : Jvm.MethodName) jdk_43_method_13_code (3 : Nat) (Option.some Jvm.ClassFile.FieldType.boolean), Jvm.Cond.code ({ cls := "com/example/bundlewalk/bundlewalk/OptionsIsHelpPinLaw", name := "pick", desc := "(IIJII)C" } : Jvm.MethodName) method_3_code (7 : Nat) (Option.some Jvm.ClassFile.FieldType.char), Jvm.Cond.code ({ cls := "java/lang/StringUTF16", name := "compress", desc := "([CII)[B" } : Jvm.MethodName) jdk_52_method_16_code (6 : Nat) (Option.some (Jvm.ClassFile.FieldType.array Jvm.ClassFile.FieldType.byte)), Jvm.Cond.code ({ cls := "java/lang/StringUTF16", name := "compress", desc := "([CI[BII)I" } : Jvm.MethodName) jdk_52_method_21_code (7 : Nat) (Option.some Jvm.ClassFile.FieldType.int), Jvm.Cond.code ({ cls := "java/lang/StringUTF16", name := "coderFromArrayLen", desc := "([BI)B" } : Jvm.MethodName) jdk_52_method_15_code (2 : Nat) (Option.some Jvm.ClassFile.FieldType.byte), Jvm.Cond.code ({ cls := "java/lang/String", name := "charAt", desc := "(I)C" } : Jvm.MethodName) jdk_42_method_56_code (2 : Nat) (Option.some Jvm.ClassFile.FieldType.char), Jvm.Cond.code ({ cls := "java/lang/String", name := "isLatin1", desc := "()Z" } : Jvm.MethodName) jdk_42_method_154_code (1 : Nat) (Option.some Jvm.ClassFile.FieldType.boolean), Jvm.Cond.code ({ cls := "java/lang/StringLatin1", name := "charAt", desc := "([BI)C" } : Jvm.MethodName) jdk_43_method_2_code (2 : Nat) (Option.some Jvm.ClassFile.FieldType.char), Jvm.Cond.code ({ cls := "java/lang/String", name := "checkIndex", desc := "(II)V" } : Jvm.MethodName) jdk_42_method_155_code (2 : Nat) (Option.none : Option Jvm.ClassFile.FieldType), Jvm.Cond.code ({ cls := "jdk/internal/util/Preconditions", name := "checkIndex", desc := "(IILjava/util/function/BiFunction;)I" } : Jvm.MethodName) jdk_41_method_11_code (3 : Nat) (Option.some Jvm.ClassFile.FieldType.int)]
set_option maxRecDepth 65536 in
theorem codes_eq : words1.filter isCode = codes1 := rfl
theorem w_codes : ∀ c ∈ words1.filter isCode, c.before args0 about1 = true := by
  rw [codes_eq]
  intro c hc
  simp only [codes1, List.mem_cons, List.not_mem_nil, or_false] at hc
  rcases hc with rfl | rfl | rfl | rfl | rfl | rfl | rfl | rfl | rfl | rfl | rfl | rfl | rfl | rfl | rfl | rfl
  · exact w_c0
  · exact w_c1
  · exact w_c2
  · exact w_c3
  · exact w_c4
  · exact w_c5
  · exact w_c6
  · exact w_c7
  · exact w_c8
  · exact w_c9
  · exact w_c10
  · exact w_c11
  · exact w_c12
  · exact w_c13
  · exact w_c14
  · exact w_c15
set_option maxRecDepth 65536 in
theorem w_t1 : (words1.take 24).all (fun c => isCode c || c.before args0 about1) = true := by decide +kernel
set_option maxRecDepth 65536 in
theorem w_t2 : ((words1.drop 24).take 24).all (fun c => isCode c || c.before args0 about1) = true := by decide +kernel
set_option maxRecDepth 65536 in
theorem w_t3 : (((words1.drop 24).drop 24).take 24).all (fun c => isCode c || c.before args0 about1) = true := by decide +kernel
set_option maxRecDepth 65536 in
theorem w_t4 : (((words1.drop 24).drop 24).drop 24).all (fun c => isCode c || c.before args0 about1) = true := by decide +kernel
theorem w_tables : (allAtoms (Jvm.Cond.code x code maxLocals ret :: tables_1)).before args0 about1 = true := by
  rw [allAtoms_all]
  show words1.all (fun c => c.before args0 about1) = true
  refine all_split ?_ w_codes
  rw [← List.take_append_drop 24 words1, List.all_append, w_t1, ← List.take_append_drop 24 (words1.drop 24), List.all_append, w_t2, ← List.take_append_drop 24 ((words1.drop 24).drop 24), List.all_append, w_t3, w_t4]
  rfl
set_option maxRecDepth 65536 in
theorem w_rest : rest_1_c.before args0 about1 = true := by decide +kernel
set_option maxRecDepth 65536 in
theorem w_case : (Jvm.Cond.and given_1 narrow_1).before args0 about1 = true := by decide +kernel
set_option maxRecDepth 65536 in
theorem w_consts : constsHeld consts_1 about1 := Jvm.Lit.constsHeldB_iff.mp (by decide +kernel)
theorem w_applies : (headSpec (Jvm.Cond.code x code maxLocals ret :: tables_1) room_1).applies x e0.platform about1 = true :=
  (Spec.applies_iff w_frames).mpr ⟨w_running, w_runnable, w_alone, w_named, w_hears, w_ripe, w_room, w_tables⟩
theorem atStart : AtStart classFile x code maxLocals ret World_1 tables_1 room_1 Calls_1 rest_1 Pre_1 launch0 p0 e0 about1 theMethod args0 below0 :=
  ⟨lists_1, trivial, launch0.admits_env _ _ _, launch0.least_env, fairChoices_fair.cas, fairChoices_fair.clock, w_frames, w_args, w_heap, w_applies, ⟨w_consts, trivial⟩, w_rest, w_case⟩
end start1
theorem witness_1 : WitnessClaimed_1 := ⟨start1.p0, start1.e0, start1.about1, start1.theMethod, start1.args0, start1.below0, start1.atStart⟩
end Jvm.Pilot.@@N@@
