import JvmDerived
import JvmDerived.Pilot.@@N@@Statement
import JvmDerived.Pilot.@@N@@Code
set_option linter.unusedVariables false
set_option linter.unusedSimpArgs false
namespace Jvm.OwnKit
open Jvm Jvm.ClassFile Sem Op Lib Jvm.Free Jvm.Stand Jvm.LawKit Jvm.RoadKit
/-- the run from here ends in a return that answers Q, having written new cells alone -/
def Ends (p : Program) (e : Env) (below : List Frame) (s : State) (n0 : Nat) (Q : Option Value → Heap → Prop) (k n : Nat) (T : State) (g : JFrame) : Prop :=
  ∃ s₂ o, Steps p.tables e below (T.setTop g) s₂ ∧ s₂.status = .running ∧ Ended s₂ below o ∧ ∃ v L, o = .returned v ∧ (Fr n0 L ∧ Q v s₂.heap) ∧ FrameEnd s o s₂ L k n
theorem Ends.step {p : Program} {e : Env} {below : List Frame} {s : State} {n0 : Nat} {Q : Option Value → Heap → Prop} {k n : Nat} {T T' : State} {g g' : JFrame} (K : Ends p e below s n0 Q k n T' g') (f : ∀ t, Steps p.tables e below (T'.setTop g') t → Steps p.tables e below (T.setTop g) t) : Ends p e below s n0 Q k n T g := by
  obtain ⟨s2, o, h, r⟩ := K
  exact ⟨s2, o, f _ h, r⟩
/-- what is the same through a whole body -/
def Cx (Z : State) (mn : MethodName) (code : ByteArray) (maxL : Nat) (ret : Option FieldType) (p : Program) (s : State) (m : MethodId) (meth : Method) (c : Code) : Prop :=
  p.tables.exec = Jvm.exec ∧ Z.Warmed39 s.vm ∧ c.code = code ∧ c.maxLocals = maxL ∧ s.vm.findClass mn.cls = some m.cls ∧ meth.sig.returnType = ret ∧ meth.locks = false ∧ meth.name = mn.name
/-- from this pc, these locals and this stack, over the heap h, at most k cells and n slots made so far, the body ends as Q says -/
def Go (l : Launch) (Z : State) (mn : MethodName) (code : ByteArray) (maxL : Nat) (ret : Option FieldType) (R : Room) (n0 : Nat) (Q : Option Value → Heap → Prop) (h : Heap) (k n : Nat) (pc : Nat) (Ls : Array Slot) (st : List Value) : Prop :=
  ∀ (p : Program) (e : Env) (s : State) (m : MethodId) (args : Array Value) (below : List Frame) (meth : Method) (c : Code) (T : State) (locs : List Loc) (k' n' : Nat),
    Cx Z mn code maxL ret p s m meth c → Stand p l e R s m args below meth c T locs k' n' → k' ≤ k → n' ≤ n → Fr n0 locs → T.heap = h → Ends p e below s n0 Q R.cells R.slots T (mkF m pc Ls st)
/-- the answer of a body that returns a value | nothing -/
def RV (P : Value → Heap → Prop) : Option Value → Heap → Prop := fun v h => ∃ w, v = some w ∧ P w h
def RN (P : Heap → Prop) : Option Value → Heap → Prop := fun v h => v = none ∧ P h
section Laws
variable {l : Launch} {Z : State} {mn : MethodName} {code : ByteArray} {maxL : Nat} {ret : Option FieldType} {R : Room} {n0 : Nat} {Q : Option Value → Heap → Prop} {h : Heap} {k n pc q : Nat} {Ls Ls' : Array Slot} {st st' : List Value} {a0 : Array Value}
theorem Go.plain (K : Go l Z mn code maxL ret R n0 Q h k n q Ls' st') (f : ∀ (p : Program) (e : Env) (s : State) (m : MethodId) (args : Array Value) (below : List Frame) (meth : Method) (c : Code) (T : State) (locs : List Loc) (k' n' : Nat), p.tables.exec = Jvm.exec → c.code = code → Stand p l e R s m args below meth c T locs k' n' → ∀ t, Steps p.tables e below (T.setTop (mkF m q Ls' st')) t → Steps p.tables e below (T.setTop (mkF m pc Ls st)) t) : Go l Z mn code maxL ret R n0 Q h k n pc Ls st :=
  fun p e s m args below meth c T locs k' n' C X hk hn N eT => (K p e s m args below meth c T locs k' n' C X hk hn N eT).step (f p e s m args below meth c T locs k' n' C.1 C.2.2.1 X)
theorem Go.mono {k1 n1 : Nat} (K : Go l Z mn code maxL ret R n0 Q h k n pc Ls st) (h1 : k1 ≤ k) (h2 : n1 ≤ n) : Go l Z mn code maxL ret R n0 Q h k1 n1 pc Ls st :=
  fun p e s m args below meth c T locs k' n' C X hk hn N eT => K p e s m args below meth c T locs k' n' C X (Nat.le_trans hk h1) (Nat.le_trans hn h2) N eT
theorem Go.imp {Q' : Option Value → Heap → Prop} (K : Go l Z mn code maxL ret R n0 Q h k n pc Ls st) (f : ∀ v h, Q v h → Q' v h) : Go l Z mn code maxL ret R n0 Q' h k n pc Ls st :=
  fun p e s m args below meth c T locs k' n' C X hk hn N eT => by
    obtain ⟨s2, o, h1, h2, h3, v, L, h4, h5, h6⟩ := K p e s m args below meth c T locs k' n' C X hk hn N eT
    exact ⟨s2, o, h1, h2, h3, v, L, h4, ⟨h5.1, f _ _ h5.2⟩, h6⟩
theorem Go.met {as : Array Value} (pn : plainName mn.cls = true) (hef : ∀ m, entryFrame m as maxL = mkF m 0 Ls []) (G : Go l Z mn code maxL ret R n0 Q h 0 0 0 Ls []) (ws : List Jvm.Cond) :
    MetFree l mn (head1 (Jvm.Cond.code mn code maxL ret :: ws) R) (fun a U => a = as ∧ Z.Warmed39 U.vm ∧ U.heap = h) (fun _ _ _ _ _ => True) (fun _ U o U' => ∃ v L, o = .returned v ∧ (Fr n0 L ∧ Q v U'.heap) ∧ FrameEnd U o U' L R.cells R.slots) := by
  refine MetFree.of_bodySF (plainFor_of_name pn) hisR ?_
  intro p e s m args below meth c s₁ Bd hml0 hP hK
  obtain ⟨rfl, hZ, hh⟩ := hP
  have e0 : s₁.heap = h := by rw [← hh, Bd.state]; rfl
  rw [hef]
  exact G p e s m _ below meth c s₁ [] 0 0 ⟨Bd.exec, hZ, Bd.bytes, hml0, findClass_of_methodNamed Bd.named, Bd.returns, BodyLoose.notSynchronized Bd, (name_of_methodNamed Bd.named Bd.method).1⟩ (Stand.of_body Bd) (Nat.le_refl _) (Nat.le_refl _) (Fr.nil n0) e0

theorem Go.iloadN {i : Fin 4} {v : Int32} (hd : decode code pc = .ok (.iload_n i, 1)) (hq : q = pc + 1) (hl : Ls[i.val]? = some (.val (.int v))) (K : Go l Z mn code maxL ret R n0 Q h k n q Ls (.int v :: st)) : Go l Z mn code maxL ret R n0 Q h k n pc Ls (st) := by
  subst hq
  exact K.plain fun p e s m args below meth c T locs k' n' hx hby X t r => XS.iloadN X.here hx rfl (hb hby hd) hl r
theorem Go.iload {i : Nat} {v : Int32} (hd : decode code pc = .ok (.iload i, 2)) (hq : q = pc + 2) (hl : Ls[i]? = some (.val (.int v))) (K : Go l Z mn code maxL ret R n0 Q h k n q Ls (.int v :: st)) : Go l Z mn code maxL ret R n0 Q h k n pc Ls (st) := by
  subst hq
  exact K.plain fun p e s m args below meth c T locs k' n' hx hby X t r => XS.iload X.here hx rfl (hb hby hd) hl r
theorem Go.lloadN {i : Fin 4} {v : Int64} (hd : decode code pc = .ok (.lload_n i, 1)) (hq : q = pc + 1) (hl : Ls[i.val]? = some (.val (.long v))) (K : Go l Z mn code maxL ret R n0 Q h k n q Ls (.long v :: st)) : Go l Z mn code maxL ret R n0 Q h k n pc Ls (st) := by
  subst hq
  exact K.plain fun p e s m args below meth c T locs k' n' hx hby X t r => XT.lloadN X.here hx rfl (hb hby hd) hl r
theorem Go.lload {i : Nat} {v : Int64} (hd : decode code pc = .ok (.lload i, 2)) (hq : q = pc + 2) (hl : Ls[i]? = some (.val (.long v))) (K : Go l Z mn code maxL ret R n0 Q h k n q Ls (.long v :: st)) : Go l Z mn code maxL ret R n0 Q h k n pc Ls (st) := by
  subst hq
  exact K.plain fun p e s m args below meth c T locs k' n' hx hby X t r => XT.lload X.here hx rfl (hb hby hd) hl r
theorem Go.aloadN {i : Fin 4} {v : Value} (hd : decode code pc = .ok (.aload_n i, 1)) (hq : q = pc + 1) (hl : Ls[i.val]? = some (.val v)) (hv : v.isRef = true) (K : Go l Z mn code maxL ret R n0 Q h k n q Ls (v :: st)) : Go l Z mn code maxL ret R n0 Q h k n pc Ls (st) := by
  subst hq
  exact K.plain fun p e s m args below meth c T locs k' n' hx hby X t r => XS.aloadN X.here hx rfl (hb hby hd) hl hv r
theorem Go.aload {i : Nat} {v : Value} (hd : decode code pc = .ok (.aload i, 2)) (hq : q = pc + 2) (hl : Ls[i]? = some (.val v)) (hv : v.isRef = true) (K : Go l Z mn code maxL ret R n0 Q h k n q Ls (v :: st)) : Go l Z mn code maxL ret R n0 Q h k n pc Ls (st) := by
  subst hq
  exact K.plain fun p e s m args below meth c T locs k' n' hx hby X t r => XS.aload X.here hx rfl (hb hby hd) hl hv r
theorem Go.istoreN {i : Fin 4} {v : Int32} (hd : decode code pc = .ok (.istore_n i, 1)) (hq : q = pc + 1) (hl : storeLocals Ls i.val (.int v) = some Ls') (K : Go l Z mn code maxL ret R n0 Q h k n q Ls' (st)) : Go l Z mn code maxL ret R n0 Q h k n pc Ls (.int v :: st) := by
  subst hq
  exact K.plain fun p e s m args below meth c T locs k' n' hx hby X t r => XS.istoreN X.here hx rfl (hb hby hd) rfl hl r
theorem Go.istore {i : Nat} {v : Int32} (hd : decode code pc = .ok (.istore i, 2)) (hq : q = pc + 2) (hl : storeLocals Ls i (.int v) = some Ls') (K : Go l Z mn code maxL ret R n0 Q h k n q Ls' (st)) : Go l Z mn code maxL ret R n0 Q h k n pc Ls (.int v :: st) := by
  subst hq
  exact K.plain fun p e s m args below meth c T locs k' n' hx hby X t r => XS.istore X.here hx rfl (hb hby hd) rfl hl r
theorem Go.lstoreN {i : Fin 4} {v : Int64} (hd : decode code pc = .ok (.lstore_n i, 1)) (hq : q = pc + 1) (hl : storeLocals Ls i.val (.long v) = some Ls') (K : Go l Z mn code maxL ret R n0 Q h k n q Ls' (st)) : Go l Z mn code maxL ret R n0 Q h k n pc Ls (.long v :: st) := by
  subst hq
  exact K.plain fun p e s m args below meth c T locs k' n' hx hby X t r => XT.lstoreN X.here hx rfl (hb hby hd) rfl hl r
theorem Go.lstore {i : Nat} {v : Int64} (hd : decode code pc = .ok (.lstore i, 2)) (hq : q = pc + 2) (hl : storeLocals Ls i (.long v) = some Ls') (K : Go l Z mn code maxL ret R n0 Q h k n q Ls' (st)) : Go l Z mn code maxL ret R n0 Q h k n pc Ls (.long v :: st) := by
  subst hq
  exact K.plain fun p e s m args below meth c T locs k' n' hx hby X t r => XT.lstore X.here hx rfl (hb hby hd) rfl hl r
theorem Go.astoreN {i : Fin 4} {v : Value} (hd : decode code pc = .ok (.astore_n i, 1)) (hq : q = pc + 1) (hv : v.isRef = true) (hl : storeLocals Ls i.val v = some Ls') (K : Go l Z mn code maxL ret R n0 Q h k n q Ls' (st)) : Go l Z mn code maxL ret R n0 Q h k n pc Ls (v :: st) := by
  subst hq
  exact K.plain fun p e s m args below meth c T locs k' n' hx hby X t r => XS.astoreN X.here hx rfl (hb hby hd) rfl hv hl r
theorem Go.astore {i : Nat} {v : Value} (hd : decode code pc = .ok (.astore i, 2)) (hq : q = pc + 2) (hv : v.isRef = true) (hl : storeLocals Ls i v = some Ls') (K : Go l Z mn code maxL ret R n0 Q h k n q Ls' (st)) : Go l Z mn code maxL ret R n0 Q h k n pc Ls (v :: st) := by
  subst hq
  exact K.plain fun p e s m args below meth c T locs k' n' hx hby X t r => XS.astore X.here hx rfl (hb hby hd) rfl hv hl r
theorem Go.iconst {i : Int} {x : Int32} (hd : decode code pc = .ok (.iconst i, 1)) (hq : q = pc + 1) (hi : Int32.ofInt i = x) (K : Go l Z mn code maxL ret R n0 Q h k n q Ls (.int x :: st)) : Go l Z mn code maxL ret R n0 Q h k n pc Ls (st) := by
  subst hq
  exact K.plain fun p e s m args below meth c T locs k' n' hx hby X t r => XS.iconst X.here hx rfl (hb hby hd) (by rw [hi]; exact r)
theorem Go.bipush {i : Int} {x : Int32} (hd : decode code pc = .ok (.bipush i, 2)) (hq : q = pc + 2) (hi : (Int8.ofInt i).toInt32 = x) (K : Go l Z mn code maxL ret R n0 Q h k n q Ls (.int x :: st)) : Go l Z mn code maxL ret R n0 Q h k n pc Ls (st) := by
  subst hq
  exact K.plain fun p e s m args below meth c T locs k' n' hx hby X t r => XS.bipush X.here hx rfl (hb hby hd) (by rw [hi]; exact r)
theorem Go.sipush {i : Int} {x : Int32} (hd : decode code pc = .ok (.sipush i, 3)) (hq : q = pc + 3) (hi : (Int16.ofInt i).toInt32 = x) (K : Go l Z mn code maxL ret R n0 Q h k n q Ls (.int x :: st)) : Go l Z mn code maxL ret R n0 Q h k n pc Ls (st) := by
  subst hq
  exact K.plain fun p e s m args below meth c T locs k' n' hx hby X t r => XS.sipush X.here hx rfl (hb hby hd) (by rw [hi]; exact r)
theorem Go.lconst {i : Fin 2} {x : Int64} (hd : decode code pc = .ok (.lconst i, 1)) (hq : q = pc + 1) (hi : Int64.ofNat i = x) (K : Go l Z mn code maxL ret R n0 Q h k n q Ls (.long x :: st)) : Go l Z mn code maxL ret R n0 Q h k n pc Ls (st) := by
  subst hq
  exact K.plain fun p e s m args below meth c T locs k' n' hx hby X t r => XT.lconst X.here hx rfl (hb hby hd) (by rw [hi]; exact r)
theorem Go.aconstNull (hd : decode code pc = .ok (.aconst_null, 1)) (hq : q = pc + 1) (K : Go l Z mn code maxL ret R n0 Q h k n q Ls (.null :: st)) : Go l Z mn code maxL ret R n0 Q h k n pc Ls (st) := by
  subst hq
  exact K.plain fun p e s m args below meth c T locs k' n' hx hby X t r => XS.aconstNull X.here hx rfl (hb hby hd) r
theorem Go.iadd {x y : Int32} (hd : decode code pc = .ok (.iadd, 1)) (hq : q = pc + 1) (K : Go l Z mn code maxL ret R n0 Q h k n q Ls (.int (x + y) :: st)) : Go l Z mn code maxL ret R n0 Q h k n pc Ls (.int y :: .int x :: st) := by
  subst hq
  exact K.plain fun p e s m args below meth c T locs k' n' hx hby X t r => XS.iadd X.here hx rfl (hb hby hd) rfl r
theorem Go.isub {x y : Int32} (hd : decode code pc = .ok (.isub, 1)) (hq : q = pc + 1) (K : Go l Z mn code maxL ret R n0 Q h k n q Ls (.int (x - y) :: st)) : Go l Z mn code maxL ret R n0 Q h k n pc Ls (.int y :: .int x :: st) := by
  subst hq
  exact K.plain fun p e s m args below meth c T locs k' n' hx hby X t r => XS.isub X.here hx rfl (hb hby hd) rfl r
theorem Go.iand {x y : Int32} (hd : decode code pc = .ok (.iand, 1)) (hq : q = pc + 1) (K : Go l Z mn code maxL ret R n0 Q h k n q Ls (.int (x &&& y) :: st)) : Go l Z mn code maxL ret R n0 Q h k n pc Ls (.int y :: .int x :: st) := by
  subst hq
  exact K.plain fun p e s m args below meth c T locs k' n' hx hby X t r => XS.iand X.here hx rfl (hb hby hd) rfl r
theorem Go.imul {x y : Int32} (hd : decode code pc = .ok (.imul, 1)) (hq : q = pc + 1) (K : Go l Z mn code maxL ret R n0 Q h k n q Ls (.int (x * y) :: st)) : Go l Z mn code maxL ret R n0 Q h k n pc Ls (.int y :: .int x :: st) := by
  subst hq
  exact K.plain fun p e s m args below meth c T locs k' n' hx hby X t r => XS.imul X.here hx rfl (hb hby hd) rfl r
theorem Go.ixor {x y : Int32} (hd : decode code pc = .ok (.ixor, 1)) (hq : q = pc + 1) (K : Go l Z mn code maxL ret R n0 Q h k n q Ls (.int (x ^^^ y) :: st)) : Go l Z mn code maxL ret R n0 Q h k n pc Ls (.int y :: .int x :: st) := by
  subst hq
  exact K.plain fun p e s m args below meth c T locs k' n' hx hby X t r => XT.ixor X.here hx rfl (hb hby hd) rfl r
theorem Go.ior {x y : Int32} (hd : decode code pc = .ok (.ior, 1)) (hq : q = pc + 1) (K : Go l Z mn code maxL ret R n0 Q h k n q Ls (.int (x ||| y) :: st)) : Go l Z mn code maxL ret R n0 Q h k n pc Ls (.int y :: .int x :: st) := by
  subst hq
  exact K.plain fun p e s m args below meth c T locs k' n' hx hby X t r => XT.ior X.here hx rfl (hb hby hd) rfl r
theorem Go.ishl {x y : Int32} (hd : decode code pc = .ok (.ishl, 1)) (hq : q = pc + 1) (K : Go l Z mn code maxL ret R n0 Q h k n q Ls (.int (x <<< (y &&& 31)) :: st)) : Go l Z mn code maxL ret R n0 Q h k n pc Ls (.int y :: .int x :: st) := by
  subst hq
  exact K.plain fun p e s m args below meth c T locs k' n' hx hby X t r => XT.ishl X.here hx rfl (hb hby hd) rfl r
theorem Go.ishr {x y : Int32} (hd : decode code pc = .ok (.ishr, 1)) (hq : q = pc + 1) (K : Go l Z mn code maxL ret R n0 Q h k n q Ls (.int (x >>> (y &&& 31)) :: st)) : Go l Z mn code maxL ret R n0 Q h k n pc Ls (.int y :: .int x :: st) := by
  subst hq
  exact K.plain fun p e s m args below meth c T locs k' n' hx hby X t r => XT.ishr X.here hx rfl (hb hby hd) rfl r
theorem Go.iushr {x y : Int32} (hd : decode code pc = .ok (.iushr, 1)) (hq : q = pc + 1) (K : Go l Z mn code maxL ret R n0 Q h k n q Ls (.int (XT.ushr x y) :: st)) : Go l Z mn code maxL ret R n0 Q h k n pc Ls (.int y :: .int x :: st) := by
  subst hq
  exact K.plain fun p e s m args below meth c T locs k' n' hx hby X t r => XT.iushr X.here hx rfl (hb hby hd) rfl r
theorem Go.ladd {x y : Int64} (hd : decode code pc = .ok (.ladd, 1)) (hq : q = pc + 1) (K : Go l Z mn code maxL ret R n0 Q h k n q Ls (.long (x + y) :: st)) : Go l Z mn code maxL ret R n0 Q h k n pc Ls (.long y :: .long x :: st) := by
  subst hq
  exact K.plain fun p e s m args below meth c T locs k' n' hx hby X t r => XT.ladd X.here hx rfl (hb hby hd) rfl r
theorem Go.lsub {x y : Int64} (hd : decode code pc = .ok (.lsub, 1)) (hq : q = pc + 1) (K : Go l Z mn code maxL ret R n0 Q h k n q Ls (.long (x - y) :: st)) : Go l Z mn code maxL ret R n0 Q h k n pc Ls (.long y :: .long x :: st) := by
  subst hq
  exact K.plain fun p e s m args below meth c T locs k' n' hx hby X t r => XT.lsub X.here hx rfl (hb hby hd) rfl r
theorem Go.lmul {x y : Int64} (hd : decode code pc = .ok (.lmul, 1)) (hq : q = pc + 1) (K : Go l Z mn code maxL ret R n0 Q h k n q Ls (.long (x * y) :: st)) : Go l Z mn code maxL ret R n0 Q h k n pc Ls (.long y :: .long x :: st) := by
  subst hq
  exact K.plain fun p e s m args below meth c T locs k' n' hx hby X t r => XT.lmul X.here hx rfl (hb hby hd) rfl r
theorem Go.land {x y : Int64} (hd : decode code pc = .ok (.land, 1)) (hq : q = pc + 1) (K : Go l Z mn code maxL ret R n0 Q h k n q Ls (.long (x &&& y) :: st)) : Go l Z mn code maxL ret R n0 Q h k n pc Ls (.long y :: .long x :: st) := by
  subst hq
  exact K.plain fun p e s m args below meth c T locs k' n' hx hby X t r => XT.land X.here hx rfl (hb hby hd) rfl r
theorem Go.lor {x y : Int64} (hd : decode code pc = .ok (.lor, 1)) (hq : q = pc + 1) (K : Go l Z mn code maxL ret R n0 Q h k n q Ls (.long (x ||| y) :: st)) : Go l Z mn code maxL ret R n0 Q h k n pc Ls (.long y :: .long x :: st) := by
  subst hq
  exact K.plain fun p e s m args below meth c T locs k' n' hx hby X t r => XT.lor X.here hx rfl (hb hby hd) rfl r
theorem Go.lxor {x y : Int64} (hd : decode code pc = .ok (.lxor, 1)) (hq : q = pc + 1) (K : Go l Z mn code maxL ret R n0 Q h k n q Ls (.long (x ^^^ y) :: st)) : Go l Z mn code maxL ret R n0 Q h k n pc Ls (.long y :: .long x :: st) := by
  subst hq
  exact K.plain fun p e s m args below meth c T locs k' n' hx hby X t r => XT.lxor X.here hx rfl (hb hby hd) rfl r
theorem Go.lshl {x : Int64} {y : Int32} (hd : decode code pc = .ok (.lshl, 1)) (hq : q = pc + 1) (K : Go l Z mn code maxL ret R n0 Q h k n q Ls (.long (x <<< (y.toInt64 &&& 63)) :: st)) : Go l Z mn code maxL ret R n0 Q h k n pc Ls (.int y :: .long x :: st) := by
  subst hq
  exact K.plain fun p e s m args below meth c T locs k' n' hx hby X t r => XT.lshl X.here hx rfl (hb hby hd) rfl r
theorem Go.lshr {x : Int64} {y : Int32} (hd : decode code pc = .ok (.lshr, 1)) (hq : q = pc + 1) (K : Go l Z mn code maxL ret R n0 Q h k n q Ls (.long (x >>> (y.toInt64 &&& 63)) :: st)) : Go l Z mn code maxL ret R n0 Q h k n pc Ls (.int y :: .long x :: st) := by
  subst hq
  exact K.plain fun p e s m args below meth c T locs k' n' hx hby X t r => XT.lshr X.here hx rfl (hb hby hd) rfl r
theorem Go.lushr {x : Int64} {y : Int32} (hd : decode code pc = .ok (.lushr, 1)) (hq : q = pc + 1) (K : Go l Z mn code maxL ret R n0 Q h k n q Ls (.long (XT.ushrL x y) :: st)) : Go l Z mn code maxL ret R n0 Q h k n pc Ls (.int y :: .long x :: st) := by
  subst hq
  exact K.plain fun p e s m args below meth c T locs k' n' hx hby X t r => XT.lushr X.here hx rfl (hb hby hd) rfl r
theorem Go.idiv {x y : Int32} (hd : decode code pc = .ok (.idiv, 1)) (hq : q = pc + 1) (hy : y ≠ 0) (K : Go l Z mn code maxL ret R n0 Q h k n q Ls (.int (x / y) :: st)) : Go l Z mn code maxL ret R n0 Q h k n pc Ls (.int y :: .int x :: st) := by
  subst hq
  exact K.plain fun p e s m args below meth c T locs k' n' hx hby X t r => XS.idiv X.here hx rfl (hb hby hd) rfl hy r
theorem Go.irem {x y : Int32} (hd : decode code pc = .ok (.irem, 1)) (hq : q = pc + 1) (hy : y ≠ 0) (K : Go l Z mn code maxL ret R n0 Q h k n q Ls (.int (x % y) :: st)) : Go l Z mn code maxL ret R n0 Q h k n pc Ls (.int y :: .int x :: st) := by
  subst hq
  exact K.plain fun p e s m args below meth c T locs k' n' hx hby X t r => XS.irem X.here hx rfl (hb hby hd) rfl hy (by rw [irem_eq_mod]; exact r)
theorem Go.lrem {x y : Int64} (hd : decode code pc = .ok (.lrem, 1)) (hq : q = pc + 1) (hy : y ≠ 0) (K : Go l Z mn code maxL ret R n0 Q h k n q Ls (.long (x % y) :: st)) : Go l Z mn code maxL ret R n0 Q h k n pc Ls (.long y :: .long x :: st) := by
  subst hq
  exact K.plain fun p e s m args below meth c T locs k' n' hx hby X t r => XT.lrem X.here hx rfl (hb hby hd) rfl hy (by rw [lrem_mod]; exact r)
theorem Go.ineg {x : Int32} (hd : decode code pc = .ok (.ineg, 1)) (hq : q = pc + 1) (K : Go l Z mn code maxL ret R n0 Q h k n q Ls (.int (-x) :: st)) : Go l Z mn code maxL ret R n0 Q h k n pc Ls (.int x :: st) := by
  subst hq
  exact K.plain fun p e s m args below meth c T locs k' n' hx hby X t r => XS.ineg X.here hx rfl (hb hby hd) rfl r
theorem Go.lneg {x : Int64} (hd : decode code pc = .ok (.lneg, 1)) (hq : q = pc + 1) (K : Go l Z mn code maxL ret R n0 Q h k n q Ls (.long (-x) :: st)) : Go l Z mn code maxL ret R n0 Q h k n pc Ls (.long x :: st) := by
  subst hq
  exact K.plain fun p e s m args below meth c T locs k' n' hx hby X t r => XT.lneg X.here hx rfl (hb hby hd) rfl r
theorem Go.i2l {x : Int32} (hd : decode code pc = .ok (.i2l, 1)) (hq : q = pc + 1) (K : Go l Z mn code maxL ret R n0 Q h k n q Ls (.long x.toInt64 :: st)) : Go l Z mn code maxL ret R n0 Q h k n pc Ls (.int x :: st) := by
  subst hq
  exact K.plain fun p e s m args below meth c T locs k' n' hx hby X t r => XT.i2l X.here hx rfl (hb hby hd) rfl r
theorem Go.l2i {x : Int64} (hd : decode code pc = .ok (.l2i, 1)) (hq : q = pc + 1) (K : Go l Z mn code maxL ret R n0 Q h k n q Ls (.int x.toInt32 :: st)) : Go l Z mn code maxL ret R n0 Q h k n pc Ls (.long x :: st) := by
  subst hq
  exact K.plain fun p e s m args below meth c T locs k' n' hx hby X t r => XT.l2i X.here hx rfl (hb hby hd) rfl r
theorem Go.i2b {x : Int32} (hd : decode code pc = .ok (.i2b, 1)) (hq : q = pc + 1) (K : Go l Z mn code maxL ret R n0 Q h k n q Ls (.int x.toInt8.toInt32 :: st)) : Go l Z mn code maxL ret R n0 Q h k n pc Ls (.int x :: st) := by
  subst hq
  exact K.plain fun p e s m args below meth c T locs k' n' hx hby X t r => XT.i2b X.here hx rfl (hb hby hd) rfl r
theorem Go.i2s {x : Int32} (hd : decode code pc = .ok (.i2s, 1)) (hq : q = pc + 1) (K : Go l Z mn code maxL ret R n0 Q h k n q Ls (.int x.toInt16.toInt32 :: st)) : Go l Z mn code maxL ret R n0 Q h k n pc Ls (.int x :: st) := by
  subst hq
  exact K.plain fun p e s m args below meth c T locs k' n' hx hby X t r => XT.i2s X.here hx rfl (hb hby hd) rfl r
theorem Go.i2c {x : Int32} (hd : decode code pc = .ok (.i2c, 1)) (hq : q = pc + 1) (K : Go l Z mn code maxL ret R n0 Q h k n q Ls (.int x.toUInt32.toUInt16.toUInt32.toInt32 :: st)) : Go l Z mn code maxL ret R n0 Q h k n pc Ls (.int x :: st) := by
  subst hq
  exact K.plain fun p e s m args below meth c T locs k' n' hx hby X t r => XT.i2c X.here hx rfl (hb hby hd) rfl r
theorem Go.lcmp {x y : Int64} (hd : decode code pc = .ok (.lcmp, 1)) (hq : q = pc + 1) (K : Go l Z mn code maxL ret R n0 Q h k n q Ls (.int (XT.cmpL x y) :: st)) : Go l Z mn code maxL ret R n0 Q h k n pc Ls (.long y :: .long x :: st) := by
  subst hq
  exact K.plain fun p e s m args below meth c T locs k' n' hx hby X t r => XT.lcmp X.here hx rfl (hb hby hd) rfl r
theorem Go.iinc {i : Nat} {cst : Int} {x w : Int32} (hd : decode code pc = .ok (.iinc i cst, 3)) (hq : q = pc + 3) (hl : Ls[i]? = some (.val (.int x))) (hw : x + Int32.ofInt cst = w) (hl' : storeLocals Ls i (.int w) = some Ls') (K : Go l Z mn code maxL ret R n0 Q h k n q Ls' (st)) : Go l Z mn code maxL ret R n0 Q h k n pc Ls (st) := by
  subst hq
  exact K.plain fun p e s m args below meth c T locs k' n' hx hby X t r => XS.iinc X.here hx rfl (hb hby hd) hl (by rw [hw]; exact hl') r
theorem Go.dup {v : Value} (hd : decode code pc = .ok (.dup, 1)) (hq : q = pc + 1) (hc : v.category = 1) (K : Go l Z mn code maxL ret R n0 Q h k n q Ls (v :: v :: st)) : Go l Z mn code maxL ret R n0 Q h k n pc Ls (v :: st) := by
  subst hq
  exact K.plain fun p e s m args below meth c T locs k' n' hx hby X t r => XS.dup X.here hx rfl (hb hby hd) rfl hc r
theorem Go.pop {v : Value} (hd : decode code pc = .ok (.pop, 1)) (hq : q = pc + 1) (hc : v.category = 1) (K : Go l Z mn code maxL ret R n0 Q h k n q Ls (st)) : Go l Z mn code maxL ret R n0 Q h k n pc Ls (v :: st) := by
  subst hq
  exact K.plain fun p e s m args below meth c T locs k' n' hx hby X t r => XT.pop X.here hx rfl (hb hby hd) rfl hc r
theorem Go.dupX1 {v w : Value} (hd : decode code pc = .ok (.dup_x1, 1)) (hq : q = pc + 1) (hc : v.category = 1) (hc' : w.category = 1) (K : Go l Z mn code maxL ret R n0 Q h k n q Ls (v :: w :: v :: st)) : Go l Z mn code maxL ret R n0 Q h k n pc Ls (v :: w :: st) := by
  subst hq
  exact K.plain fun p e s m args below meth c T locs k' n' hx hby X t r => XT.dupX1 X.here hx rfl (hb hby hd) rfl hc hc' r
theorem Go.dup2 {v w : Value} (hd : decode code pc = .ok (.dup2, 1)) (hq : q = pc + 1) (hc : v.category = 1) (hc' : w.category = 1) (K : Go l Z mn code maxL ret R n0 Q h k n q Ls (v :: w :: v :: w :: st)) : Go l Z mn code maxL ret R n0 Q h k n pc Ls (v :: w :: st) := by
  subst hq
  exact K.plain fun p e s m args below meth c T locs k' n' hx hby X t r => XT.dup2 X.here hx rfl (hb hby hd) rfl hc hc' r
theorem Go.dup2L {x : Int64} (hd : decode code pc = .ok (.dup2, 1)) (hq : q = pc + 1) (K : Go l Z mn code maxL ret R n0 Q h k n q Ls (.long x :: .long x :: st)) : Go l Z mn code maxL ret R n0 Q h k n pc Ls (.long x :: st) := by
  subst hq
  exact K.plain fun p e s m args below meth c T locs k' n' hx hby X t r => XT.dup2L X.here hx rfl (hb hby hd) rfl r
theorem Go.goto {o : Int} (hd : decode code pc = .ok (.goto o, 3)) (ho : 0 ≤ (pc : Int) + o) (hq : ((pc : Int) + o).toNat = q) (K : Go l Z mn code maxL ret R n0 Q h k n q Ls st) : Go l Z mn code maxL ret R n0 Q h k n pc Ls st :=
  K.plain fun p e s m args below meth c T locs k' n' hx hby X t r => XS.goto X.here hx rfl rfl (hb hby hd) ho hq r
theorem Go.icmp_eq {x y' : Int32} {o : Int} {q' : Nat} (hd : decode code pc = .ok (.if_icmp .eq o, 3)) (ho : 0 ≤ (pc : Int) + o) (hq : ((pc : Int) + o).toNat = q) (hq' : q' = pc + 3) (K1 : x = y' → Go l Z mn code maxL ret R n0 Q h k n q Ls st) (K2 : ¬ x = y' → Go l Z mn code maxL ret R n0 Q h k n q' Ls st) : Go l Z mn code maxL ret R n0 Q h k n pc Ls (.int y' :: .int x :: st) := by
  subst hq'
  by_cases hc : x = y'
  · exact (K1 hc).plain fun p e s m args below meth c T locs k' n' hx hby X t r => XS.icmpYes X.here hx rfl rfl (hb hby hd) rfl (teq hc).1 ho hq r
  · exact (K2 (hc)).plain fun p e s m args below meth c T locs k' n' hx hby X t r => XS.icmpNo X.here hx rfl (hb hby hd) rfl (feq (hc)).1 r
theorem Go.if_eq {x : Int32} {o : Int} {q' : Nat} (hd : decode code pc = .ok (.ifCond .eq o, 3)) (ho : 0 ≤ (pc : Int) + o) (hq : ((pc : Int) + o).toNat = q) (hq' : q' = pc + 3) (K1 : x = 0 → Go l Z mn code maxL ret R n0 Q h k n q Ls st) (K2 : ¬ x = 0 → Go l Z mn code maxL ret R n0 Q h k n q' Ls st) : Go l Z mn code maxL ret R n0 Q h k n pc Ls (.int x :: st) := by
  subst hq'
  by_cases hc : x = 0
  · exact (K1 hc).plain fun p e s m args below meth c T locs k' n' hx hby X t r => XS.ifYes X.here hx rfl rfl (hb hby hd) rfl ((if0 _ _).trans (teq hc).1) ho hq r
  · exact (K2 (hc)).plain fun p e s m args below meth c T locs k' n' hx hby X t r => XS.ifNo X.here hx rfl (hb hby hd) rfl ((if0 _ _).trans (feq (hc)).1) r
theorem Go.icmp_ne {x y' : Int32} {o : Int} {q' : Nat} (hd : decode code pc = .ok (.if_icmp .ne o, 3)) (ho : 0 ≤ (pc : Int) + o) (hq : ((pc : Int) + o).toNat = q) (hq' : q' = pc + 3) (K1 : ¬ x = y' → Go l Z mn code maxL ret R n0 Q h k n q Ls st) (K2 : x = y' → Go l Z mn code maxL ret R n0 Q h k n q' Ls st) : Go l Z mn code maxL ret R n0 Q h k n pc Ls (.int y' :: .int x :: st) := by
  subst hq'
  by_cases hc : ¬ x = y'
  · exact (K1 hc).plain fun p e s m args below meth c T locs k' n' hx hby X t r => XS.icmpYes X.here hx rfl rfl (hb hby hd) rfl (feq hc).2 ho hq r
  · exact (K2 (Decidable.not_not.mp hc)).plain fun p e s m args below meth c T locs k' n' hx hby X t r => XS.icmpNo X.here hx rfl (hb hby hd) rfl (teq (Decidable.not_not.mp hc)).2 r
theorem Go.if_ne {x : Int32} {o : Int} {q' : Nat} (hd : decode code pc = .ok (.ifCond .ne o, 3)) (ho : 0 ≤ (pc : Int) + o) (hq : ((pc : Int) + o).toNat = q) (hq' : q' = pc + 3) (K1 : ¬ x = 0 → Go l Z mn code maxL ret R n0 Q h k n q Ls st) (K2 : x = 0 → Go l Z mn code maxL ret R n0 Q h k n q' Ls st) : Go l Z mn code maxL ret R n0 Q h k n pc Ls (.int x :: st) := by
  subst hq'
  by_cases hc : ¬ x = 0
  · exact (K1 hc).plain fun p e s m args below meth c T locs k' n' hx hby X t r => XS.ifYes X.here hx rfl rfl (hb hby hd) rfl ((if0 _ _).trans (feq hc).2) ho hq r
  · exact (K2 (Decidable.not_not.mp hc)).plain fun p e s m args below meth c T locs k' n' hx hby X t r => XS.ifNo X.here hx rfl (hb hby hd) rfl ((if0 _ _).trans (teq (Decidable.not_not.mp hc)).2) r
theorem Go.icmp_lt {x y' : Int32} {o : Int} {q' : Nat} (hd : decode code pc = .ok (.if_icmp .lt o, 3)) (ho : 0 ≤ (pc : Int) + o) (hq : ((pc : Int) + o).toNat = q) (hq' : q' = pc + 3) (K1 : x < y' → Go l Z mn code maxL ret R n0 Q h k n q Ls st) (K2 : ¬ x < y' → Go l Z mn code maxL ret R n0 Q h k n q' Ls st) : Go l Z mn code maxL ret R n0 Q h k n pc Ls (.int y' :: .int x :: st) := by
  subst hq'
  by_cases hc : x < y'
  · exact (K1 hc).plain fun p e s m args below meth c T locs k' n' hx hby X t r => XS.icmpYes X.here hx rfl rfl (hb hby hd) rfl (tlt hc).1 ho hq r
  · exact (K2 (hc)).plain fun p e s m args below meth c T locs k' n' hx hby X t r => XS.icmpNo X.here hx rfl (hb hby hd) rfl (flt (hc)).1 r
theorem Go.if_lt {x : Int32} {o : Int} {q' : Nat} (hd : decode code pc = .ok (.ifCond .lt o, 3)) (ho : 0 ≤ (pc : Int) + o) (hq : ((pc : Int) + o).toNat = q) (hq' : q' = pc + 3) (K1 : x < 0 → Go l Z mn code maxL ret R n0 Q h k n q Ls st) (K2 : ¬ x < 0 → Go l Z mn code maxL ret R n0 Q h k n q' Ls st) : Go l Z mn code maxL ret R n0 Q h k n pc Ls (.int x :: st) := by
  subst hq'
  by_cases hc : x < 0
  · exact (K1 hc).plain fun p e s m args below meth c T locs k' n' hx hby X t r => XS.ifYes X.here hx rfl rfl (hb hby hd) rfl ((if0 _ _).trans (tlt hc).1) ho hq r
  · exact (K2 (hc)).plain fun p e s m args below meth c T locs k' n' hx hby X t r => XS.ifNo X.here hx rfl (hb hby hd) rfl ((if0 _ _).trans (flt (hc)).1) r
theorem Go.icmp_ge {x y' : Int32} {o : Int} {q' : Nat} (hd : decode code pc = .ok (.if_icmp .ge o, 3)) (ho : 0 ≤ (pc : Int) + o) (hq : ((pc : Int) + o).toNat = q) (hq' : q' = pc + 3) (K1 : ¬ x < y' → Go l Z mn code maxL ret R n0 Q h k n q Ls st) (K2 : x < y' → Go l Z mn code maxL ret R n0 Q h k n q' Ls st) : Go l Z mn code maxL ret R n0 Q h k n pc Ls (.int y' :: .int x :: st) := by
  subst hq'
  by_cases hc : ¬ x < y'
  · exact (K1 hc).plain fun p e s m args below meth c T locs k' n' hx hby X t r => XS.icmpYes X.here hx rfl rfl (hb hby hd) rfl (flt hc).2.1 ho hq r
  · exact (K2 (Decidable.not_not.mp hc)).plain fun p e s m args below meth c T locs k' n' hx hby X t r => XS.icmpNo X.here hx rfl (hb hby hd) rfl (tlt (Decidable.not_not.mp hc)).2.1 r
theorem Go.if_ge {x : Int32} {o : Int} {q' : Nat} (hd : decode code pc = .ok (.ifCond .ge o, 3)) (ho : 0 ≤ (pc : Int) + o) (hq : ((pc : Int) + o).toNat = q) (hq' : q' = pc + 3) (K1 : ¬ x < 0 → Go l Z mn code maxL ret R n0 Q h k n q Ls st) (K2 : x < 0 → Go l Z mn code maxL ret R n0 Q h k n q' Ls st) : Go l Z mn code maxL ret R n0 Q h k n pc Ls (.int x :: st) := by
  subst hq'
  by_cases hc : ¬ x < 0
  · exact (K1 hc).plain fun p e s m args below meth c T locs k' n' hx hby X t r => XS.ifYes X.here hx rfl rfl (hb hby hd) rfl ((if0 _ _).trans (flt hc).2.1) ho hq r
  · exact (K2 (Decidable.not_not.mp hc)).plain fun p e s m args below meth c T locs k' n' hx hby X t r => XS.ifNo X.here hx rfl (hb hby hd) rfl ((if0 _ _).trans (tlt (Decidable.not_not.mp hc)).2.1) r
theorem Go.icmp_gt {x y' : Int32} {o : Int} {q' : Nat} (hd : decode code pc = .ok (.if_icmp .gt o, 3)) (ho : 0 ≤ (pc : Int) + o) (hq : ((pc : Int) + o).toNat = q) (hq' : q' = pc + 3) (K1 : y' < x → Go l Z mn code maxL ret R n0 Q h k n q Ls st) (K2 : ¬ y' < x → Go l Z mn code maxL ret R n0 Q h k n q' Ls st) : Go l Z mn code maxL ret R n0 Q h k n pc Ls (.int y' :: .int x :: st) := by
  subst hq'
  by_cases hc : y' < x
  · exact (K1 hc).plain fun p e s m args below meth c T locs k' n' hx hby X t r => XS.icmpYes X.here hx rfl rfl (hb hby hd) rfl (tlt hc).2.2.1 ho hq r
  · exact (K2 (hc)).plain fun p e s m args below meth c T locs k' n' hx hby X t r => XS.icmpNo X.here hx rfl (hb hby hd) rfl (flt (hc)).2.2.1 r
theorem Go.if_gt {x : Int32} {o : Int} {q' : Nat} (hd : decode code pc = .ok (.ifCond .gt o, 3)) (ho : 0 ≤ (pc : Int) + o) (hq : ((pc : Int) + o).toNat = q) (hq' : q' = pc + 3) (K1 : 0 < x → Go l Z mn code maxL ret R n0 Q h k n q Ls st) (K2 : ¬ 0 < x → Go l Z mn code maxL ret R n0 Q h k n q' Ls st) : Go l Z mn code maxL ret R n0 Q h k n pc Ls (.int x :: st) := by
  subst hq'
  by_cases hc : 0 < x
  · exact (K1 hc).plain fun p e s m args below meth c T locs k' n' hx hby X t r => XS.ifYes X.here hx rfl rfl (hb hby hd) rfl ((if0 _ _).trans (tlt hc).2.2.1) ho hq r
  · exact (K2 (hc)).plain fun p e s m args below meth c T locs k' n' hx hby X t r => XS.ifNo X.here hx rfl (hb hby hd) rfl ((if0 _ _).trans (flt (hc)).2.2.1) r
theorem Go.icmp_le {x y' : Int32} {o : Int} {q' : Nat} (hd : decode code pc = .ok (.if_icmp .le o, 3)) (ho : 0 ≤ (pc : Int) + o) (hq : ((pc : Int) + o).toNat = q) (hq' : q' = pc + 3) (K1 : ¬ y' < x → Go l Z mn code maxL ret R n0 Q h k n q Ls st) (K2 : y' < x → Go l Z mn code maxL ret R n0 Q h k n q' Ls st) : Go l Z mn code maxL ret R n0 Q h k n pc Ls (.int y' :: .int x :: st) := by
  subst hq'
  by_cases hc : ¬ y' < x
  · exact (K1 hc).plain fun p e s m args below meth c T locs k' n' hx hby X t r => XS.icmpYes X.here hx rfl rfl (hb hby hd) rfl (flt hc).2.2.2 ho hq r
  · exact (K2 (Decidable.not_not.mp hc)).plain fun p e s m args below meth c T locs k' n' hx hby X t r => XS.icmpNo X.here hx rfl (hb hby hd) rfl (tlt (Decidable.not_not.mp hc)).2.2.2 r
theorem Go.if_le {x : Int32} {o : Int} {q' : Nat} (hd : decode code pc = .ok (.ifCond .le o, 3)) (ho : 0 ≤ (pc : Int) + o) (hq : ((pc : Int) + o).toNat = q) (hq' : q' = pc + 3) (K1 : ¬ 0 < x → Go l Z mn code maxL ret R n0 Q h k n q Ls st) (K2 : 0 < x → Go l Z mn code maxL ret R n0 Q h k n q' Ls st) : Go l Z mn code maxL ret R n0 Q h k n pc Ls (.int x :: st) := by
  subst hq'
  by_cases hc : ¬ 0 < x
  · exact (K1 hc).plain fun p e s m args below meth c T locs k' n' hx hby X t r => XS.ifYes X.here hx rfl rfl (hb hby hd) rfl ((if0 _ _).trans (flt hc).2.2.2) ho hq r
  · exact (K2 (Decidable.not_not.mp hc)).plain fun p e s m args below meth c T locs k' n' hx hby X t r => XS.ifNo X.here hx rfl (hb hby hd) rfl ((if0 _ _).trans (tlt (Decidable.not_not.mp hc)).2.2.2) r
theorem Go.ifnull {v : Value} {o : Int} {q' : Nat} (hd : decode code pc = .ok (.ifnull o, 3)) (ho : 0 ≤ (pc : Int) + o) (hq : ((pc : Int) + o).toNat = q) (hq' : q' = pc + 3) (hv : v.isRef = true) (K1 : v = .null → Go l Z mn code maxL ret R n0 Q h k n q Ls st) (K2 : ∀ a, v = .ref a → Go l Z mn code maxL ret R n0 Q h k n q' Ls st) : Go l Z mn code maxL ret R n0 Q h k n pc Ls (v :: st) := by
  subst hq'
  rcases ref_cases hv with rfl | ⟨a, rfl⟩
  · exact (K1 rfl).plain fun p e s m args below meth c T locs k' n' hx hby X t r => XS.ifnullYes X.here hx rfl rfl (hb hby hd) rfl ho hq r
  · exact (K2 a rfl).plain fun p e s m args below meth c T locs k' n' hx hby X t r => XS.ifnullNo X.here hx rfl (hb hby hd) rfl r
theorem Go.ifnonnull {v : Value} {o : Int} {q' : Nat} (hd : decode code pc = .ok (.ifnonnull o, 3)) (ho : 0 ≤ (pc : Int) + o) (hq : ((pc : Int) + o).toNat = q) (hq' : q' = pc + 3) (hv : v.isRef = true) (K1 : ∀ a, v = .ref a → Go l Z mn code maxL ret R n0 Q h k n q Ls st) (K2 : v = .null → Go l Z mn code maxL ret R n0 Q h k n q' Ls st) : Go l Z mn code maxL ret R n0 Q h k n pc Ls (v :: st) := by
  subst hq'
  rcases ref_cases hv with rfl | ⟨a, rfl⟩
  · exact (K2 rfl).plain fun p e s m args below meth c T locs k' n' hx hby X t r => XT.ifnonnullNo X.here hx rfl (hb hby hd) rfl r
  · exact (K1 a rfl).plain fun p e s m args below meth c T locs k' n' hx hby X t r => XT.ifnonnullYes X.here hx rfl rfl (hb hby hd) rfl ho hq r
theorem Go.acmp_eq {v w : Value} {o : Int} {q' : Nat} (hd : decode code pc = .ok (.if_acmp .eq o, 3)) (ho : 0 ≤ (pc : Int) + o) (hq : ((pc : Int) + o).toNat = q) (hq' : q' = pc + 3) (hv : v.isRef = true) (hw : w.isRef = true) (K1 : v = w → Go l Z mn code maxL ret R n0 Q h k n q Ls st) (K2 : ¬ v = w → Go l Z mn code maxL ret R n0 Q h k n q' Ls st) : Go l Z mn code maxL ret R n0 Q h k n pc Ls (w :: v :: st) := by
  subst hq'
  by_cases hc : v = w
  · exact (K1 hc).plain fun p e s m args below meth c T locs k' n' hx hby X t r => RoadKit.acmp X hx rfl hv hw rfl (hb hby hd) rfl (same := true) (by simp [hc]) ho (by simp [acV, hq]) r
  · exact (K2 hc).plain fun p e s m args below meth c T locs k' n' hx hby X t r => RoadKit.acmp X hx rfl hv hw rfl (hb hby hd) rfl (same := false) (by simp [hc]) ho (by simp [acV]) r
theorem Go.acmp_ne {v w : Value} {o : Int} {q' : Nat} (hd : decode code pc = .ok (.if_acmp .ne o, 3)) (ho : 0 ≤ (pc : Int) + o) (hq : ((pc : Int) + o).toNat = q) (hq' : q' = pc + 3) (hv : v.isRef = true) (hw : w.isRef = true) (K1 : ¬ v = w → Go l Z mn code maxL ret R n0 Q h k n q Ls st) (K2 : v = w → Go l Z mn code maxL ret R n0 Q h k n q' Ls st) : Go l Z mn code maxL ret R n0 Q h k n pc Ls (w :: v :: st) := by
  subst hq'
  by_cases hc : v = w
  · exact (K2 hc).plain fun p e s m args below meth c T locs k' n' hx hby X t r => RoadKit.acmp X hx rfl hv hw rfl (hb hby hd) rfl (same := true) (by simp [hc]) ho (by simp [acV]) r
  · exact (K1 hc).plain fun p e s m args below meth c T locs k' n' hx hby X t r => RoadKit.acmp X hx rfl hv hw rfl (hb hby hd) rfl (same := false) (by simp [hc]) ho (by simp [acV, hq]) r
/-! constants of the pool -/
theorem Go.ldc {i : Nat} {v : Int32} (hd : decode code pc = .ok (.ldc i, 2)) (hq : q = pc + 2) (w : (Jvm.Cond.constant mn.cls i v).before a0 Z = true) (K : Go l Z mn code maxL ret R n0 Q h k n q Ls (.int v :: st)) : Go l Z mn code maxL ret R n0 Q h k n pc Ls st := by
  subst hq
  exact fun p e s m args below meth c T locs k' n' C X hk hn N eT => (K p e s m args below meth c T locs k' n' C X hk hn N eT).step fun t r => X.ldcI C.1 C.2.2.2.2.1 (mvT C.2.1 w) rfl (hb C.2.2.1 hd) r
theorem Go.ldcW {i : Nat} {v : Int32} (hd : decode code pc = .ok (.ldc_w i, 3)) (hq : q = pc + 3) (w : (Jvm.Cond.constant mn.cls i v).before a0 Z = true) (K : Go l Z mn code maxL ret R n0 Q h k n q Ls (.int v :: st)) : Go l Z mn code maxL ret R n0 Q h k n pc Ls st := by
  subst hq
  exact fun p e s m args below meth c T locs k' n' C X hk hn N eT => (K p e s m args below meth c T locs k' n' C X hk hn N eT).step fun t r => X.ldcWI C.1 C.2.2.2.2.1 (mvT C.2.1 w) rfl (hb C.2.2.1 hd) r
theorem Go.ldc2 {i : Nat} {v : Int64} (hd : decode code pc = .ok (.ldc2_w i, 3)) (hq : q = pc + 3) (w : (Jvm.Cond.constantLong mn.cls i v).before a0 Z = true) (K : Go l Z mn code maxL ret R n0 Q h k n q Ls (.long v :: st)) : Go l Z mn code maxL ret R n0 Q h k n pc Ls st := by
  subst hq
  exact fun p e s m args below meth c T locs k' n' C X hk hn N eT => (K p e s m args below meth c T locs k' n' C X hk hn N eT).step fun t r => X.ldc2J C.1 C.2.2.2.2.1 (mvT C.2.1 w) rfl (hb C.2.2.1 hd) r
/-! statics and fields -/
theorem Go.getS {i : Nat} {O nm d : String} {v : Value} (hd : decode code pc = .ok (.getstatic i, 3)) (hq : q = pc + 3) (w : (Jvm.Cond.fieldLink mn.cls i O nm d).before a0 Z = true) (F : Sta Z h O nm d v) (K : Go l Z mn code maxL ret R n0 Q h k n q Ls (v :: st)) : Go l Z mn code maxL ret R n0 Q h k n pc Ls st := by
  subst hq
  intro p e s m args below meth c T locs k' n' C X hk hn N eT
  obtain ⟨T', X', e', f⟩ := RoadKit.getS (host := "") X C.1 C.2.1 C.2.2.2.2.1 w Via.refl eT F (g := mkF m pc Ls st) rfl (hb C.2.2.1 hd)
  exact (K p e s m args below meth c T' locs k' n' C X' hk hn N e').step f
theorem Go.getF {i : Nat} {R0 O nm d host : String} {a : Addr} {v : Value} (hd : decode code pc = .ok (.getfield i, 3)) (hq : q = pc + 3) (w : (Jvm.Cond.fieldLink mn.cls i R0 nm d).before a0 Z = true ∨ (Jvm.Cond.fieldLinkNest mn.cls i R0 nm d host).before a0 Z = true) (via : Via Z R0 O nm d) (F : Fld Z h a O nm d v) (K : Go l Z mn code maxL ret R n0 Q h k n q Ls (v :: st)) : Go l Z mn code maxL ret R n0 Q h k n pc Ls (.ref a :: st) := by
  subst hq
  intro p e s m args below meth c T locs k' n' C X hk hn N eT
  obtain ⟨T', X', e', f⟩ := RoadKit.getF X C.1 C.2.1 C.2.2.2.2.1 w via eT F (g := mkF m pc Ls (.ref a :: st)) rfl rfl (hb C.2.2.1 hd)
  exact (K p e s m args below meth c T' locs k' n' C X' hk hn N e').step f
theorem Go.putF {i kk : Nat} {R0 O nm d host C : String} {a : Addr} {v old : Value} {ty : FieldType} (hd : decode code pc = .ok (.putfield i, 3)) (hq : q = pc + 3) (w : (Jvm.Cond.fieldLink mn.cls i R0 nm d).before a0 Z = true ∨ (Jvm.Cond.fieldLinkNest mn.cls i R0 nm d host).before a0 Z = true) (via : Via Z R0 O nm d) (F : Fld Z h a O nm d old) (E : Exa Z h a C) (L : (Jvm.Cond.lays C O nm d).before a0 Z = true ∨ ((Jvm.Cond.laysFinal C O nm d).before a0 Z = true ∧ mn.cls = O ∧ mn.name = "<init>")) (wi : (Jvm.Cond.instantiable C kk).before a0 Z = true)
    (hty : parseFieldDescriptor d = some ty) (hna : narrow ty v = v) (hf : fits ty v = true) (ha : n0 ≤ a) (K : ∀ h', Wr h h' a (RoadKit.slotOf Z O nm d) v → Go l Z mn code maxL ret R n0 Q h' k n q Ls st) : Go l Z mn code maxL ret R n0 Q h k n pc Ls (v :: .ref a :: st) := by
  subst hq
  intro p e s m args below meth c T locs k' n' Cc X hk hn N eT
  obtain ⟨T', h', X', e', W, f⟩ := RoadKit.putF X Cc.1 Cc.2.1 Cc.2.2.2.2.1 w via eT F E (L.imp id fun q => ⟨q.1, q.2.1, Cc.2.2.2.2.2.2.2.trans q.2.2⟩) wi hty hna hf (g := mkF m pc Ls (v :: .ref a :: st)) rfl rfl (hb Cc.2.2.1 hd)
  exact (K h' W p e s m args below meth c T' _ k' n' Cc X' hk hn (Fr.snoc X' N ha) e').step f
theorem Go.cast {i : Nat} {Kc : String} {a : Addr} (hd : decode code pc = .ok (.checkcast i, 3)) (hq : q = pc + 3) (w : (Jvm.Cond.classLink mn.cls i Kc).before a0 Z = true) (F : Ins Z h a Kc true) (K : Go l Z mn code maxL ret R n0 Q h k n q Ls (.ref a :: st)) : Go l Z mn code maxL ret R n0 Q h k n pc Ls (.ref a :: st) := by
  subst hq
  intro p e s m args below meth c T locs k' n' C X hk hn N eT
  obtain ⟨T', X', e', f⟩ := castY X C.1 C.2.1 C.2.2.2.2.1 w eT F (g := mkF m pc Ls (.ref a :: st)) rfl rfl (hb C.2.2.1 hd)
  exact (K p e s m args below meth c T' locs k' n' C X' hk hn N e').step f
/-! new, arrays -/
theorem Go.new {i kk : Nat} {C : String} (hd : decode code pc = .ok (.new i, 3)) (hq : q = pc + 3) (w : (Jvm.Cond.classLink mn.cls i C).before a0 Z = true) (wi : (Jvm.Cond.instantiable C kk).before a0 Z = true) (wz : (Jvm.Cond.initialized C).before a0 Z = true) (hc : k + 1 ≤ R.cells) (hs : n + kk ≤ R.slots)
    (K : ∀ h' a, a = h.size → Ext h h' → Exa Z h' a C → (∀ {O nm d : String} {ty : FieldType}, Laid Z a0 C O nm d → parseFieldDescriptor d = some ty → Fld Z h' a O nm d (defaultValue ty)) → Go l Z mn code maxL ret R n0 Q h' (k + 1) (n + kk) q Ls (.ref a :: st)) : Go l Z mn code maxL ret R n0 Q h k n pc Ls st := by
  subst hq
  intro p e s m args below meth c T locs k' n' Cc X hk hn N eT
  obtain ⟨T', h', X', e', E, A, D, -, f⟩ := newO X Cc.1 Cc.2.1 Cc.2.2.2.2.1 w wi wz eT (g := mkF m pc Ls st) rfl (hb Cc.2.2.1 hd) (by omega) (by omega)
  exact (K h' h.size rfl E A (fun L t => D L t) p e s m args below meth c T' locs _ _ Cc X' (by omega) (by omega) N e').step f
theorem Go.initObj {i wd : Nat} {a : Addr} (hd : decode code pc = .ok (.invokespecial i, 3)) (hq : q = pc + 3) (w1 : (Jvm.Cond.methodLink mn.cls i Lib.objectInit).before a0 Z = true) (w2 : (Jvm.Cond.instanceMethod Lib.objectInit).before a0 Z = true) (w3 : (Jvm.Cond.code Lib.objectInit ⟨#[0xb1]⟩ 1 none).before a0 Z = true) (hsz : Ls.size = maxL) (hf : 1 ≤ R.frames) (hW : (st.map fun v => v.category).sum = wd) (hl : wd + 12 ≤ R.locals) (K : Go l Z mn code maxL ret R n0 Q h k n q Ls st) : Go l Z mn code maxL ret R n0 Q h k n pc Ls (.ref a :: st) := by
  subst hq
  intro p e s m args below meth c T locs k' n' C X hk hn N eT
  obtain ⟨T', X', e', f⟩ := initO X C.1 C.2.1 C.2.2.2.2.1 w1 w2 w3 eT (g := mkF m pc Ls (.ref a :: st)) rfl (by rw [C.2.2.2.1]; exact hsz) rfl (hb C.2.2.1 hd) hf (W := wd) (by simp [hW]) hl
  exact (K p e s m args below meth c T' locs k' n' C X' hk hn N e').step f

end Laws
theorem cmpL_eq (x y : Int64) : XT.cmpL x y = 0 ↔ x = y := by
  unfold XT.cmpL
  by_cases h1 : y < x
  · rw [if_pos h1]; constructor
    · intro e; exact absurd e (by decide)
    · rintro rfl; exact absurd h1 Int64.lt_irrefl
  · rw [if_neg h1]
    by_cases h2 : x = y
    · simp [h2]
    · rw [if_neg h2]; constructor
      · intro e; exact absurd e (by decide)
      · intro e; exact absurd e h2
theorem cmpL_lt (x y : Int64) : XT.cmpL x y < 0 ↔ x < y := by
  unfold XT.cmpL
  by_cases h1 : y < x
  · rw [if_pos h1]; constructor
    · intro e; exact absurd e (by decide)
    · intro e; rw [Int64.lt_iff_toInt_lt] at e h1; omega
  · rw [if_neg h1]
    by_cases h2 : x = y
    · rw [if_pos h2]; constructor
      · intro e; exact absurd e (by decide)
      · intro e; rw [h2] at e; exact absurd e Int64.lt_irrefl
    · rw [if_neg h2]; constructor
      · intro _; rw [Int64.lt_iff_toInt_lt] at h1 ⊢; rw [← Int64.toInt_inj] at h2; omega
      · intro _; decide
theorem cmpL_gt (x y : Int64) : 0 < XT.cmpL x y ↔ y < x := by
  unfold XT.cmpL
  by_cases h1 : y < x
  · rw [if_pos h1]; constructor
    · intro _; exact h1
    · intro _; decide
  · rw [if_neg h1]
    by_cases h2 : x = y
    · rw [if_pos h2]; constructor
      · intro e; exact absurd e (by decide)
      · intro e; exact absurd e h1
    · rw [if_neg h2]; constructor
      · intro e; exact absurd e (by decide)
      · intro e; exact absurd e h1
section Laws2
variable {l : Launch} {Z : State} {mn : MethodName} {code : ByteArray} {maxL : Nat} {ret : Option FieldType} {R : Room} {n0 : Nat} {Q : Option Value → Heap → Prop} {h : Heap} {k n pc q : Nat} {Ls Ls' : Array Slot} {st st' : List Value} {a0 : Array Value}
theorem Go.lif_eq {x y' : Int64} {o : Int} {q' : Nat} (hd : decode code pc = .ok (.ifCond .eq o, 3)) (ho : 0 ≤ (pc : Int) + o) (hq : ((pc : Int) + o).toNat = q) (hq' : q' = pc + 3) (K1 : x = y' → Go l Z mn code maxL ret R n0 Q h k n q Ls st) (K2 : ¬ x = y' → Go l Z mn code maxL ret R n0 Q h k n q' Ls st) : Go l Z mn code maxL ret R n0 Q h k n pc Ls (.int (XT.cmpL x y') :: st) :=
  Go.if_eq hd ho hq hq' (fun c => K1 ((cmpL_eq _ _).mp c)) (fun c => K2 fun e => c ((cmpL_eq _ _).mpr e))
theorem Go.lif_ne {x y' : Int64} {o : Int} {q' : Nat} (hd : decode code pc = .ok (.ifCond .ne o, 3)) (ho : 0 ≤ (pc : Int) + o) (hq : ((pc : Int) + o).toNat = q) (hq' : q' = pc + 3) (K1 : ¬ x = y' → Go l Z mn code maxL ret R n0 Q h k n q Ls st) (K2 : x = y' → Go l Z mn code maxL ret R n0 Q h k n q' Ls st) : Go l Z mn code maxL ret R n0 Q h k n pc Ls (.int (XT.cmpL x y') :: st) :=
  Go.if_ne hd ho hq hq' (fun c => K1 fun e => c ((cmpL_eq _ _).mpr e)) (fun c => K2 ((cmpL_eq _ _).mp c))
theorem Go.lif_lt {x y' : Int64} {o : Int} {q' : Nat} (hd : decode code pc = .ok (.ifCond .lt o, 3)) (ho : 0 ≤ (pc : Int) + o) (hq : ((pc : Int) + o).toNat = q) (hq' : q' = pc + 3) (K1 : x < y' → Go l Z mn code maxL ret R n0 Q h k n q Ls st) (K2 : ¬ x < y' → Go l Z mn code maxL ret R n0 Q h k n q' Ls st) : Go l Z mn code maxL ret R n0 Q h k n pc Ls (.int (XT.cmpL x y') :: st) :=
  Go.if_lt hd ho hq hq' (fun c => K1 ((cmpL_lt _ _).mp c)) (fun c => K2 fun e => c ((cmpL_lt _ _).mpr e))
theorem Go.lif_ge {x y' : Int64} {o : Int} {q' : Nat} (hd : decode code pc = .ok (.ifCond .ge o, 3)) (ho : 0 ≤ (pc : Int) + o) (hq : ((pc : Int) + o).toNat = q) (hq' : q' = pc + 3) (K1 : ¬ x < y' → Go l Z mn code maxL ret R n0 Q h k n q Ls st) (K2 : x < y' → Go l Z mn code maxL ret R n0 Q h k n q' Ls st) : Go l Z mn code maxL ret R n0 Q h k n pc Ls (.int (XT.cmpL x y') :: st) :=
  Go.if_ge hd ho hq hq' (fun c => K1 fun e => c ((cmpL_lt _ _).mpr e)) (fun c => K2 ((cmpL_lt _ _).mp c))
theorem Go.lif_gt {x y' : Int64} {o : Int} {q' : Nat} (hd : decode code pc = .ok (.ifCond .gt o, 3)) (ho : 0 ≤ (pc : Int) + o) (hq : ((pc : Int) + o).toNat = q) (hq' : q' = pc + 3) (K1 : y' < x → Go l Z mn code maxL ret R n0 Q h k n q Ls st) (K2 : ¬ y' < x → Go l Z mn code maxL ret R n0 Q h k n q' Ls st) : Go l Z mn code maxL ret R n0 Q h k n pc Ls (.int (XT.cmpL x y') :: st) :=
  Go.if_gt hd ho hq hq' (fun c => K1 ((cmpL_gt _ _).mp c)) (fun c => K2 fun e => c ((cmpL_gt _ _).mpr e))
theorem Go.lif_le {x y' : Int64} {o : Int} {q' : Nat} (hd : decode code pc = .ok (.ifCond .le o, 3)) (ho : 0 ≤ (pc : Int) + o) (hq : ((pc : Int) + o).toNat = q) (hq' : q' = pc + 3) (K1 : ¬ y' < x → Go l Z mn code maxL ret R n0 Q h k n q Ls st) (K2 : y' < x → Go l Z mn code maxL ret R n0 Q h k n q' Ls st) : Go l Z mn code maxL ret R n0 Q h k n pc Ls (.int (XT.cmpL x y') :: st) :=
  Go.if_le hd ho hq hq' (fun c => K1 fun e => c ((cmpL_gt _ _).mpr e)) (fun c => K2 ((cmpL_gt _ _).mp c))
end Laws2
end Jvm.OwnKit

namespace Jvm.OwnKit
open Jvm Jvm.ClassFile Sem Op Lib Jvm.Free Jvm.Stand Jvm.LawKit Jvm.RoadKit
section Calls
variable {l : Launch} {Z : State} {mn : MethodName} {code : ByteArray} {maxL : Nat} {ret : Option FieldType} {R : Room} {n0 : Nat} {Q : Option Value → Heap → Prop} {h : Heap} {k n pc q : Nat} {Ls Ls' : Array Slot} {st st' : List Value} {a0 : Array Value}
  {y' : MethodName} {code' : ByteArray} {maxL' : Nat} {ret' : Option FieldType} {R' : Room} {Q' : Option Value → Heap → Prop} {argsL rest : List Value} {Ls1 : Array Slot} {ps : List FieldType} {r : Option FieldType} {i wd : Nat}
theorem Go.callS (hd : decode code pc = .ok (.invokestatic i, 3)) (hq : q = pc + 3) (w1 : (Jvm.Cond.methodLink mn.cls i y').before a0 Z = true) (w2 : (Jvm.Cond.static y').before a0 Z = true) (w3 : (Jvm.Cond.initialized y'.cls).before a0 Z = true) (w4 : (Jvm.Cond.code y' code' maxL' ret').before a0 Z = true)
    (hy : y'.cls ≠ "java/lang/invoke/MethodHandle" ∧ y'.cls ≠ "java/lang/invoke/VarHandle") (pn : plainName y'.cls = true) (pd : parseMethodDescriptor y'.desc = some ⟨ps, r⟩) (hl : argsL.length = ps.length) (hst : st = argsL.reverse ++ rest) (hef : ∀ m, entryFrame m argsL.toArray maxL' = mkF m 0 Ls1 []) (hsz : Ls.size = maxL)
    (hR1 : R'.frames + 1 ≤ R.frames) (hW : (rest.map fun v => v.category).sum = wd) (hR2 : wd + (maxL' + 11) + R'.locals ≤ R.locals) (hc : k + R'.cells ≤ R.cells) (hs : n + R'.slots ≤ R.slots)
    (G : Go l Z y' code' maxL' ret' R' n0 Q' h 0 0 0 Ls1 []) (K : ∀ v h', Q' v h' → Go l Z mn code maxL ret R n0 Q h' (k + R'.cells) (n + R'.slots) q Ls (v.toList ++ rest)) : Go l Z mn code maxL ret R n0 Q h k n pc Ls st := by
  subst hq hst hW
  intro p e s m args below meth c T locs k' n' C X hk hn N eT
  obtain ⟨v, vm1, ⟨T1, L1, k1, n1⟩, -, X1, ⟨Lc, hQ, e1, e2, e3⟩, f⟩ := Jvm.LawKit.callS X C.1 (y := y') C.2.2.2.2.1 (mvT C.2.1 w1) (mvT C.2.1 w2) (mvT C.2.1 w3) (mvT C.2.1 w4) hy (backOf (W := (rest.map fun v => v.category).sum) (Q := fun v h L => Fr n0 L ∧ Q' v h) (G.met pn hef []) C.2.1 w4 w3 hR1 hR2) (g := mkF m pc Ls (argsL.reverse ++ rest)) rfl (by rw [C.2.2.2.1]; exact hsz) (argsL := argsL) (rest := rest) (lenOf pd hl) rfl (by simp) (hb C.2.2.1 hd) (fun _ _ => ⟨rfl, eT, by show k' + _ ≤ _; omega, by show n' + _ ≤ _; omega⟩)
  dsimp only [Pt.U, Pt.locs, Pt.cells, Pt.slots] at X1 e1 e2 e3 f hQ
  subst e1 e2 e3
  exact (K v T1.heap hQ.2 p e s m args below meth c T1 _ _ _ C X1 (by omega) (by omega) (Fr.app N hQ.1) rfl).step f
theorem Go.callV {C : String} {a : Addr} (hd : decode code pc = .ok (.invokevirtual i, 3)) (hq : q = pc + 3) (w1 : (Jvm.Cond.methodLink mn.cls i y').before a0 Z = true) (w2 : (Jvm.Cond.declares y').before a0 Z = true) (w3 : (Jvm.Cond.selects C y' y').before a0 Z = true) (w4 : (Jvm.Cond.instanceMethod y').before a0 Z = true) (w5 : (Jvm.Cond.code y' code' maxL' ret').before a0 Z = true) (w6 : (Jvm.Cond.initialized y'.cls).before a0 Z = true)
    (hy : y'.cls ≠ "java/lang/invoke/MethodHandle" ∧ y'.cls ≠ "java/lang/invoke/VarHandle") (pn : plainName y'.cls = true) (pd : parseMethodDescriptor y'.desc = some ⟨ps, r⟩) (hl : argsL.length = ps.length) (hst : st = argsL.reverse ++ .ref a :: rest) (E : Exa Z h a C) (hef : ∀ m, entryFrame m (.ref a :: argsL).toArray maxL' = mkF m 0 Ls1 []) (hsz : Ls.size = maxL)
    (hR1 : R'.frames + 1 ≤ R.frames) (hW : (rest.map fun v => v.category).sum = wd) (hR2 : wd + (maxL' + 11) + R'.locals ≤ R.locals) (hc : k + R'.cells ≤ R.cells) (hs : n + R'.slots ≤ R.slots)
    (G : Go l Z y' code' maxL' ret' R' n0 Q' h 0 0 0 Ls1 []) (K : ∀ v h', Q' v h' → Go l Z mn code maxL ret R n0 Q h' (k + R'.cells) (n + R'.slots) q Ls (v.toList ++ rest)) : Go l Z mn code maxL ret R n0 Q h k n pc Ls st := by
  subst hq hst hW
  intro p e s m args below meth c T locs k' n' Cc X hk hn N eT
  obtain ⟨cq, kq, qa, qb, qc⟩ := isOf Cc.2.1 eT E
  obtain ⟨v, vm1, ⟨T1, L1, k1, n1⟩, -, X1, ⟨Lc, hQ, e1, e2, e3⟩, f⟩ := X.virtualBack Cc.1 (y := y') (z := y') Cc.2.2.2.2.1 (mvT Cc.2.1 w1) (mvT Cc.2.1 w2) (notFace_of_selects (args := #[]) (mvT Cc.2.1 w3)) (mvT Cc.2.1 w3) (mvT Cc.2.1 w4) hy (backOf (W := (rest.map fun v => v.category).sum) (Q := fun v h L => Fr n0 L ∧ Q' v h) (G.met pn hef []) Cc.2.1 w5 w6 hR1 hR2) qa qc (g := mkF m pc Ls (argsL.reverse ++ .ref a :: rest)) rfl (by rw [Cc.2.2.2.1]; exact hsz) (Steps.refl _) (argsL := argsL) (rest := rest) (lenOf pd hl) rfl (by simp) (hb Cc.2.2.1 hd) (fun _ _ => ⟨rfl, eT, by show k' + _ ≤ _; omega, by show n' + _ ≤ _; omega⟩)
  dsimp only [Pt.U, Pt.locs, Pt.cells, Pt.slots] at X1 e1 e2 e3 f hQ
  subst e1 e2 e3
  exact (K v T1.heap hQ.2 p e s m args below meth c T1 _ _ _ Cc X1 (by omega) (by omega) (Fr.app N hQ.1) rfl).step fun t r => f.trans r
theorem Go.callI {a : Addr} (hd : decode code pc = .ok (.invokespecial i, 3)) (hq : q = pc + 3) (hn1 : y'.name = "<init>") (w1 : (Jvm.Cond.methodLink mn.cls i y').before a0 Z = true) (w2 : (Jvm.Cond.instanceMethod y').before a0 Z = true) (w3 : (Jvm.Cond.initialized y'.cls).before a0 Z = true) (w4 : (Jvm.Cond.code y' code' maxL' none).before a0 Z = true)
    (hy : y'.cls ≠ "java/lang/invoke/MethodHandle" ∧ y'.cls ≠ "java/lang/invoke/VarHandle") (pn : plainName y'.cls = true) (pd : parseMethodDescriptor y'.desc = some ⟨ps, r⟩) (hl : argsL.length = ps.length) (hst : st = argsL.reverse ++ .ref a :: rest) (hef : ∀ m, entryFrame m (.ref a :: argsL).toArray maxL' = mkF m 0 Ls1 []) (hsz : Ls.size = maxL)
    (hR1 : R'.frames + 1 ≤ R.frames) (hW : (rest.map fun v => v.category).sum = wd) (hR2 : wd + (maxL' + 11) + R'.locals ≤ R.locals) (hc : k + R'.cells ≤ R.cells) (hs : n + R'.slots ≤ R.slots)
    (G : Go l Z y' code' maxL' none R' n0 Q' h 0 0 0 Ls1 []) (K : ∀ v h', Q' v h' → Go l Z mn code maxL ret R n0 Q h' (k + R'.cells) (n + R'.slots) q Ls (v.toList ++ rest)) : Go l Z mn code maxL ret R n0 Q h k n pc Ls st := by
  subst hq hst hW
  intro p e s m args below meth c T locs k' n' Cc X hk hn N eT
  obtain ⟨v, vm1, ⟨T1, L1, k1, n1⟩, -, X1, ⟨Lc, hQ, e1, e2, e3⟩, f⟩ := X.specialBack Cc.1 (y := y') hn1 Cc.2.2.2.2.1 (mvT Cc.2.1 w1) (mvT Cc.2.1 w2) (mvT Cc.2.1 w4) hy (backOf (W := (rest.map fun v => v.category).sum) (Q := fun v h L => Fr n0 L ∧ Q' v h) (G.met pn hef []) Cc.2.1 w4 w3 hR1 hR2) (g := mkF m pc Ls (argsL.reverse ++ .ref a :: rest)) rfl (by rw [Cc.2.2.2.1]; exact hsz) (Steps.refl _) (a := a) (argsL := argsL) (rest := rest) (lenOf pd hl) rfl (by simp) (hb Cc.2.2.1 hd) (fun _ _ => ⟨rfl, eT, by show k' + _ ≤ _; omega, by show n' + _ ≤ _; omega⟩)
  dsimp only [Pt.U, Pt.locs, Pt.cells, Pt.slots] at X1 e1 e2 e3 f hQ
  subst e1 e2 e3
  exact (K v T1.heap hQ.2 p e s m args below meth c T1 _ _ _ Cc X1 (by omega) (by omega) (Fr.app N hQ.1) rfl).step fun t r => f.trans r
theorem Go.callSV {P : Value → Heap → Prop} (hd : decode code pc = .ok (.invokestatic i, 3)) (hq : q = pc + 3) (w1 : (Jvm.Cond.methodLink mn.cls i y').before a0 Z = true) (w2 : (Jvm.Cond.static y').before a0 Z = true) (w3 : (Jvm.Cond.initialized y'.cls).before a0 Z = true) (w4 : (Jvm.Cond.code y' code' maxL' ret').before a0 Z = true)
    (hy : y'.cls ≠ "java/lang/invoke/MethodHandle" ∧ y'.cls ≠ "java/lang/invoke/VarHandle") (pn : plainName y'.cls = true) (pd : parseMethodDescriptor y'.desc = some ⟨ps, r⟩) (hl : argsL.length = ps.length) (hst : st = argsL.reverse ++ rest) (hef : ∀ m, entryFrame m argsL.toArray maxL' = mkF m 0 Ls1 []) (hsz : Ls.size = maxL)
    (hR1 : R'.frames + 1 ≤ R.frames) (hW : (rest.map fun v => v.category).sum = wd) (hR2 : wd + (maxL' + 11) + R'.locals ≤ R.locals) (hc : k + R'.cells ≤ R.cells) (hs : n + R'.slots ≤ R.slots)
    (G : Go l Z y' code' maxL' ret' R' n0 (RV P) h 0 0 0 Ls1 []) (K : ∀ w h', P w h' → Go l Z mn code maxL ret R n0 Q h' (k + R'.cells) (n + R'.slots) q Ls (w :: rest)) : Go l Z mn code maxL ret R n0 Q h k n pc Ls st :=
  Go.callS hd hq w1 w2 w3 w4 hy pn pd hl hst hef hsz hR1 hW hR2 hc hs G fun v h' ⟨w, e, q⟩ => by subst e; exact K w h' q
theorem Go.callSN {P : Heap → Prop} (hd : decode code pc = .ok (.invokestatic i, 3)) (hq : q = pc + 3) (w1 : (Jvm.Cond.methodLink mn.cls i y').before a0 Z = true) (w2 : (Jvm.Cond.static y').before a0 Z = true) (w3 : (Jvm.Cond.initialized y'.cls).before a0 Z = true) (w4 : (Jvm.Cond.code y' code' maxL' ret').before a0 Z = true)
    (hy : y'.cls ≠ "java/lang/invoke/MethodHandle" ∧ y'.cls ≠ "java/lang/invoke/VarHandle") (pn : plainName y'.cls = true) (pd : parseMethodDescriptor y'.desc = some ⟨ps, r⟩) (hl : argsL.length = ps.length) (hst : st = argsL.reverse ++ rest) (hef : ∀ m, entryFrame m argsL.toArray maxL' = mkF m 0 Ls1 []) (hsz : Ls.size = maxL)
    (hR1 : R'.frames + 1 ≤ R.frames) (hW : (rest.map fun v => v.category).sum = wd) (hR2 : wd + (maxL' + 11) + R'.locals ≤ R.locals) (hc : k + R'.cells ≤ R.cells) (hs : n + R'.slots ≤ R.slots)
    (G : Go l Z y' code' maxL' ret' R' n0 (RN P) h 0 0 0 Ls1 []) (K : ∀ h', P h' → Go l Z mn code maxL ret R n0 Q h' (k + R'.cells) (n + R'.slots) q Ls rest) : Go l Z mn code maxL ret R n0 Q h k n pc Ls st :=
  Go.callS hd hq w1 w2 w3 w4 hy pn pd hl hst hef hsz hR1 hW hR2 hc hs G fun v h' ⟨e, q⟩ => by subst e; exact K h' q
theorem Go.callVV {P : Value → Heap → Prop} {C : String} {a : Addr} (hd : decode code pc = .ok (.invokevirtual i, 3)) (hq : q = pc + 3) (w1 : (Jvm.Cond.methodLink mn.cls i y').before a0 Z = true) (w2 : (Jvm.Cond.declares y').before a0 Z = true) (w3 : (Jvm.Cond.selects C y' y').before a0 Z = true) (w4 : (Jvm.Cond.instanceMethod y').before a0 Z = true) (w5 : (Jvm.Cond.code y' code' maxL' ret').before a0 Z = true) (w6 : (Jvm.Cond.initialized y'.cls).before a0 Z = true)
    (hy : y'.cls ≠ "java/lang/invoke/MethodHandle" ∧ y'.cls ≠ "java/lang/invoke/VarHandle") (pn : plainName y'.cls = true) (pd : parseMethodDescriptor y'.desc = some ⟨ps, r⟩) (hl : argsL.length = ps.length) (hst : st = argsL.reverse ++ .ref a :: rest) (E : Exa Z h a C) (hef : ∀ m, entryFrame m (.ref a :: argsL).toArray maxL' = mkF m 0 Ls1 []) (hsz : Ls.size = maxL)
    (hR1 : R'.frames + 1 ≤ R.frames) (hW : (rest.map fun v => v.category).sum = wd) (hR2 : wd + (maxL' + 11) + R'.locals ≤ R.locals) (hc : k + R'.cells ≤ R.cells) (hs : n + R'.slots ≤ R.slots)
    (G : Go l Z y' code' maxL' ret' R' n0 (RV P) h 0 0 0 Ls1 []) (K : ∀ w h', P w h' → Go l Z mn code maxL ret R n0 Q h' (k + R'.cells) (n + R'.slots) q Ls (w :: rest)) : Go l Z mn code maxL ret R n0 Q h k n pc Ls st :=
  Go.callV hd hq w1 w2 w3 w4 w5 w6 hy pn pd hl hst E hef hsz hR1 hW hR2 hc hs G fun v h' ⟨w, e, q⟩ => by subst e; exact K w h' q
theorem Go.callVN {P : Heap → Prop} {C : String} {a : Addr} (hd : decode code pc = .ok (.invokevirtual i, 3)) (hq : q = pc + 3) (w1 : (Jvm.Cond.methodLink mn.cls i y').before a0 Z = true) (w2 : (Jvm.Cond.declares y').before a0 Z = true) (w3 : (Jvm.Cond.selects C y' y').before a0 Z = true) (w4 : (Jvm.Cond.instanceMethod y').before a0 Z = true) (w5 : (Jvm.Cond.code y' code' maxL' ret').before a0 Z = true) (w6 : (Jvm.Cond.initialized y'.cls).before a0 Z = true)
    (hy : y'.cls ≠ "java/lang/invoke/MethodHandle" ∧ y'.cls ≠ "java/lang/invoke/VarHandle") (pn : plainName y'.cls = true) (pd : parseMethodDescriptor y'.desc = some ⟨ps, r⟩) (hl : argsL.length = ps.length) (hst : st = argsL.reverse ++ .ref a :: rest) (E : Exa Z h a C) (hef : ∀ m, entryFrame m (.ref a :: argsL).toArray maxL' = mkF m 0 Ls1 []) (hsz : Ls.size = maxL)
    (hR1 : R'.frames + 1 ≤ R.frames) (hW : (rest.map fun v => v.category).sum = wd) (hR2 : wd + (maxL' + 11) + R'.locals ≤ R.locals) (hc : k + R'.cells ≤ R.cells) (hs : n + R'.slots ≤ R.slots)
    (G : Go l Z y' code' maxL' ret' R' n0 (RN P) h 0 0 0 Ls1 []) (K : ∀ h', P h' → Go l Z mn code maxL ret R n0 Q h' (k + R'.cells) (n + R'.slots) q Ls rest) : Go l Z mn code maxL ret R n0 Q h k n pc Ls st :=
  Go.callV hd hq w1 w2 w3 w4 w5 w6 hy pn pd hl hst E hef hsz hR1 hW hR2 hc hs G fun v h' ⟨e, q⟩ => by subst e; exact K h' q
theorem Go.callIN {P : Heap → Prop} {a : Addr} (hd : decode code pc = .ok (.invokespecial i, 3)) (hq : q = pc + 3) (hn1 : y'.name = "<init>") (w1 : (Jvm.Cond.methodLink mn.cls i y').before a0 Z = true) (w2 : (Jvm.Cond.instanceMethod y').before a0 Z = true) (w3 : (Jvm.Cond.initialized y'.cls).before a0 Z = true) (w4 : (Jvm.Cond.code y' code' maxL' none).before a0 Z = true)
    (hy : y'.cls ≠ "java/lang/invoke/MethodHandle" ∧ y'.cls ≠ "java/lang/invoke/VarHandle") (pn : plainName y'.cls = true) (pd : parseMethodDescriptor y'.desc = some ⟨ps, r⟩) (hl : argsL.length = ps.length) (hst : st = argsL.reverse ++ .ref a :: rest) (hef : ∀ m, entryFrame m (.ref a :: argsL).toArray maxL' = mkF m 0 Ls1 []) (hsz : Ls.size = maxL)
    (hR1 : R'.frames + 1 ≤ R.frames) (hW : (rest.map fun v => v.category).sum = wd) (hR2 : wd + (maxL' + 11) + R'.locals ≤ R.locals) (hc : k + R'.cells ≤ R.cells) (hs : n + R'.slots ≤ R.slots)
    (G : Go l Z y' code' maxL' none R' n0 (RN P) h 0 0 0 Ls1 []) (K : ∀ h', P h' → Go l Z mn code maxL ret R n0 Q h' (k + R'.cells) (n + R'.slots) q Ls rest) : Go l Z mn code maxL ret R n0 Q h k n pc Ls st :=
  Go.callI hd hq hn1 w1 w2 w3 w4 hy pn pd hl hst hef hsz hR1 hW hR2 hc hs G fun v h' ⟨e, q⟩ => by subst e; exact K h' q
end Calls
section Rets
variable {l : Launch} {Z : State} {mn : MethodName} {code : ByteArray} {maxL : Nat} {R : Room} {n0 : Nat} {Q : Option Value → Heap → Prop} {h : Heap} {k n pc q : Nat} {Ls : Array Slot} {st : List Value}
theorem Go.retOut {w : Value} {t : FieldType} {i : Instr} (hd : decode code pc = .ok (i, 1)) (hna : narrow t w = w)
    (hi : (i = .ireturn ∧ (t = .int ∨ t = .boolean ∨ t = .byte ∨ t = .char ∨ t = .short) ∧ ∃ z, w = .int z) ∨ (i = .lreturn ∧ t = .long ∧ ∃ z, w = .long z) ∨ (i = .dreturn ∧ t = .double ∧ ∃ z, w = .double z) ∨ (i = .freturn ∧ t = .float ∧ ∃ z, w = .float z) ∨ (i = .areturn ∧ t.isReference = true ∧ w.isRef = true))
    (hk : k ≤ R.cells) (hn : n ≤ R.slots) (hQ : Q (some w) h) : Go l Z mn code maxL (some t) R n0 Q h k n pc Ls (w :: st) := by
  intro p e s m args below meth c T locs k' n' C X hk' hn' N eT
  obtain ⟨fs, hr, hrun, hended, hW, hsame⟩ := X.leave (v := some w) (fun hh => by rw [C.2.2.2.2.2.1] at hh; cases hh) C.2.2.2.2.2.2.1
  exact ⟨_, _, RoadKit.retOut X C.1 C.2.2.2.2.2.1 hna hi (hb C.2.2.1 hd) hr, hrun, hended, _, locs, rfl, ⟨N, by show Q _ T.heap; rw [eT]; exact hQ⟩, ⟨_, rfl⟩, hW, hsame.mono (by omega) (by omega)⟩
theorem Go.ireturn {z : Int32} (hd : decode code pc = .ok (.ireturn, 1)) (hk : k ≤ R.cells) (hn : n ≤ R.slots) (hQ : Q (some (.int z)) h) : Go l Z mn code maxL (some .int) R n0 Q h k n pc Ls (.int z :: st) :=
  Go.retOut hd rfl (Or.inl ⟨rfl, Or.inl rfl, z, rfl⟩) hk hn hQ
theorem Go.zreturn {z : Int32} (hd : decode code pc = .ok (.ireturn, 1)) (hk : k ≤ R.cells) (hn : n ≤ R.slots) (hz : z = 0 ∨ z = 1) (hQ : Q (some (.int z)) h) : Go l Z mn code maxL (some .boolean) R n0 Q h k n pc Ls (.int z :: st) :=
  Go.retOut hd (by rcases hz with rfl | rfl <;> rfl) (Or.inl ⟨rfl, Or.inr (Or.inl rfl), z, rfl⟩) hk hn hQ
theorem Go.creturn {z : Int32} (hd : decode code pc = .ok (.ireturn, 1)) (hk : k ≤ R.cells) (hn : n ≤ R.slots) (hz : narrow .char (.int z) = .int z) (hQ : Q (some (.int z)) h) : Go l Z mn code maxL (some .char) R n0 Q h k n pc Ls (.int z :: st) :=
  Go.retOut hd hz (Or.inl ⟨rfl, Or.inr (Or.inr (Or.inr (Or.inl rfl))), z, rfl⟩) hk hn hQ
theorem Go.lreturn {z : Int64} (hd : decode code pc = .ok (.lreturn, 1)) (hk : k ≤ R.cells) (hn : n ≤ R.slots) (hQ : Q (some (.long z)) h) : Go l Z mn code maxL (some .long) R n0 Q h k n pc Ls (.long z :: st) :=
  Go.retOut hd rfl (Or.inr (Or.inl ⟨rfl, rfl, z, rfl⟩)) hk hn hQ
theorem Go.areturn {w : Value} {t : FieldType} (hd : decode code pc = .ok (.areturn, 1)) (hk : k ≤ R.cells) (hn : n ≤ R.slots) (ht : t.isReference = true) (hw : w.isRef = true) (hQ : Q (some w) h) : Go l Z mn code maxL (some t) R n0 Q h k n pc Ls (w :: st) :=
  Go.retOut hd (by rcases ref_cases hw with rfl | ⟨a, rfl⟩ <;> cases t <;> first | exact absurd ht (by decide) | rfl) (Or.inr (Or.inr (Or.inr (Or.inr ⟨rfl, ht, hw⟩)))) hk hn hQ
theorem Go.vreturn (hd : decode code pc = .ok (.return_, 1)) (hk : k ≤ R.cells) (hn : n ≤ R.slots) (hQ : Q none h) : Go l Z mn code maxL none R n0 Q h k n pc Ls [] := by
  intro p e s m args below meth c T locs k' n' C X hk' hn' N eT
  obtain ⟨fs, hr, hrun, hended, hW, hsame⟩ := X.leave (v := none) (fun _ => rfl) C.2.2.2.2.2.2.1
  exact ⟨_, _, X.returnOut C.1 C.2.2.2.2.2.1 (hb C.2.2.1 hd) hr, hrun, hended, _, locs, rfl, ⟨N, by show Q _ T.heap; rw [eT]; exact hQ⟩, ⟨_, rfl⟩, hW, hsame.mono (by omega) (by omega)⟩
end Rets
/-- an array's whole content -/
def Ar (Z : State) (h : Heap) (a : Addr) (ty : FieldType) (cA : ClassId) (vs : List Value) : Prop := ∃ c : Cell, Arr Z h a c ty ∧ c.cls = cA ∧ c.slots.toList = vs
section Arrs
variable {Z : State} {h h' : Heap} {a b : Addr} {ty : FieldType} {cA : ClassId} {vs : List Value} {sl : Nat} {v : Value} {ws : List Addr}
theorem Ar.lt (F : Ar Z h a ty cA vs) : a < h.size := by obtain ⟨c, A, -⟩ := F; exact A.lt
theorem Ar.ext (F : Ar Z h a ty cA vs) (E : Ext h h') : Ar Z h' a ty cA vs := by obtain ⟨c, A, r⟩ := F; exact ⟨c, A.ext E, r⟩
theorem Ar.other (F : Ar Z h b ty cA vs) (W : Wr h h' a sl v) (q : b ≠ a) : Ar Z h' b ty cA vs := by obtain ⟨c, A, r⟩ := F; exact ⟨c, A.other W q, r⟩
theorem Ar.keep (F : Ar Z h a ty cA vs) (K : Keep h h' ws) (q : a ∉ ws) : Ar Z h' a ty cA vs := by obtain ⟨c, A, r⟩ := F; exact ⟨c, ⟨K.2.1 a c A.1 q, A.2⟩, r⟩
theorem Ar.set (F : Ar Z h a ty cA vs) (W : Wr h h' a sl v) : Ar Z h' a ty cA (vs.set sl v) := by
  obtain ⟨c, A, r1, r2⟩ := F
  exact ⟨_, A.same W, r1, by simp [Cell.setSlot, r2]⟩
theorem Ar.size (F : Ar Z h a ty cA vs) {c : Cell} (hc : h[a]? = some c) : c.slots.size = vs.length := by
  obtain ⟨c', A, -, r⟩ := F
  cases hc.symm.trans A.1
  rw [← r]; simp
theorem Ar.ne {C : String} {k : Nat} {a0 : Array Value} (F : Exa Z h b C) (wi : (Jvm.Cond.instantiable C k).before a0 Z = true) (G : Ar Z h a ty cA vs) : b ≠ a := by
  obtain ⟨c, A, -⟩ := G; exact ne_arr F wi A
end Arrs
section ArrSteps
variable {l : Launch} {Z : State} {mn : MethodName} {code : ByteArray} {maxL : Nat} {ret : Option FieldType} {R : Room} {n0 : Nat} {Q : Option Value → Heap → Prop} {h : Heap} {k n pc q : Nat} {Ls : Array Slot} {st : List Value} {a0 : Array Value} {a : Addr} {ty : FieldType} {cA : ClassId} {vs : List Value} {v : Value} {j x : Int32}
theorem inb {c : Cell} (hj : ¬ j < 0) (r : c.slots.toList = vs) (hv : j.toNatClampNeg < vs.length) : ¬ (j < 0 ∨ c.slots.size ≤ j.toNatClampNeg) := by
  rintro (q | q)
  · exact hj q
  · rw [← r] at hv; simp at hv; omega
theorem at_l {c : Cell} {i : Nat} (r : c.slots.toList = vs) (hv : vs[i]? = some v) : c.slots[i]? = some v := by rw [← r] at hv; simpa using hv
theorem Go.arraylength (hd : decode code pc = .ok (.arraylength, 1)) (hq : q = pc + 1) (A : Ar Z h a ty cA vs) {z : Int32} (hz : vs.length.toInt32 = z) (K : Go l Z mn code maxL ret R n0 Q h k n q Ls (.int z :: st)) : Go l Z mn code maxL ret R n0 Q h k n pc Ls (.ref a :: st) := by
  subst hq hz
  intro p e s m args below meth c T locs k' n' C X hk hn N eT
  obtain ⟨cl, A, r1, r2⟩ := A
  exact (K p e s m args below meth c T locs k' n' C X hk hn N eT).step fun t r => X.arraylength (g := mkF m pc Ls (.ref a :: st)) C.1 (by rw [eT]; exact A.1) (State.isArrayOf_alike C.2.1.alike A.2.1) rfl rfl (hb C.2.2.1 hd) t (by rw [show cl.slots.size = vs.length by rw [← r2]; simp]; exact r)
theorem Go.iaload (hd : decode code pc = .ok (.iaload, 1)) (hq : q = pc + 1) (A : Ar Z h a .int cA vs) (hj : ¬ j < 0) (hv : vs[j.toNatClampNeg]? = some v) (K : Go l Z mn code maxL ret R n0 Q h k n q Ls (v :: st)) : Go l Z mn code maxL ret R n0 Q h k n pc Ls (.int j :: .ref a :: st) := by
  subst hq
  intro p e s m args below meth c T locs k' n' C X hk hn N eT
  obtain ⟨cl, A, r1, r2⟩ := A
  exact (K p e s m args below meth c T locs k' n' C X hk hn N eT).step fun t r => X.iaload (g := mkF m pc Ls (.int j :: .ref a :: st)) C.1 (by rw [eT]; exact A.1) (State.isArrayOf_alike C.2.1.alike A.2.1) A.2.2 (inb hj r2 (List.getElem?_eq_some_iff.mp hv).1) (at_l r2 hv) rfl rfl (hb C.2.2.1 hd) t r
theorem Go.laload (hd : decode code pc = .ok (.laload, 1)) (hq : q = pc + 1) (A : Ar Z h a .long cA vs) (hj : ¬ j < 0) (hv : vs[j.toNatClampNeg]? = some v) (K : Go l Z mn code maxL ret R n0 Q h k n q Ls (v :: st)) : Go l Z mn code maxL ret R n0 Q h k n pc Ls (.int j :: .ref a :: st) := by
  subst hq
  intro p e s m args below meth c T locs k' n' C X hk hn N eT
  obtain ⟨cl, A, r1, r2⟩ := A
  exact (K p e s m args below meth c T locs k' n' C X hk hn N eT).step fun t r => X.laload (g := mkF m pc Ls (.int j :: .ref a :: st)) C.1 (by rw [eT]; exact A.1) (State.isArrayOf_alike C.2.1.alike A.2.1) A.2.2 (inb hj r2 (List.getElem?_eq_some_iff.mp hv).1) (at_l r2 hv) rfl rfl (hb C.2.2.1 hd) t r
theorem Go.caload (hd : decode code pc = .ok (.caload, 1)) (hq : q = pc + 1) (A : Ar Z h a .char cA vs) (hj : ¬ j < 0) (hv : vs[j.toNatClampNeg]? = some v) (K : Go l Z mn code maxL ret R n0 Q h k n q Ls (v :: st)) : Go l Z mn code maxL ret R n0 Q h k n pc Ls (.int j :: .ref a :: st) := by
  subst hq
  intro p e s m args below meth c T locs k' n' C X hk hn N eT
  obtain ⟨cl, A, r1, r2⟩ := A
  exact (K p e s m args below meth c T locs k' n' C X hk hn N eT).step fun t r => X.caload (g := mkF m pc Ls (.int j :: .ref a :: st)) C.1 (by rw [eT]; exact A.1) (State.isArrayOf_alike C.2.1.alike A.2.1) A.2.2 (inb hj r2 (List.getElem?_eq_some_iff.mp hv).1) (at_l r2 hv) rfl rfl (hb C.2.2.1 hd) t r
theorem Go.zaload (hd : decode code pc = .ok (.baload, 1)) (hq : q = pc + 1) (A : Ar Z h a .boolean cA vs) (hj : ¬ j < 0) (hv : vs[j.toNatClampNeg]? = some v) (K : Go l Z mn code maxL ret R n0 Q h k n q Ls (v :: st)) : Go l Z mn code maxL ret R n0 Q h k n pc Ls (.int j :: .ref a :: st) := by
  subst hq
  intro p e s m args below meth c T locs k' n' C X hk hn N eT
  obtain ⟨cl, A, r1, r2⟩ := A
  exact (K p e s m args below meth c T locs k' n' C X hk hn N eT).step fun t r => X.baloadBooleans (g := mkF m pc Ls (.int j :: .ref a :: st)) C.1 (by rw [eT]; exact A.1) (State.isArrayOf_alike C.2.1.alike A.2.1) A.2.2 (inb hj r2 (List.getElem?_eq_some_iff.mp hv).1) (at_l r2 hv) rfl rfl (hb C.2.2.1 hd) t r
theorem Go.baload (hd : decode code pc = .ok (.baload, 1)) (hq : q = pc + 1) (A : Ar Z h a .byte cA vs) (hj : ¬ j < 0) (hv : vs[j.toNatClampNeg]? = some v) (K : Go l Z mn code maxL ret R n0 Q h k n q Ls (v :: st)) : Go l Z mn code maxL ret R n0 Q h k n pc Ls (.int j :: .ref a :: st) := by
  subst hq
  intro p e s m args below meth c T locs k' n' C X hk hn N eT
  obtain ⟨cl, A, r1, r2⟩ := A
  exact (K p e s m args below meth c T locs k' n' C X hk hn N eT).step fun t r => X.baloadBytes (g := mkF m pc Ls (.int j :: .ref a :: st)) C.1 (by rw [eT]; exact A.1) (State.isArrayOf_alike C.2.1.alike A.2.1) A.2.2 (inb hj r2 (List.getElem?_eq_some_iff.mp hv).1) (at_l r2 hv) rfl rfl (hb C.2.2.1 hd) t r
theorem Go.aaload (hd : decode code pc = .ok (.aaload, 1)) (hq : q = pc + 1) (A : Ar Z h a ty cA vs) (ht : ty.isReference = true) (hj : ¬ j < 0) (hv : vs[j.toNatClampNeg]? = some v) (K : Go l Z mn code maxL ret R n0 Q h k n q Ls (v :: st)) : Go l Z mn code maxL ret R n0 Q h k n pc Ls (.int j :: .ref a :: st) := by
  subst hq
  intro p e s m args below meth c T locs k' n' C X hk hn N eT
  obtain ⟨cl, A, r1, r2⟩ := A
  exact (K p e s m args below meth c T locs k' n' C X hk hn N eT).step fun t r => X.aaload (g := mkF m pc Ls (.int j :: .ref a :: st)) C.1 (by rw [eT]; exact A.1) (State.isArrayOf_alike C.2.1.alike A.2.1) ht A.2.2 (inb hj r2 (List.getElem?_eq_some_iff.mp hv).1) (at_l r2 hv) rfl rfl (hb C.2.2.1 hd) t r
theorem Go.iastore (hd : decode code pc = .ok (.iastore, 1)) (hq : q = pc + 1) (A : Ar Z h a .int cA vs) (hj : ¬ j < 0) (hv : j.toNatClampNeg < vs.length) (ha : n0 ≤ a) (K : ∀ h', Wr h h' a j.toNatClampNeg (.int x) → Go l Z mn code maxL ret R n0 Q h' k n q Ls st) : Go l Z mn code maxL ret R n0 Q h k n pc Ls (.int x :: .int j :: .ref a :: st) := by
  subst hq
  intro p e s m args below meth c T locs k' n' C X hk hn N eT
  obtain ⟨cl, A, r1, r2⟩ := A
  obtain ⟨T', h', X', e', W, f⟩ := stI X C.1 C.2.1 eT A (inb hj r2 hv) (g := mkF m pc Ls (.int x :: .int j :: .ref a :: st)) rfl rfl (hb C.2.2.1 hd)
  exact (K h' W p e s m args below meth c T' _ k' n' C X' hk hn (Fr.snoc X' N ha) e').step f
theorem Go.lastore {x : Int64} (hd : decode code pc = .ok (.lastore, 1)) (hq : q = pc + 1) (A : Ar Z h a .long cA vs) (hj : ¬ j < 0) (hv : j.toNatClampNeg < vs.length) (ha : n0 ≤ a) (K : ∀ h', Wr h h' a j.toNatClampNeg (.long x) → Go l Z mn code maxL ret R n0 Q h' k n q Ls st) : Go l Z mn code maxL ret R n0 Q h k n pc Ls (.long x :: .int j :: .ref a :: st) := by
  subst hq
  intro p e s m args below meth c T locs k' n' C X hk hn N eT
  obtain ⟨cl, A, r1, r2⟩ := A
  obtain ⟨T', h', X', e', W, f⟩ := stJ X C.1 C.2.1 eT A (inb hj r2 hv) (g := mkF m pc Ls (.long x :: .int j :: .ref a :: st)) rfl rfl (hb C.2.2.1 hd)
  exact (K h' W p e s m args below meth c T' _ k' n' C X' hk hn (Fr.snoc X' N ha) e').step f
theorem Go.castore (hd : decode code pc = .ok (.castore, 1)) (hq : q = pc + 1) (A : Ar Z h a .char cA vs) (hj : ¬ j < 0) (hv : j.toNatClampNeg < vs.length) (ha : n0 ≤ a) (K : ∀ h', Wr h h' a j.toNatClampNeg (.int (nar .char x)) → Go l Z mn code maxL ret R n0 Q h' k n q Ls st) : Go l Z mn code maxL ret R n0 Q h k n pc Ls (.int x :: .int j :: .ref a :: st) := by
  subst hq
  intro p e s m args below meth c T locs k' n' C X hk hn N eT
  obtain ⟨cl, A, r1, r2⟩ := A
  obtain ⟨T', h', X', e', W, f⟩ := stC X C.1 C.2.1 eT A (inb hj r2 hv) (g := mkF m pc Ls (.int x :: .int j :: .ref a :: st)) rfl rfl (hb C.2.2.1 hd)
  exact (K h' W p e s m args below meth c T' _ k' n' C X' hk hn (Fr.snoc X' N ha) e').step f
theorem Go.zastore (hd : decode code pc = .ok (.bastore, 1)) (hq : q = pc + 1) (A : Ar Z h a .boolean cA vs) (hj : ¬ j < 0) (hv : j.toNatClampNeg < vs.length) (ha : n0 ≤ a) (K : ∀ h', Wr h h' a j.toNatClampNeg (.int (nar .boolean x)) → Go l Z mn code maxL ret R n0 Q h' k n q Ls st) : Go l Z mn code maxL ret R n0 Q h k n pc Ls (.int x :: .int j :: .ref a :: st) := by
  subst hq
  intro p e s m args below meth c T locs k' n' C X hk hn N eT
  obtain ⟨cl, A, r1, r2⟩ := A
  obtain ⟨T', h', X', e', W, f⟩ := stZ X C.1 C.2.1 eT A (inb hj r2 hv) (g := mkF m pc Ls (.int x :: .int j :: .ref a :: st)) rfl rfl (hb C.2.2.1 hd)
  exact (K h' W p e s m args below meth c T' _ k' n' C X' hk hn (Fr.snoc X' N ha) e').step f
theorem Go.aastore (hd : decode code pc = .ok (.aastore, 1)) (hq : q = pc + 1) (A : Ar Z h a ty cA vs) (ht : ty.isReference = true) (hj : ¬ j < 0) (hv : j.toNatClampNeg < vs.length) (S : Sto Z h a v) (ha : n0 ≤ a) (K : ∀ h', Wr h h' a j.toNatClampNeg v → Go l Z mn code maxL ret R n0 Q h' k n q Ls st) : Go l Z mn code maxL ret R n0 Q h k n pc Ls (v :: .int j :: .ref a :: st) := by
  subst hq
  intro p e s m args below meth c T locs k' n' C X hk hn N eT
  obtain ⟨cl, A, r1, r2⟩ := A
  obtain ⟨T', h', X', e', W, f⟩ := stR X C.1 C.2.1 eT A (inb hj r2 hv) ht S (g := mkF m pc Ls (v :: .int j :: .ref a :: st)) rfl rfl (hb C.2.2.1 hd)
  exact (K h' W p e s m args below meth c T' _ k' n' C X' hk hn (Fr.snoc X' N ha) e').step f
theorem Go.newarray {aty : ArrayType} {z : Int32} {cap : Nat} (hd : decode code pc = .ok (.newarray aty, 2)) (hq : q = pc + 2) (w : (Jvm.Cond.arrayClass (newarray.typeOf aty)).before a0 Z = true) (hz : ¬ z < 0) (hcap : z.toNatClampNeg ≤ cap) (hb8 : cap * 8 ≤ 536870912) (hc : k + 1 ≤ R.cells) (hs : n + cap ≤ R.slots)
    (K : ∀ h' a cA, a = h.size → Ext h h' → Ar Z h' a (newarray.typeOf aty) cA (List.replicate z.toNatClampNeg (defaultValue (newarray.typeOf aty))) → Go l Z mn code maxL ret R n0 Q h' (k + 1) (n + cap) q Ls (.ref a :: st)) : Go l Z mn code maxL ret R n0 Q h k n pc Ls (.int z :: st) := by
  subst hq
  intro p e s m args below meth c T locs k' n' C X hk hn N eT
  obtain ⟨T', h', cA, X', e', E, A, f⟩ := newP X C.1 C.2.1 w eT (g := mkF m pc Ls (.int z :: st)) rfl (hb C.2.2.1 hd) rfl hz hcap hb8 (by omega) (by omega)
  exact (K h' h.size cA rfl E ⟨_, A, rfl, by simp [newA]⟩ p e s m args below meth c T' locs _ _ C X' (by omega) (by omega) N e').step f
theorem Go.anewarray {C : String} {i : Nat} {z : Int32} {cap : Nat} (hd : decode code pc = .ok (.anewarray i, 3)) (hq : q = pc + 3) (w1 : (Jvm.Cond.classLink mn.cls i C).before a0 Z = true) (w2 : (Jvm.Cond.arrayOver (.object C)).before a0 Z = true) (hz : ¬ z < 0) (hcap : z.toNatClampNeg ≤ cap) (hb8 : cap * 8 ≤ 536870912) (hc : k + 1 ≤ R.cells) (hs : n + cap ≤ R.slots)
    (K : ∀ h' a cA, a = h.size → Ext h h' → Ar Z h' a (.object C) cA (List.replicate z.toNatClampNeg .null) → Ovr Z cA C → Go l Z mn code maxL ret R n0 Q h' (k + 1) (n + cap) q Ls (.ref a :: st)) : Go l Z mn code maxL ret R n0 Q h k n pc Ls (.int z :: st) := by
  subst hq
  intro p e s m args below meth c T locs k' n' Cc X hk hn N eT
  obtain ⟨T', h', cA, X', e', E, A, O, f⟩ := newR X Cc.1 Cc.2.1 Cc.2.2.2.2.1 w1 w2 eT (g := mkF m pc Ls (.int z :: st)) rfl (hb Cc.2.2.1 hd) rfl hz hcap hb8 (by omega) (by omega)
  exact (K h' h.size cA rfl E ⟨_, A, rfl, by simp [newA, defaultValue]⟩ O p e s m args below meth c T' locs _ _ Cc X' (by omega) (by omega) N e').step f
theorem sto_of {C : String} {b : Addr} (A : Ar Z h a ty cA vs) (O : Ovr Z cA C) (I : Ins Z h b C true) : Sto Z h a (.ref b) := by
  obtain ⟨c, A, q, -⟩ := A
  exact Sto.ofV A q O I
end ArrSteps
end Jvm.OwnKit
namespace Jvm.OwnKit
open Jvm Jvm.ClassFile Sem Op Lib Jvm.Free Jvm.Stand Jvm.LawKit Jvm.RoadKit
section Case
variable {args : Array Value} {s : State} {idx : List Nat} {t u : Term} {a b : Addr} {ty : FieldType} {cA : ClassId} {vs : List Value} {O nm d C K : String}
theorem eq_int {v : Int32} (h : (Jvm.Cond.eq t (.int v)).value args s none s idx = some true) : t.eval args s none idx s = some (.int v) := by
  cases ha : t.eval args s none idx s with
  | none => simp [Jvm.Cond.value, ha] at h
  | some x => cases x <;> simp [Jvm.Cond.value, Term.eval, ha] at h ⊢ <;> exact h
theorem eq_long {v : Int64} (h : (Jvm.Cond.eq t (.long v)).value args s none s idx = some true) : t.eval args s none idx s = some (.long v) := by
  cases ha : t.eval args s none idx s with
  | none => simp [Jvm.Cond.value, ha] at h
  | some x => cases x <;> simp [Jvm.Cond.value, Term.eval, ha] at h ⊢ <;> exact h
theorem eq_ref (h : (Jvm.Cond.eq t u).value args s none s idx = some true) (hu : u.eval args s none idx s = some (.ref b)) : t.eval args s none idx s = some (.ref b) := by
  cases ha : t.eval args s none idx s with
  | none => simp [Jvm.Cond.value, ha] at h
  | some x => cases x <;> simp [Jvm.Cond.value, ha, hu] at h ⊢ <;> exact h
theorem sta_ref (h : (Jvm.Cond.exactly (.static C nm d) K).value args s none s [] = some true) (h1 : (Jvm.Cond.initialized C).before args s = true) (h2 : (Jvm.Cond.laysStatic C nm d).before args s = true) : ∃ a, (Term.static C nm d).eval args s none [] s = some (.ref a) ∧ Sta s s.heap C nm d (.ref a) ∧ Exa s s.heap a K := by
  obtain ⟨a, ea⟩ := exa_v h
  exact ⟨a, ea, Sta.start ea (Or.inr ⟨h1, h2⟩), Exa.start ea h⟩
theorem sta_arr (h : (Jvm.Cond.arrayOf (.static C nm d) ty).value args s none s [] = some true) (h1 : (Jvm.Cond.initialized C).before args s = true) (h2 : (Jvm.Cond.laysStatic C nm d).before args s = true) : ∃ a cA vs, (Term.static C nm d).eval args s none [] s = some (.ref a) ∧ Sta s s.heap C nm d (.ref a) ∧ Ar s s.heap a ty cA vs := by
  obtain ⟨a, ea⟩ := arr_v h
  obtain ⟨c, A⟩ := Arr.start ea h
  exact ⟨a, c.cls, c.slots.toList, ea, Sta.start ea (Or.inr ⟨h1, h2⟩), c, A, rfl, rfl⟩
theorem fld_int {v : Int32} (ev : t.eval args s none [] s = some (.ref a)) (h : (Jvm.Cond.eq (.field t O nm d) (.int v)).value args s none s [] = some true) : Fld s s.heap a O nm d (.int v) := Fld.start ((fld_at ev).symm.trans (eq_int h))
theorem fld_long {v : Int64} (ev : t.eval args s none [] s = some (.ref a)) (h : (Jvm.Cond.eq (.field t O nm d) (.long v)).value args s none s [] = some true) : Fld s s.heap a O nm d (.long v) := Fld.start ((fld_at ev).symm.trans (eq_long h))
theorem nat_small {m : Nat} (h : m < 2 ^ 31) : m.toInt32.toNatClampNeg = m := by
  show m.toInt32.toInt.toNat = m
  rw [len_toInt h]; rfl
theorem Ar.at_start (A : Ar s s.heap a ty cA vs) : ∃ c : Cell, s.arrayAt? a = some c ∧ c.slots.toList = vs ∧ c.slots.size = vs.length := by
  obtain ⟨c, A, -, r⟩ := A
  exact ⟨c, A.fin (Vm.Alike.refl _), r, by rw [← r]; simp⟩
theorem arr_len {z : Int32} (ev : t.eval args s none [] s = some (.ref a)) (A : Ar s s.heap a ty cA vs) (h : (Jvm.Cond.eq (.length t) (.int z)).value args s none s [] = some true) : vs.length = z.toNatClampNeg := by
  obtain ⟨c, hc, -, r⟩ := A.at_start
  have e := eq_int h
  simp only [Term.eval, ev, hc, Option.bind_eq_bind, Option.bind_some] at e
  split at e
  · rename_i q
    have e2 : c.slots.size.toInt32 = z := by simpa using e
    rw [← e2, nat_small q, r]
  · simp at e
theorem arr_elem {j : Int32} {v : Int32} (ev : t.eval args s none [] s = some (.ref a)) (A : Ar s s.heap a ty cA vs) (h : (Jvm.Cond.eq (.elem t (.int j)) (.int v)).value args s none s [] = some true) : vs[j.toNatClampNeg]? = some (.int v) := by
  obtain ⟨c, hc, r, -⟩ := A.at_start
  have e := eq_int h
  simp only [Term.eval, ev, hc, Option.bind_eq_bind, Option.bind_some] at e
  split at e
  · simp at e
  · rw [← r]; simpa using e
theorem arr_elemR {j : Int32} {u : Term} {b : Addr} (ev : t.eval args s none [] s = some (.ref a)) (A : Ar s s.heap a ty cA vs) (h : (Jvm.Cond.eq (.elem t (.int j)) u).value args s none s [] = some true) (hu : u.eval args s none [] s = some (.ref b)) : vs[j.toNatClampNeg]? = some (.ref b) := by
  obtain ⟨c, hc, r, -⟩ := A.at_start
  have e := eq_ref h hu
  simp only [Term.eval, ev, hc, Option.bind_eq_bind, Option.bind_some] at e
  split at e
  · simp at e
  · rw [← r]; simpa using e
theorem fold_no {f : Nat → Option Bool} {x : Option Bool} (hx : x ≠ some true) : ∀ L : List Nat, L.foldl (fun acc i => match acc with | some true => f i | x => x) x = x
  | [] => rfl
  | i :: L => by
    rw [List.foldl_cons]
    rcases x with _ | _ | _
    · exact fold_no hx L
    · exact fold_no hx L
    · exact absurd rfl hx
theorem fold_all {f : Nat → Option Bool} : ∀ L : List Nat, L.foldl (fun acc i => match acc with | some true => f i | x => x) (some true) = some true → ∀ i ∈ L, f i = some true
  | [], _, i, hi => nomatch hi
  | j :: L, h, i, hi => by
    rw [List.foldl_cons] at h
    by_cases hj : f j = some true
    · have h' : L.foldl (fun acc i => match acc with | some true => f i | x => x) (f j) = some true := h
      rw [hj] at h'
      rcases List.mem_cons.mp hi with rfl | hi
      · exact hj
      · exact fold_all L h' i hi
    · have h' : L.foldl (fun acc i => match acc with | some true => f i | x => x) (f j) = some true := h
      rw [fold_no hj L] at h'
      exact absurd h' hj
theorem arr_all {c : Jvm.Cond} (ev : t.eval args s none [] s = some (.ref a)) (A : Ar s s.heap a ty cA vs) (h : (Jvm.Cond.all t c).value args s none s [] = some true) : ∀ i, i < vs.length → c.value args s none s [i] = some true := by
  obtain ⟨cl, hc, -, r⟩ := A.at_start
  intro i hi
  simp only [Jvm.Cond.value, ev, hc] at h
  exact fold_all _ h i (List.mem_range.mpr (by omega))
theorem all_elem {i : Nat} {v : Int32} (ev : t.eval args s none [i] s = some (.ref a)) (A : Ar s s.heap a ty cA vs) (hi : i < 2 ^ 31) (h : (Jvm.Cond.eq (.elem t (.index 0)) (.int v)).value args s none s [i] = some true) : vs[i]? = some (.int v) := by
  obtain ⟨c, hc, r, -⟩ := A.at_start
  have e := eq_int h
  simp only [Term.eval, ev, hc, Option.bind_eq_bind, Option.bind_some, List.getElem?_cons_zero, Option.map_some] at e
  split at e
  · simp at e
  · rw [← r]; rw [nat_small hi] at e; simpa using e
theorem all_le {i : Nat} {v : Int32} {c : Jvm.Cond} (hi : i < 2 ^ 31) (h : (Jvm.Cond.or (.le (.int v) (.index 0)) c).value args s none s [i] = some true) : v.toInt ≤ i ∨ c.value args s none s [i] = some true := by
  simp only [Jvm.Cond.value, Term.eval, List.getElem?_cons_zero, Option.map_some] at h
  by_cases q : v ≤ i.toInt32
  · left; rw [Int32.le_iff_toInt_le, len_toInt hi] at q; exact q
  · right; simpa [q] using h
theorem all_lt {i : Nat} {v : Int32} {c : Jvm.Cond} (hi : i < 2 ^ 31) (h : (Jvm.Cond.or (.lt (.index 0) (.int v)) c).value args s none s [i] = some true) : (i : Int) < v.toInt ∨ c.value args s none s [i] = some true := by
  simp only [Jvm.Cond.value, Term.eval, List.getElem?_cons_zero, Option.map_some] at h
  by_cases q : i.toInt32 < v
  · left; rw [Int32.lt_iff_toInt_lt, len_toInt hi] at q; exact q
  · right; simpa [q] using h
theorem sta_idx {C nm d : String} {idx : List Nat} {v : Value} (ev : (Term.static C nm d).eval args s none [] s = some v) : (Term.static C nm d).eval args s none idx s = some v := ev
end Case
end Jvm.OwnKit
namespace Jvm.RoadKit
open ClassFile
theorem Fld.nxt {Z : State} {h : Heap} {a0 : Array Value} {o : Addr} {h' : Heap} {C nm d nm' d' : String} {v w : Value} {t t' : FieldType} (F : Fld Z h o C nm d v) (W : Wr h h' o (slotOf Z C nm' d') w) (L : Laid Z a0 C C nm d) (L' : Laid Z a0 C C nm' d') (hn : nm ≠ nm') (ht : parseFieldDescriptor d = some t) (ht' : parseFieldDescriptor d' = some t') : Fld Z h' o C nm d v :=
  F.other W (Or.inr (slot_ne L L' hn ht ht'))
end Jvm.RoadKit
namespace Jvm.OwnKit
open Jvm Jvm.ClassFile Sem Op Lib Jvm.Free Jvm.Stand Jvm.LawKit Jvm.RoadKit
section More
variable {l : Launch} {Z : State} {mn : MethodName} {code : ByteArray} {maxL : Nat} {ret : Option FieldType} {R : Room} {n0 : Nat} {Q : Option Value → Heap → Prop} {h : Heap} {k n pc q : Nat} {Ls : Array Slot} {st : List Value} {a0 : Array Value}
theorem Go.anewarrayA {C ad : String} {ty : FieldType} {i : Nat} {z : Int32} {cap : Nat} (hd : decode code pc = .ok (.anewarray i, 3)) (hq : q = pc + 3) (hC : (FieldType.array ty).toString = C) (had : "[" ++ C = ad) (w1 : (Jvm.Cond.classLink mn.cls i C).before a0 Z = true) (w2 : (Jvm.Cond.arrayOver (.array ty)).before a0 Z = true) (hz : ¬ z < 0) (hcap : z.toNatClampNeg ≤ cap) (hb8 : cap * 8 ≤ 536870912) (hc : k + 1 ≤ R.cells) (hs : n + cap ≤ R.slots)
    (K : ∀ h' a cA, a = h.size → Ext h h' → Ar Z h' a (.array ty) cA (List.replicate z.toNatClampNeg .null) → OvrA Z cA ty C → Exa Z h' a ad → Go l Z mn code maxL ret R n0 Q h' (k + 1) (n + cap) q Ls (.ref a :: st)) : Go l Z mn code maxL ret R n0 Q h k n pc Ls (.int z :: st) := by
  subst hq
  intro p e s m args below meth c T locs k' n' Cc X hk hn N eT
  obtain ⟨T', h', cA, X', e', E, A, E2, O, f⟩ := newRA X Cc.1 Cc.2.1 Cc.2.2.2.2.1 hC w1 w2 eT (g := mkF m pc Ls (.int z :: st)) rfl (hb Cc.2.2.1 hd) rfl hz hcap hb8 (by omega) (by omega) had
  exact (K h' h.size cA rfl E ⟨_, A, rfl, by simp [newA, defaultValue]⟩ O E2 p e s m args below meth c T' locs _ _ Cc X' (by omega) (by omega) N e').step f
theorem Go.newarrayE {aty : ArrayType} {z : Int32} {cap : Nat} {ad : String} (hd : decode code pc = .ok (.newarray aty, 2)) (hq : q = pc + 2) (had : "[" ++ (newarray.typeOf aty).toString = ad) (w : (Jvm.Cond.arrayClass (newarray.typeOf aty)).before a0 Z = true) (hz : ¬ z < 0) (hcap : z.toNatClampNeg ≤ cap) (hb8 : cap * 8 ≤ 536870912) (hc : k + 1 ≤ R.cells) (hs : n + cap ≤ R.slots)
    (K : ∀ h' a cA, a = h.size → Ext h h' → Ar Z h' a (newarray.typeOf aty) cA (List.replicate z.toNatClampNeg (defaultValue (newarray.typeOf aty))) → Exa Z h' a ad → Go l Z mn code maxL ret R n0 Q h' (k + 1) (n + cap) q Ls (.ref a :: st)) : Go l Z mn code maxL ret R n0 Q h k n pc Ls (.int z :: st) := by
  subst hq
  intro p e s m args below meth c T locs k' n' C X hk hn N eT
  obtain ⟨T', h', cA, X', e', E, A, E2, f⟩ := newPE X C.1 C.2.1 w eT (g := mkF m pc Ls (.int z :: st)) rfl (hb C.2.2.1 hd) rfl hz hcap hb8 (by omega) (by omega) had
  exact (K h' h.size cA rfl E ⟨_, A, rfl, by simp [newA]⟩ E2 p e s m args below meth c T' locs _ _ C X' (by omega) (by omega) N e').step f
theorem sto_ofA {a b : Addr} {t0 ty : FieldType} {cA : ClassId} {vs : List Value} {C : String} (A : Ar Z h a t0 cA vs) (O : OvrA Z cA ty C) (I : Ins Z h b C true) : Sto Z h a (.ref b) := by
  obtain ⟨c, A, q, -⟩ := A
  exact Sto.ofVA A q O I
theorem Ar.nel {a b : Addr} {ty : FieldType} {cA : ClassId} {vs : List Value} (F : Ar Z h a ty cA vs) (e : b = h.size) : a ≠ b := fun q => Nat.ne_of_lt F.lt (q.trans e)
theorem Ins.ofExa {a : Addr} {C : String} (E : Exa Z h a C) : Ins Z h a C true := Ins.self E
end More
section Addrs
variable {h : Heap} {x b o : Addr} {n0 : Nat}
theorem new_ne (l : x < h.size) (e : b = h.size) : x ≠ b := fun q => Nat.ne_of_lt l (q.trans e)
theorem new_le (l : n0 ≤ h.size) (e : b = h.size) : n0 ≤ b := Nat.le_trans l (Nat.le_of_eq e.symm)
theorem le_size (l : o < h.size) (n : n0 ≤ o) : n0 ≤ h.size := Nat.le_trans n (Nat.le_of_lt l)
end Addrs
section Nums
theorem idiv_nat {x y : Int32} {d : Nat} (h0 : ¬ x < 0) (hy : y.toInt = d) (hd : 1 < d) : ¬ (x / y) < 0 ∧ (x / y).toNatClampNeg = x.toNatClampNeg / d := by
  have z : (0 : Int32).toInt = 0 := rfl
  have z1 : (-1 : Int32).toInt = -1 := rfl
  have p : 0 ≤ x.toInt := by rw [Int32.lt_iff_toInt_lt] at h0; omega
  have ny : y ≠ -1 := by
    intro q
    rw [q, z1] at hy
    omega
  have e := (c_idiv x y d hy ny).1 p
  have p' : 0 ≤ x.toInt / (d : Int) := Int.ediv_nonneg p (by omega)
  refine ⟨by rw [Int32.lt_iff_toInt_lt]; omega, ?_⟩
  show (x / y).toInt.toNat = x.toInt.toNat / d
  rw [e]
  obtain ⟨m, hm⟩ := Int.eq_ofNat_of_zero_le p
  rw [hm]; rfl
theorem irem_nat {x y : Int32} {d : Nat} (h0 : ¬ x < 0) (hy : y.toInt = d) (hd : 1 < d) : ¬ (x % y) < 0 ∧ (x % y).toNatClampNeg = x.toNatClampNeg % d := by
  have z : (0 : Int32).toInt = 0 := rfl
  have p : 0 ≤ x.toInt := by rw [Int32.lt_iff_toInt_lt] at h0; omega
  have e := (c_irem x y d hy).1 p
  have p' : 0 ≤ x.toInt % (d : Int) := Int.emod_nonneg _ (by omega)
  refine ⟨by rw [Int32.lt_iff_toInt_lt]; omega, ?_⟩
  show (x % y).toInt.toNat = x.toInt.toNat % d
  rw [e]
  obtain ⟨m, hm⟩ := Int.eq_ofNat_of_zero_le p
  rw [hm]; rfl
theorem nonneg_iff {x : Int32} : ¬ x < 0 ↔ 0 ≤ x.toInt := by
  rw [Int32.lt_iff_toInt_lt]; have : (0 : Int32).toInt = 0 := rfl; omega
end Nums
end Jvm.OwnKit
namespace Jvm.OwnKit
open Jvm Jvm.ClassFile Sem Op Lib Jvm.Free Jvm.Stand Jvm.LawKit Jvm.RoadKit
section Calls5
variable {l : Launch} {Z : State} {mn : MethodName} {code : ByteArray} {maxL : Nat} {ret : Option FieldType} {R : Room} {n0 : Nat} {Q : Option Value → Heap → Prop} {h : Heap} {k n pc q : Nat} {Ls Ls' : Array Slot} {st st' : List Value} {a0 : Array Value}
  {y' : MethodName} {code' : ByteArray} {maxL' : Nat} {ret' : Option FieldType} {R' : Room} {Q' : Option Value → Heap → Prop} {argsL rest : List Value} {Ls1 : Array Slot} {ps : List FieldType} {r : Option FieldType} {i wd : Nat}

theorem Go.callU {z : MethodName} {C owner : String} {a : Addr} (hd : decode code pc = .ok (.invokevirtual i, 3)) (hq : q = pc + 3) (w1 : (Jvm.Cond.methodLink mn.cls i y').before a0 Z = true) (ws : (Jvm.Cond.sameMethod y'.cls owner y'.name y'.desc).before a0 Z = true) (w2 : (Jvm.Cond.declares ⟨owner, y'.name, y'.desc⟩).before a0 Z = true) (w3 : (Jvm.Cond.selects C y' z).before a0 Z = true) (w4 : (Jvm.Cond.instanceMethod z).before a0 Z = true) (w5 : (Jvm.Cond.code z code' maxL' ret').before a0 Z = true) (w6 : (Jvm.Cond.initialized z.cls).before a0 Z = true) (hy : owner ≠ "java/lang/invoke/MethodHandle" ∧ owner ≠ "java/lang/invoke/VarHandle") (pn : plainName z.cls = true) (pd : parseMethodDescriptor y'.desc = some ⟨ps, r⟩) (hl : argsL.length = ps.length) (hst : st = argsL.reverse ++ .ref a :: rest) (E : Exa Z h a C) (hef : ∀ m, entryFrame m (.ref a :: argsL).toArray maxL' = mkF m 0 Ls1 []) (hsz : Ls.size = maxL) (hR1 : R'.frames + 1 ≤ R.frames) (hW : (rest.map fun v => v.category).sum = wd) (hR2 : wd + (maxL' + 11) + R'.locals ≤ R.locals) (hc : k + R'.cells ≤ R.cells) (hs : n + R'.slots ≤ R.slots) (G : Go l Z z code' maxL' ret' R' n0 Q' h 0 0 0 Ls1 []) (K : ∀ v h', Q' v h' → Go l Z mn code maxL ret R n0 Q h' (k + R'.cells) (n + R'.slots) q Ls (v.toList ++ rest)) : Go l Z mn code maxL ret R n0 Q h k n pc Ls st := by
  subst hq hst hW
  intro p e s m args below meth c T locs k' n' Cc X hk hn N eT
  obtain ⟨cq, kq, qa, qb, qc⟩ := isOf Cc.2.1 eT E
  obtain ⟨v, vm1, ⟨T1, L1, k1, n1⟩, -, X1, ⟨Lc, hQ, e1, e2, e3⟩, f⟩ := X.virtualBackUp Cc.1 (x := y') (y := z) (owner := owner) Cc.2.2.2.2.1 (mvT Cc.2.1 w1) (mvT Cc.2.1 ws) (mvT Cc.2.1 w2) hy (mvT Cc.2.1 w3) (mvT Cc.2.1 w4) (backOf (W := (rest.map fun v => v.category).sum) (Q := fun v h L => Fr n0 L ∧ Q' v h) (G.met pn hef []) Cc.2.1 w5 w6 hR1 hR2) qa qc (g := mkF m pc Ls (argsL.reverse ++ .ref a :: rest)) rfl (by rw [Cc.2.2.2.1]; exact hsz) (Steps.refl _) (argsL := argsL) (rest := rest) (lenOf pd hl) rfl (by simp) (hb Cc.2.2.1 hd) (fun _ _ => ⟨rfl, eT, by show k' + _ ≤ _; omega, by show n' + _ ≤ _; omega⟩)
  dsimp only [Pt.U, Pt.locs, Pt.cells, Pt.slots] at X1 e1 e2 e3 f hQ
  subst e1 e2 e3
  exact (K v T1.heap hQ.2 p e s m args below meth c T1 _ _ _ Cc X1 (by omega) (by omega) (Fr.app N hQ.1) rfl).step fun t r => f.trans r
theorem Go.callP {a : Addr} {C C2 : String} {y2 z2 : MethodName} (hd : decode code pc = .ok (.invokevirtual i, 3)) (hq : q = pc + 3) (w1 : (Jvm.Cond.methodLink mn.cls i y').before a0 Z = true) (w2 : (Jvm.Cond.privateMethod y').before a0 Z = true) (w3 : (Jvm.Cond.selects C2 y2 z2).before a0 Z = true) (hz2 : z2.cls = y'.cls) (w4 : (Jvm.Cond.instanceMethod y').before a0 Z = true) (w5 : (Jvm.Cond.code y' code' maxL' ret').before a0 Z = true) (w6 : (Jvm.Cond.initialized y'.cls).before a0 Z = true) (hy : y'.cls ≠ "java/lang/invoke/MethodHandle" ∧ y'.cls ≠ "java/lang/invoke/VarHandle") (pn : plainName y'.cls = true) (pd : parseMethodDescriptor y'.desc = some ⟨ps, r⟩) (hl : argsL.length = ps.length) (hst : st = argsL.reverse ++ .ref a :: rest) (E : Exa Z h a C) (hef : ∀ m, entryFrame m (.ref a :: argsL).toArray maxL' = mkF m 0 Ls1 []) (hsz : Ls.size = maxL) (hR1 : R'.frames + 1 ≤ R.frames) (hW : (rest.map fun v => v.category).sum = wd) (hR2 : wd + (maxL' + 11) + R'.locals ≤ R.locals) (hc : k + R'.cells ≤ R.cells) (hs : n + R'.slots ≤ R.slots) (G : Go l Z y' code' maxL' ret' R' n0 Q' h 0 0 0 Ls1 []) (K : ∀ v h', Q' v h' → Go l Z mn code maxL ret R n0 Q h' (k + R'.cells) (n + R'.slots) q Ls (v.toList ++ rest)) : Go l Z mn code maxL ret R n0 Q h k n pc Ls st := by
  subst hq hst hW
  intro p e s m args below meth c T locs k' n' Cc X hk hn N eT
  obtain ⟨cq, qa, qb⟩ := E.cell
  have hpr : s.PrivateAt y' := Jvm.Cond.privateMethod_at (mvP Cc.2.1 w2 (args := #[]))
  have hse : (Jvm.Cond.selects y'.cls y' y').before args s = true := by
    obtain ⟨c2, r2, m2, -, -, q3, -, kk, q5, q6⟩ := Jvm.Cond.selects_spec (mvT (args := args) Cc.2.1 w3)
    exact Jvm.Stand.selects_self_of_private (hz2 ▸ findClass_of_methodNamed q3) q5 q6 hpr (mvT Cc.2.1 w4) hy
  obtain ⟨v, vm1, ⟨T1, L1, k1, n1⟩, -, X1, ⟨Lc, hQ, e1, e2, e3⟩, f⟩ := X.privateBack Cc.1 (y := y') Cc.2.2.2.2.1 (mvT Cc.2.1 w1) (mvT Cc.2.1 w4) hse hpr (mvT Cc.2.1 w5) hy (backOf (W := (rest.map fun v => v.category).sum) (Q := fun v h L => Fr n0 L ∧ Q' v h) (G.met pn hef []) Cc.2.1 w5 w6 hR1 hR2) (g := mkF m pc Ls (argsL.reverse ++ .ref a :: rest)) rfl (by rw [Cc.2.2.2.1]; exact hsz) (Steps.refl _) (a := a) (by rw [eT]; exact qa) qb (argsL := argsL) (rest := rest) (lenOf pd hl) rfl (by simp) (hb Cc.2.2.1 hd) (fun _ _ => ⟨rfl, eT, by show k' + _ ≤ _; omega, by show n' + _ ≤ _; omega⟩)
  dsimp only [Pt.U, Pt.locs, Pt.cells, Pt.slots] at X1 e1 e2 e3 f hQ
  subst e1 e2 e3
  exact (K v T1.heap hQ.2 p e s m args below meth c T1 _ _ _ Cc X1 (by omega) (by omega) (Fr.app N hQ.1) rfl).step fun t r => f.trans r
theorem Go.callUV {P : Value → Heap → Prop} {z : MethodName} {C owner : String} {a : Addr} (hd : decode code pc = .ok (.invokevirtual i, 3)) (hq : q = pc + 3) (w1 : (Jvm.Cond.methodLink mn.cls i y').before a0 Z = true) (ws : (Jvm.Cond.sameMethod y'.cls owner y'.name y'.desc).before a0 Z = true) (w2 : (Jvm.Cond.declares ⟨owner, y'.name, y'.desc⟩).before a0 Z = true) (w3 : (Jvm.Cond.selects C y' z).before a0 Z = true) (w4 : (Jvm.Cond.instanceMethod z).before a0 Z = true) (w5 : (Jvm.Cond.code z code' maxL' ret').before a0 Z = true) (w6 : (Jvm.Cond.initialized z.cls).before a0 Z = true) (hy : owner ≠ "java/lang/invoke/MethodHandle" ∧ owner ≠ "java/lang/invoke/VarHandle") (pn : plainName z.cls = true) (pd : parseMethodDescriptor y'.desc = some ⟨ps, r⟩) (hl : argsL.length = ps.length) (hst : st = argsL.reverse ++ .ref a :: rest) (E : Exa Z h a C) (hef : ∀ m, entryFrame m (.ref a :: argsL).toArray maxL' = mkF m 0 Ls1 []) (hsz : Ls.size = maxL) (hR1 : R'.frames + 1 ≤ R.frames) (hW : (rest.map fun v => v.category).sum = wd) (hR2 : wd + (maxL' + 11) + R'.locals ≤ R.locals) (hc : k + R'.cells ≤ R.cells) (hs : n + R'.slots ≤ R.slots) (G : Go l Z z code' maxL' ret' R' n0 (RV P) h 0 0 0 Ls1 []) (K : ∀ w h', P w h' → Go l Z mn code maxL ret R n0 Q h' (k + R'.cells) (n + R'.slots) q Ls (w :: rest)) : Go l Z mn code maxL ret R n0 Q h k n pc Ls st :=
  Go.callU hd hq w1 ws w2 w3 w4 w5 w6 hy pn pd hl hst E hef hsz hR1 hW hR2 hc hs G fun v h' ⟨w, e, q⟩ => by subst e; exact K w h' q
theorem Go.callUN {P : Heap → Prop} {z : MethodName} {C owner : String} {a : Addr} (hd : decode code pc = .ok (.invokevirtual i, 3)) (hq : q = pc + 3) (w1 : (Jvm.Cond.methodLink mn.cls i y').before a0 Z = true) (ws : (Jvm.Cond.sameMethod y'.cls owner y'.name y'.desc).before a0 Z = true) (w2 : (Jvm.Cond.declares ⟨owner, y'.name, y'.desc⟩).before a0 Z = true) (w3 : (Jvm.Cond.selects C y' z).before a0 Z = true) (w4 : (Jvm.Cond.instanceMethod z).before a0 Z = true) (w5 : (Jvm.Cond.code z code' maxL' ret').before a0 Z = true) (w6 : (Jvm.Cond.initialized z.cls).before a0 Z = true) (hy : owner ≠ "java/lang/invoke/MethodHandle" ∧ owner ≠ "java/lang/invoke/VarHandle") (pn : plainName z.cls = true) (pd : parseMethodDescriptor y'.desc = some ⟨ps, r⟩) (hl : argsL.length = ps.length) (hst : st = argsL.reverse ++ .ref a :: rest) (E : Exa Z h a C) (hef : ∀ m, entryFrame m (.ref a :: argsL).toArray maxL' = mkF m 0 Ls1 []) (hsz : Ls.size = maxL) (hR1 : R'.frames + 1 ≤ R.frames) (hW : (rest.map fun v => v.category).sum = wd) (hR2 : wd + (maxL' + 11) + R'.locals ≤ R.locals) (hc : k + R'.cells ≤ R.cells) (hs : n + R'.slots ≤ R.slots) (G : Go l Z z code' maxL' ret' R' n0 (RN P) h 0 0 0 Ls1 []) (K : ∀ h', P h' → Go l Z mn code maxL ret R n0 Q h' (k + R'.cells) (n + R'.slots) q Ls rest) : Go l Z mn code maxL ret R n0 Q h k n pc Ls st :=
  Go.callU hd hq w1 ws w2 w3 w4 w5 w6 hy pn pd hl hst E hef hsz hR1 hW hR2 hc hs G fun v h' ⟨e, q⟩ => by subst e; exact K h' q
theorem Go.callPV {P : Value → Heap → Prop} {a : Addr} {C C2 : String} {y2 z2 : MethodName} (hd : decode code pc = .ok (.invokevirtual i, 3)) (hq : q = pc + 3) (w1 : (Jvm.Cond.methodLink mn.cls i y').before a0 Z = true) (w2 : (Jvm.Cond.privateMethod y').before a0 Z = true) (w3 : (Jvm.Cond.selects C2 y2 z2).before a0 Z = true) (hz2 : z2.cls = y'.cls) (w4 : (Jvm.Cond.instanceMethod y').before a0 Z = true) (w5 : (Jvm.Cond.code y' code' maxL' ret').before a0 Z = true) (w6 : (Jvm.Cond.initialized y'.cls).before a0 Z = true) (hy : y'.cls ≠ "java/lang/invoke/MethodHandle" ∧ y'.cls ≠ "java/lang/invoke/VarHandle") (pn : plainName y'.cls = true) (pd : parseMethodDescriptor y'.desc = some ⟨ps, r⟩) (hl : argsL.length = ps.length) (hst : st = argsL.reverse ++ .ref a :: rest) (E : Exa Z h a C) (hef : ∀ m, entryFrame m (.ref a :: argsL).toArray maxL' = mkF m 0 Ls1 []) (hsz : Ls.size = maxL) (hR1 : R'.frames + 1 ≤ R.frames) (hW : (rest.map fun v => v.category).sum = wd) (hR2 : wd + (maxL' + 11) + R'.locals ≤ R.locals) (hc : k + R'.cells ≤ R.cells) (hs : n + R'.slots ≤ R.slots) (G : Go l Z y' code' maxL' ret' R' n0 (RV P) h 0 0 0 Ls1 []) (K : ∀ w h', P w h' → Go l Z mn code maxL ret R n0 Q h' (k + R'.cells) (n + R'.slots) q Ls (w :: rest)) : Go l Z mn code maxL ret R n0 Q h k n pc Ls st :=
  Go.callP hd hq w1 w2 w3 hz2 w4 w5 w6 hy pn pd hl hst E hef hsz hR1 hW hR2 hc hs G fun v h' ⟨w, e, q⟩ => by subst e; exact K w h' q
theorem Go.callPN {P : Heap → Prop} {a : Addr} {C C2 : String} {y2 z2 : MethodName} (hd : decode code pc = .ok (.invokevirtual i, 3)) (hq : q = pc + 3) (w1 : (Jvm.Cond.methodLink mn.cls i y').before a0 Z = true) (w2 : (Jvm.Cond.privateMethod y').before a0 Z = true) (w3 : (Jvm.Cond.selects C2 y2 z2).before a0 Z = true) (hz2 : z2.cls = y'.cls) (w4 : (Jvm.Cond.instanceMethod y').before a0 Z = true) (w5 : (Jvm.Cond.code y' code' maxL' ret').before a0 Z = true) (w6 : (Jvm.Cond.initialized y'.cls).before a0 Z = true) (hy : y'.cls ≠ "java/lang/invoke/MethodHandle" ∧ y'.cls ≠ "java/lang/invoke/VarHandle") (pn : plainName y'.cls = true) (pd : parseMethodDescriptor y'.desc = some ⟨ps, r⟩) (hl : argsL.length = ps.length) (hst : st = argsL.reverse ++ .ref a :: rest) (E : Exa Z h a C) (hef : ∀ m, entryFrame m (.ref a :: argsL).toArray maxL' = mkF m 0 Ls1 []) (hsz : Ls.size = maxL) (hR1 : R'.frames + 1 ≤ R.frames) (hW : (rest.map fun v => v.category).sum = wd) (hR2 : wd + (maxL' + 11) + R'.locals ≤ R.locals) (hc : k + R'.cells ≤ R.cells) (hs : n + R'.slots ≤ R.slots) (G : Go l Z y' code' maxL' ret' R' n0 (RN P) h 0 0 0 Ls1 []) (K : ∀ h', P h' → Go l Z mn code maxL ret R n0 Q h' (k + R'.cells) (n + R'.slots) q Ls rest) : Go l Z mn code maxL ret R n0 Q h k n pc Ls st :=
  Go.callP hd hq w1 w2 w3 hz2 w4 w5 w6 hy pn pd hl hst E hef hsz hR1 hW hR2 hc hs G fun v h' ⟨e, q⟩ => by subst e; exact K h' q
/-- an array whose elements are of its type -/
def ArF (Z : State) (h : Heap) (a : Addr) (ty : FieldType) (cA : ClassId) (vs : List Value) : Prop := ∃ c : Cell, Arr Z h a c ty ∧ c.cls = cA ∧ c.slots.toList = vs ∧ FitC Z c
theorem ArF.ext {a : Addr} {ty : FieldType} {cA : ClassId} {vs : List Value} {h' : Heap} (F : ArF Z h a ty cA vs) (E : Ext h h') : ArF Z h' a ty cA vs := by obtain ⟨c, A, r⟩ := F; exact ⟨c, A.ext E, r⟩
theorem ArF.start {s : State} {a : Addr} {ty : FieldType} {cA : ClassId} {vs : List Value} (hf : Fit s) (A : Ar s s.heap a ty cA vs) : ArF s s.heap a ty cA vs := by
  obtain ⟨c, A, r1, r2⟩ := A; exact ⟨c, A, r1, r2, FitC.start hf A⟩
theorem Go.clone {ad : String} {a : Addr} {ty : FieldType} {cA : ClassId} {vs : List Value} {cap : Nat} (hd : decode code pc = .ok (.invokevirtual i, 3)) (hq : q = pc + 3) (w1 : (Jvm.Cond.methodLink mn.cls i ⟨ad, "clone", "()Ljava/lang/Object;"⟩).before a0 Z = true) (w2 : (Jvm.Cond.sameMethod ad "java/lang/Object" "clone" "()Ljava/lang/Object;").before a0 Z = true) (w3 : (Jvm.Cond.native ⟨"java/lang/Object", "clone", "()Ljava/lang/Object;"⟩).before a0 Z = true)
    (w4 : (Jvm.Cond.instanceMethod ⟨"java/lang/Object", "clone", "()Ljava/lang/Object;"⟩).before a0 Z = true) (w5 : (Jvm.Cond.selects ad ⟨ad, "clone", "()Ljava/lang/Object;"⟩ ⟨"java/lang/Object", "clone", "()Ljava/lang/Object;"⟩).before a0 Z = true) (w6 : (Jvm.Cond.castable ad "java/lang/Cloneable").before a0 Z = true)
    (A : ArF Z h a ty cA vs) (E : Exa Z h a ad) (hsz : Ls.size = maxL) (hf : 1 ≤ R.frames) (hW : (st.map fun v => v.category).sum = wd) (hl : wd + 14 ≤ R.locals) (hcap : vs.length ≤ cap) (hc : k + 1 ≤ R.cells) (hs : n + cap ≤ R.slots)
    (K : ∀ h' b, b = h.size → Ext h h' → Ar Z h' b ty cA vs → Exa Z h' b ad → Go l Z mn code maxL ret R n0 Q h' (k + 1) (n + cap) q Ls (.ref b :: st)) : Go l Z mn code maxL ret R n0 Q h k n pc Ls (.ref a :: st) := by
  subst hq
  intro p e s m args below meth c T locs k' n' C X hk hn N eT
  obtain ⟨cl, A, r1, r2, r3⟩ := A
  obtain ⟨T', h', X', e', X2, A2, E2, f⟩ := cloneA X C.1 C.2.1 C.2.2.2.2.1 w1 w2 w3 w4 w5 w6 eT A E r3 (g := mkF m pc Ls (.ref a :: st)) rfl (by rw [C.2.2.2.1]; exact hsz) rfl (hb C.2.2.1 hd) hf (W := wd) (cap := cap) (by simp [hW]) hl (by rw [← r2] at hcap; simpa using hcap) (by omega) (by omega)
  exact (K h' h.size rfl X2 ⟨_, A2, r1, r2⟩ E2 p e s m args below meth c T' locs _ _ C X' (by omega) (by omega) N e').step f
end Calls5
end Jvm.OwnKit
namespace Jvm.Pilot.@@N@@
open Jvm Jvm.ClassFile Sem Op Lib Jvm.Free Jvm.Stand Jvm.LawKit Jvm.RoadKit Bundle Jvm.OwnKit Jvm.Pilot.@@N@@.Jvm.D
def Hw (a0 : Array Value) (Z : State) : Prop := ∀ d ∈ tables_1, d.before a0 Z = true
theorem w0 {a0 : Array Value} {Z : State} (hw : Hw a0 Z) : ((Jvm.Cond.constant "com/example/spanforge/spanforge/plan/ItemCountsHandOnPinLaw" (37 : Nat) (2147483647 : Int32)) : Jvm.Cond).before a0 Z = true := hw _ (List.mem_of_getElem? (i := 0) rfl)
theorem w1 {a0 : Array Value} {Z : State} (hw : Hw a0 Z) : ((Jvm.Cond.classLink "com/example/spanforge/spanforge/plan/ItemCountsHandOnPinLaw" (32 : Nat) "com/example/spanforge/spanforge/plan/ItemCounts") : Jvm.Cond).before a0 Z = true := hw _ (List.mem_of_getElem? (i := 1) rfl)
theorem w2 {a0 : Array Value} {Z : State} (hw : Hw a0 Z) : ((Jvm.Cond.instantiable "com/example/spanforge/spanforge/plan/ItemCounts" (1 : Nat)) : Jvm.Cond).before a0 Z = true := hw _ (List.mem_of_getElem? (i := 2) rfl)
theorem w3 {a0 : Array Value} {Z : State} (hw : Hw a0 Z) : ((Jvm.Cond.initialized "com/example/spanforge/spanforge/plan/ItemCounts") : Jvm.Cond).before a0 Z = true := hw _ (List.mem_of_getElem? (i := 3) rfl)
theorem w4 {a0 : Array Value} {Z : State} (hw : Hw a0 Z) : ((Jvm.Cond.methodLink "com/example/spanforge/spanforge/plan/ItemCountsHandOnPinLaw" (38 : Nat) ({ cls := "com/example/spanforge/spanforge/plan/ItemCounts", name := "<init>", desc := "()V" } : Jvm.MethodName)) : Jvm.Cond).before a0 Z = true := hw _ (List.mem_of_getElem? (i := 4) rfl)
theorem w5 {a0 : Array Value} {Z : State} (hw : Hw a0 Z) : ((Jvm.Cond.instanceMethod ({ cls := "com/example/spanforge/spanforge/plan/ItemCounts", name := "<init>", desc := "()V" } : Jvm.MethodName)) : Jvm.Cond).before a0 Z = true := hw _ (List.mem_of_getElem? (i := 5) rfl)
theorem w6 {a0 : Array Value} {Z : State} (hw : Hw a0 Z) : ((Jvm.Cond.code ({ cls := "com/example/spanforge/spanforge/plan/ItemCounts", name := "<init>", desc := "()V" } : Jvm.MethodName) prog_8_method_1_code (1 : Nat) (Option.none : Option Jvm.ClassFile.FieldType)) : Jvm.Cond).before a0 Z = true := hw _ (List.mem_of_getElem? (i := 6) rfl)
theorem w7 {a0 : Array Value} {Z : State} (hw : Hw a0 Z) : ((Jvm.Cond.methodLink "com/example/spanforge/spanforge/plan/ItemCounts" (1 : Nat) ({ cls := "java/lang/Object", name := "<init>", desc := "()V" } : Jvm.MethodName)) : Jvm.Cond).before a0 Z = true := hw _ (List.mem_of_getElem? (i := 7) rfl)
theorem w8 {a0 : Array Value} {Z : State} (hw : Hw a0 Z) : ((Jvm.Cond.instanceMethod ({ cls := "java/lang/Object", name := "<init>", desc := "()V" } : Jvm.MethodName)) : Jvm.Cond).before a0 Z = true := hw _ (List.mem_of_getElem? (i := 8) rfl)
theorem w9 {a0 : Array Value} {Z : State} (hw : Hw a0 Z) : ((Jvm.Cond.code ({ cls := "java/lang/Object", name := "<init>", desc := "()V" } : Jvm.MethodName) object_method_1_code (1 : Nat) (Option.none : Option Jvm.ClassFile.FieldType)) : Jvm.Cond).before a0 Z = true := hw _ (List.mem_of_getElem? (i := 9) rfl)
theorem w10 {a0 : Array Value} {Z : State} (hw : Hw a0 Z) : ((Jvm.Cond.methodLink "com/example/spanforge/spanforge/plan/ItemCounts" (7 : Nat) ({ cls := "com/example/spanforge/spanforge/plan/Operator", name := "values", desc := "()[Lcom/example/spanforge/spanforge/plan/Operator;" } : Jvm.MethodName)) : Jvm.Cond).before a0 Z = true := hw _ (List.mem_of_getElem? (i := 10) rfl)
theorem w11 {a0 : Array Value} {Z : State} (hw : Hw a0 Z) : ((Jvm.Cond.static ({ cls := "com/example/spanforge/spanforge/plan/Operator", name := "values", desc := "()[Lcom/example/spanforge/spanforge/plan/Operator;" } : Jvm.MethodName)) : Jvm.Cond).before a0 Z = true := hw _ (List.mem_of_getElem? (i := 11) rfl)
theorem w12 {a0 : Array Value} {Z : State} (hw : Hw a0 Z) : ((Jvm.Cond.initialized "com/example/spanforge/spanforge/plan/Operator") : Jvm.Cond).before a0 Z = true := hw _ (List.mem_of_getElem? (i := 12) rfl)
theorem w13 {a0 : Array Value} {Z : State} (hw : Hw a0 Z) : ((Jvm.Cond.code ({ cls := "com/example/spanforge/spanforge/plan/Operator", name := "values", desc := "()[Lcom/example/spanforge/spanforge/plan/Operator;" } : Jvm.MethodName) prog_10_method_1_code (0 : Nat) (Option.some (Jvm.ClassFile.FieldType.array (Jvm.ClassFile.FieldType.object "com/example/spanforge/spanforge/plan/Operator")))) : Jvm.Cond).before a0 Z = true := hw _ (List.mem_of_getElem? (i := 13) rfl)
theorem w14 {a0 : Array Value} {Z : State} (hw : Hw a0 Z) : ((Jvm.Cond.fieldLink "com/example/spanforge/spanforge/plan/Operator" (19 : Nat) "com/example/spanforge/spanforge/plan/Operator" "$VALUES" "[Lcom/example/spanforge/spanforge/plan/Operator;") : Jvm.Cond).before a0 Z = true := hw _ (List.mem_of_getElem? (i := 14) rfl)
theorem w15 {a0 : Array Value} {Z : State} (hw : Hw a0 Z) : ((Jvm.Cond.laysStatic "com/example/spanforge/spanforge/plan/Operator" "$VALUES" "[Lcom/example/spanforge/spanforge/plan/Operator;") : Jvm.Cond).before a0 Z = true := hw _ (List.mem_of_getElem? (i := 15) rfl)
theorem w16 {a0 : Array Value} {Z : State} (hw : Hw a0 Z) : ((Jvm.Cond.methodLink "com/example/spanforge/spanforge/plan/Operator" (23 : Nat) ({ cls := "[Lcom/example/spanforge/spanforge/plan/Operator;", name := "clone", desc := "()Ljava/lang/Object;" } : Jvm.MethodName)) : Jvm.Cond).before a0 Z = true := hw _ (List.mem_of_getElem? (i := 16) rfl)
theorem w17 {a0 : Array Value} {Z : State} (hw : Hw a0 Z) : ((Jvm.Cond.sameMethod "[Lcom/example/spanforge/spanforge/plan/Operator;" "java/lang/Object" "clone" "()Ljava/lang/Object;") : Jvm.Cond).before a0 Z = true := hw _ (List.mem_of_getElem? (i := 17) rfl)
theorem w19 {a0 : Array Value} {Z : State} (hw : Hw a0 Z) : ((Jvm.Cond.instanceMethod ({ cls := "java/lang/Object", name := "clone", desc := "()Ljava/lang/Object;" } : Jvm.MethodName)) : Jvm.Cond).before a0 Z = true := hw _ (List.mem_of_getElem? (i := 19) rfl)
theorem w20 {a0 : Array Value} {Z : State} (hw : Hw a0 Z) : ((Jvm.Cond.selects "[Lcom/example/spanforge/spanforge/plan/Operator;" ({ cls := "[Lcom/example/spanforge/spanforge/plan/Operator;", name := "clone", desc := "()Ljava/lang/Object;" } : Jvm.MethodName) ({ cls := "java/lang/Object", name := "clone", desc := "()Ljava/lang/Object;" } : Jvm.MethodName)) : Jvm.Cond).before a0 Z = true := hw _ (List.mem_of_getElem? (i := 20) rfl)
theorem w21 {a0 : Array Value} {Z : State} (hw : Hw a0 Z) : ((Jvm.Cond.native ({ cls := "java/lang/Object", name := "clone", desc := "()Ljava/lang/Object;" } : Jvm.MethodName)) : Jvm.Cond).before a0 Z = true := hw _ (List.mem_of_getElem? (i := 21) rfl)
theorem w22 {a0 : Array Value} {Z : State} (hw : Hw a0 Z) : ((Jvm.Cond.castable "[Lcom/example/spanforge/spanforge/plan/Operator;" "java/lang/Cloneable") : Jvm.Cond).before a0 Z = true := hw _ (List.mem_of_getElem? (i := 22) rfl)
theorem w23 {a0 : Array Value} {Z : State} (hw : Hw a0 Z) : ((Jvm.Cond.laysStatic "com/example/spanforge/spanforge/plan/Operator" "SCAN" "Lcom/example/spanforge/spanforge/plan/Operator;") : Jvm.Cond).before a0 Z = true := hw _ (List.mem_of_getElem? (i := 23) rfl)
theorem w24 {a0 : Array Value} {Z : State} (hw : Hw a0 Z) : ((Jvm.Cond.laysStatic "com/example/spanforge/spanforge/plan/Operator" "FETCH" "Lcom/example/spanforge/spanforge/plan/Operator;") : Jvm.Cond).before a0 Z = true := hw _ (List.mem_of_getElem? (i := 24) rfl)
theorem w25 {a0 : Array Value} {Z : State} (hw : Hw a0 Z) : ((Jvm.Cond.laysStatic "com/example/spanforge/spanforge/plan/Operator" "FILTER" "Lcom/example/spanforge/spanforge/plan/Operator;") : Jvm.Cond).before a0 Z = true := hw _ (List.mem_of_getElem? (i := 25) rfl)
theorem w26 {a0 : Array Value} {Z : State} (hw : Hw a0 Z) : ((Jvm.Cond.laysStatic "com/example/spanforge/spanforge/plan/Operator" "COUNT" "Lcom/example/spanforge/spanforge/plan/Operator;") : Jvm.Cond).before a0 Z = true := hw _ (List.mem_of_getElem? (i := 26) rfl)
theorem w27 {a0 : Array Value} {Z : State} (hw : Hw a0 Z) : ((Jvm.Cond.laysStatic "com/example/spanforge/spanforge/plan/Operator" "PROJECT" "Lcom/example/spanforge/spanforge/plan/Operator;") : Jvm.Cond).before a0 Z = true := hw _ (List.mem_of_getElem? (i := 27) rfl)
theorem w29 {a0 : Array Value} {Z : State} (hw : Hw a0 Z) : ((Jvm.Cond.classLink "com/example/spanforge/spanforge/plan/Operator" (24 : Nat) "[Lcom/example/spanforge/spanforge/plan/Operator;") : Jvm.Cond).before a0 Z = true := hw _ (List.mem_of_getElem? (i := 29) rfl)
theorem w31 {a0 : Array Value} {Z : State} (hw : Hw a0 Z) : ((Jvm.Cond.arrayClass Jvm.ClassFile.FieldType.long) : Jvm.Cond).before a0 Z = true := hw _ (List.mem_of_getElem? (i := 31) rfl)
theorem w32 {a0 : Array Value} {Z : State} (hw : Hw a0 Z) : ((Jvm.Cond.fieldLink "com/example/spanforge/spanforge/plan/ItemCounts" (13 : Nat) "com/example/spanforge/spanforge/plan/ItemCounts" "handedOn" "[J") : Jvm.Cond).before a0 Z = true := hw _ (List.mem_of_getElem? (i := 32) rfl)
theorem w33 {a0 : Array Value} {Z : State} (hw : Hw a0 Z) : ((Jvm.Cond.laysFinal "com/example/spanforge/spanforge/plan/ItemCounts" "com/example/spanforge/spanforge/plan/ItemCounts" "handedOn" "[J") : Jvm.Cond).before a0 Z = true := hw _ (List.mem_of_getElem? (i := 33) rfl)
theorem w34 {a0 : Array Value} {Z : State} (hw : Hw a0 Z) : ((Jvm.Cond.methodLink "com/example/spanforge/spanforge/plan/ItemCountsHandOnPinLaw" (25 : Nat) ({ cls := "com/example/spanforge/spanforge/plan/ItemCountsHandOnPinLaw", name := "op", desc := "(I)Lcom/example/spanforge/spanforge/plan/Operator;" } : Jvm.MethodName)) : Jvm.Cond).before a0 Z = true := hw _ (List.mem_of_getElem? (i := 34) rfl)
theorem w35 {a0 : Array Value} {Z : State} (hw : Hw a0 Z) : ((Jvm.Cond.static ({ cls := "com/example/spanforge/spanforge/plan/ItemCountsHandOnPinLaw", name := "op", desc := "(I)Lcom/example/spanforge/spanforge/plan/Operator;" } : Jvm.MethodName)) : Jvm.Cond).before a0 Z = true := hw _ (List.mem_of_getElem? (i := 35) rfl)
theorem w36 {a0 : Array Value} {Z : State} (hw : Hw a0 Z) : ((Jvm.Cond.initialized "com/example/spanforge/spanforge/plan/ItemCountsHandOnPinLaw") : Jvm.Cond).before a0 Z = true := hw _ (List.mem_of_getElem? (i := 36) rfl)
theorem w37 {a0 : Array Value} {Z : State} (hw : Hw a0 Z) : ((Jvm.Cond.code ({ cls := "com/example/spanforge/spanforge/plan/ItemCountsHandOnPinLaw", name := "op", desc := "(I)Lcom/example/spanforge/spanforge/plan/Operator;" } : Jvm.MethodName) method_2_code (1 : Nat) (Option.some (Jvm.ClassFile.FieldType.object "com/example/spanforge/spanforge/plan/Operator"))) : Jvm.Cond).before a0 Z = true := hw _ (List.mem_of_getElem? (i := 37) rfl)
theorem w38 {a0 : Array Value} {Z : State} (hw : Hw a0 Z) : ((Jvm.Cond.fieldLink "com/example/spanforge/spanforge/plan/ItemCountsHandOnPinLaw" (7 : Nat) "com/example/spanforge/spanforge/plan/Operator" "SCAN" "Lcom/example/spanforge/spanforge/plan/Operator;") : Jvm.Cond).before a0 Z = true := hw _ (List.mem_of_getElem? (i := 38) rfl)
theorem w39 {a0 : Array Value} {Z : State} (hw : Hw a0 Z) : ((Jvm.Cond.methodLink "com/example/spanforge/spanforge/plan/ItemCountsHandOnPinLaw" (39 : Nat) ({ cls := "com/example/spanforge/spanforge/plan/ItemCounts", name := "handOn", desc := "(Lcom/example/spanforge/spanforge/plan/Operator;J)V" } : Jvm.MethodName)) : Jvm.Cond).before a0 Z = true := hw _ (List.mem_of_getElem? (i := 39) rfl)
theorem w40 {a0 : Array Value} {Z : State} (hw : Hw a0 Z) : ((Jvm.Cond.declares ({ cls := "com/example/spanforge/spanforge/plan/ItemCounts", name := "handOn", desc := "(Lcom/example/spanforge/spanforge/plan/Operator;J)V" } : Jvm.MethodName)) : Jvm.Cond).before a0 Z = true := hw _ (List.mem_of_getElem? (i := 40) rfl)
theorem w41 {a0 : Array Value} {Z : State} (hw : Hw a0 Z) : ((Jvm.Cond.instanceMethod ({ cls := "com/example/spanforge/spanforge/plan/ItemCounts", name := "handOn", desc := "(Lcom/example/spanforge/spanforge/plan/Operator;J)V" } : Jvm.MethodName)) : Jvm.Cond).before a0 Z = true := hw _ (List.mem_of_getElem? (i := 41) rfl)
theorem w42 {a0 : Array Value} {Z : State} (hw : Hw a0 Z) : ((Jvm.Cond.selects "com/example/spanforge/spanforge/plan/ItemCounts" ({ cls := "com/example/spanforge/spanforge/plan/ItemCounts", name := "handOn", desc := "(Lcom/example/spanforge/spanforge/plan/Operator;J)V" } : Jvm.MethodName) ({ cls := "com/example/spanforge/spanforge/plan/ItemCounts", name := "handOn", desc := "(Lcom/example/spanforge/spanforge/plan/Operator;J)V" } : Jvm.MethodName)) : Jvm.Cond).before a0 Z = true := hw _ (List.mem_of_getElem? (i := 42) rfl)
theorem w43 {a0 : Array Value} {Z : State} (hw : Hw a0 Z) : ((Jvm.Cond.code ({ cls := "com/example/spanforge/spanforge/plan/ItemCounts", name := "handOn", desc := "(Lcom/example/spanforge/spanforge/plan/Operator;J)V" } : Jvm.MethodName) prog_8_method_3_code (4 : Nat) (Option.none : Option Jvm.ClassFile.FieldType)) : Jvm.Cond).before a0 Z = true := hw _ (List.mem_of_getElem? (i := 43) rfl)
theorem w44 {a0 : Array Value} {Z : State} (hw : Hw a0 Z) : ((Jvm.Cond.methodLink "com/example/spanforge/spanforge/plan/ItemCounts" (19 : Nat) ({ cls := "com/example/spanforge/spanforge/plan/Operator", name := "ordinal", desc := "()I" } : Jvm.MethodName)) : Jvm.Cond).before a0 Z = true := hw _ (List.mem_of_getElem? (i := 44) rfl)
theorem w45 {a0 : Array Value} {Z : State} (hw : Hw a0 Z) : ((Jvm.Cond.sameMethod "com/example/spanforge/spanforge/plan/Operator" "java/lang/Enum" "ordinal" "()I") : Jvm.Cond).before a0 Z = true := hw _ (List.mem_of_getElem? (i := 45) rfl)
theorem w46 {a0 : Array Value} {Z : State} (hw : Hw a0 Z) : ((Jvm.Cond.declares ({ cls := "java/lang/Enum", name := "ordinal", desc := "()I" } : Jvm.MethodName)) : Jvm.Cond).before a0 Z = true := hw _ (List.mem_of_getElem? (i := 46) rfl)
theorem w47 {a0 : Array Value} {Z : State} (hw : Hw a0 Z) : ((Jvm.Cond.instanceMethod ({ cls := "java/lang/Enum", name := "ordinal", desc := "()I" } : Jvm.MethodName)) : Jvm.Cond).before a0 Z = true := hw _ (List.mem_of_getElem? (i := 47) rfl)
theorem w48 {a0 : Array Value} {Z : State} (hw : Hw a0 Z) : ((Jvm.Cond.selects "com/example/spanforge/spanforge/plan/Operator" ({ cls := "com/example/spanforge/spanforge/plan/Operator", name := "ordinal", desc := "()I" } : Jvm.MethodName) ({ cls := "java/lang/Enum", name := "ordinal", desc := "()I" } : Jvm.MethodName)) : Jvm.Cond).before a0 Z = true := hw _ (List.mem_of_getElem? (i := 48) rfl)
theorem w49 {a0 : Array Value} {Z : State} (hw : Hw a0 Z) : ((Jvm.Cond.initialized "java/lang/Enum") : Jvm.Cond).before a0 Z = true := hw _ (List.mem_of_getElem? (i := 49) rfl)
theorem w50 {a0 : Array Value} {Z : State} (hw : Hw a0 Z) : ((Jvm.Cond.code ({ cls := "java/lang/Enum", name := "ordinal", desc := "()I" } : Jvm.MethodName) jdk_37_method_2_code (1 : Nat) (Option.some Jvm.ClassFile.FieldType.int)) : Jvm.Cond).before a0 Z = true := hw _ (List.mem_of_getElem? (i := 50) rfl)
theorem w51 {a0 : Array Value} {Z : State} (hw : Hw a0 Z) : ((Jvm.Cond.fieldLink "java/lang/Enum" (7 : Nat) "java/lang/Enum" "ordinal" "I") : Jvm.Cond).before a0 Z = true := hw _ (List.mem_of_getElem? (i := 51) rfl)
theorem w53 {a0 : Array Value} {Z : State} (hw : Hw a0 Z) : ((Jvm.Cond.fieldLink "com/example/spanforge/spanforge/plan/ItemCountsHandOnPinLaw" (13 : Nat) "com/example/spanforge/spanforge/plan/Operator" "FETCH" "Lcom/example/spanforge/spanforge/plan/Operator;") : Jvm.Cond).before a0 Z = true := hw _ (List.mem_of_getElem? (i := 53) rfl)
theorem w54 {a0 : Array Value} {Z : State} (hw : Hw a0 Z) : ((Jvm.Cond.methodLink "com/example/spanforge/spanforge/plan/ItemCountsHandOnPinLaw" (43 : Nat) ({ cls := "com/example/spanforge/spanforge/plan/ItemCounts", name := "handOn", desc := "(Lcom/example/spanforge/spanforge/plan/Operator;)V" } : Jvm.MethodName)) : Jvm.Cond).before a0 Z = true := hw _ (List.mem_of_getElem? (i := 54) rfl)
theorem w55 {a0 : Array Value} {Z : State} (hw : Hw a0 Z) : ((Jvm.Cond.declares ({ cls := "com/example/spanforge/spanforge/plan/ItemCounts", name := "handOn", desc := "(Lcom/example/spanforge/spanforge/plan/Operator;)V" } : Jvm.MethodName)) : Jvm.Cond).before a0 Z = true := hw _ (List.mem_of_getElem? (i := 55) rfl)
theorem w56 {a0 : Array Value} {Z : State} (hw : Hw a0 Z) : ((Jvm.Cond.instanceMethod ({ cls := "com/example/spanforge/spanforge/plan/ItemCounts", name := "handOn", desc := "(Lcom/example/spanforge/spanforge/plan/Operator;)V" } : Jvm.MethodName)) : Jvm.Cond).before a0 Z = true := hw _ (List.mem_of_getElem? (i := 56) rfl)
theorem w57 {a0 : Array Value} {Z : State} (hw : Hw a0 Z) : ((Jvm.Cond.selects "com/example/spanforge/spanforge/plan/ItemCounts" ({ cls := "com/example/spanforge/spanforge/plan/ItemCounts", name := "handOn", desc := "(Lcom/example/spanforge/spanforge/plan/Operator;)V" } : Jvm.MethodName) ({ cls := "com/example/spanforge/spanforge/plan/ItemCounts", name := "handOn", desc := "(Lcom/example/spanforge/spanforge/plan/Operator;)V" } : Jvm.MethodName)) : Jvm.Cond).before a0 Z = true := hw _ (List.mem_of_getElem? (i := 57) rfl)
theorem w58 {a0 : Array Value} {Z : State} (hw : Hw a0 Z) : ((Jvm.Cond.code ({ cls := "com/example/spanforge/spanforge/plan/ItemCounts", name := "handOn", desc := "(Lcom/example/spanforge/spanforge/plan/Operator;)V" } : Jvm.MethodName) prog_8_method_2_code (2 : Nat) (Option.none : Option Jvm.ClassFile.FieldType)) : Jvm.Cond).before a0 Z = true := hw _ (List.mem_of_getElem? (i := 58) rfl)
theorem w59 {a0 : Array Value} {Z : State} (hw : Hw a0 Z) : ((Jvm.Cond.methodLink "com/example/spanforge/spanforge/plan/ItemCountsHandOnPinLaw" (46 : Nat) ({ cls := "com/example/spanforge/spanforge/plan/ItemCountsHandOnPinLaw", name := "ok", desc := "(Lcom/example/spanforge/spanforge/plan/ItemCounts;IIJIIZZ)Z" } : Jvm.MethodName)) : Jvm.Cond).before a0 Z = true := hw _ (List.mem_of_getElem? (i := 59) rfl)
theorem w60 {a0 : Array Value} {Z : State} (hw : Hw a0 Z) : ((Jvm.Cond.static ({ cls := "com/example/spanforge/spanforge/plan/ItemCountsHandOnPinLaw", name := "ok", desc := "(Lcom/example/spanforge/spanforge/plan/ItemCounts;IIJIIZZ)Z" } : Jvm.MethodName)) : Jvm.Cond).before a0 Z = true := hw _ (List.mem_of_getElem? (i := 60) rfl)
theorem w61 {a0 : Array Value} {Z : State} (hw : Hw a0 Z) : ((Jvm.Cond.code ({ cls := "com/example/spanforge/spanforge/plan/ItemCountsHandOnPinLaw", name := "ok", desc := "(Lcom/example/spanforge/spanforge/plan/ItemCounts;IIJIIZZ)Z" } : Jvm.MethodName) method_3_code (11 : Nat) (Option.some Jvm.ClassFile.FieldType.boolean)) : Jvm.Cond).before a0 Z = true := hw _ (List.mem_of_getElem? (i := 61) rfl)
theorem w62 {a0 : Array Value} {Z : State} (hw : Hw a0 Z) : ((Jvm.Cond.methodLink "com/example/spanforge/spanforge/plan/ItemCountsHandOnPinLaw" (31 : Nat) ({ cls := "com/example/spanforge/spanforge/plan/ItemCounts", name := "handedOn", desc := "(Lcom/example/spanforge/spanforge/plan/Operator;)J" } : Jvm.MethodName)) : Jvm.Cond).before a0 Z = true := hw _ (List.mem_of_getElem? (i := 62) rfl)
theorem w63 {a0 : Array Value} {Z : State} (hw : Hw a0 Z) : ((Jvm.Cond.declares ({ cls := "com/example/spanforge/spanforge/plan/ItemCounts", name := "handedOn", desc := "(Lcom/example/spanforge/spanforge/plan/Operator;)J" } : Jvm.MethodName)) : Jvm.Cond).before a0 Z = true := hw _ (List.mem_of_getElem? (i := 63) rfl)
theorem w64 {a0 : Array Value} {Z : State} (hw : Hw a0 Z) : ((Jvm.Cond.instanceMethod ({ cls := "com/example/spanforge/spanforge/plan/ItemCounts", name := "handedOn", desc := "(Lcom/example/spanforge/spanforge/plan/Operator;)J" } : Jvm.MethodName)) : Jvm.Cond).before a0 Z = true := hw _ (List.mem_of_getElem? (i := 64) rfl)
theorem w65 {a0 : Array Value} {Z : State} (hw : Hw a0 Z) : ((Jvm.Cond.selects "com/example/spanforge/spanforge/plan/ItemCounts" ({ cls := "com/example/spanforge/spanforge/plan/ItemCounts", name := "handedOn", desc := "(Lcom/example/spanforge/spanforge/plan/Operator;)J" } : Jvm.MethodName) ({ cls := "com/example/spanforge/spanforge/plan/ItemCounts", name := "handedOn", desc := "(Lcom/example/spanforge/spanforge/plan/Operator;)J" } : Jvm.MethodName)) : Jvm.Cond).before a0 Z = true := hw _ (List.mem_of_getElem? (i := 65) rfl)
theorem w66 {a0 : Array Value} {Z : State} (hw : Hw a0 Z) : ((Jvm.Cond.code ({ cls := "com/example/spanforge/spanforge/plan/ItemCounts", name := "handedOn", desc := "(Lcom/example/spanforge/spanforge/plan/Operator;)J" } : Jvm.MethodName) prog_8_method_4_code (2 : Nat) (Option.some Jvm.ClassFile.FieldType.long)) : Jvm.Cond).before a0 Z = true := hw _ (List.mem_of_getElem? (i := 66) rfl)
theorem w67 {a0 : Array Value} {Z : State} (hw : Hw a0 Z) : ((Jvm.Cond.fieldLink "com/example/spanforge/spanforge/plan/ItemCountsHandOnPinLaw" (16 : Nat) "com/example/spanforge/spanforge/plan/Operator" "FILTER" "Lcom/example/spanforge/spanforge/plan/Operator;") : Jvm.Cond).before a0 Z = true := hw _ (List.mem_of_getElem? (i := 67) rfl)
theorem w68 {a0 : Array Value} {Z : State} (hw : Hw a0 Z) : ((Jvm.Cond.fieldLink "com/example/spanforge/spanforge/plan/ItemCountsHandOnPinLaw" (19 : Nat) "com/example/spanforge/spanforge/plan/Operator" "COUNT" "Lcom/example/spanforge/spanforge/plan/Operator;") : Jvm.Cond).before a0 Z = true := hw _ (List.mem_of_getElem? (i := 68) rfl)
theorem w69 {a0 : Array Value} {Z : State} (hw : Hw a0 Z) : ((Jvm.Cond.fieldLink "com/example/spanforge/spanforge/plan/ItemCountsHandOnPinLaw" (22 : Nat) "com/example/spanforge/spanforge/plan/Operator" "PROJECT" "Lcom/example/spanforge/spanforge/plan/Operator;") : Jvm.Cond).before a0 Z = true := hw _ (List.mem_of_getElem? (i := 69) rfl)
theorem pn0 : plainName "com/example/spanforge/spanforge/plan/ItemCountsHandOnPinLaw" = true := by first | (simp [plainName, overriddenIn]; done) | decide +kernel
theorem pd0 : parseMethodDescriptor "(IJIII)Z" = some ⟨[.int, .long, .int, .int, .int], some .boolean⟩ := by decide +kernel
theorem d1_0 : decode prog_8_method_1_code 0 = .ok (.aload_n 0, 1) := by decide +kernel
theorem d1_1 : decode prog_8_method_1_code 1 = .ok (.invokespecial 1, 3) := by decide +kernel
theorem d1_4 : decode prog_8_method_1_code 4 = .ok (.aload_n 0, 1) := by decide +kernel
theorem d1_5 : decode prog_8_method_1_code 5 = .ok (.invokestatic 7, 3) := by decide +kernel
theorem d1_8 : decode prog_8_method_1_code 8 = .ok (.arraylength, 1) := by decide +kernel
theorem d1_9 : decode prog_8_method_1_code 9 = .ok (.newarray .long, 2) := by decide +kernel
theorem d1_11 : decode prog_8_method_1_code 11 = .ok (.putfield 13, 3) := by decide +kernel
theorem d1_14 : decode prog_8_method_1_code 14 = .ok (.return_, 1) := by decide +kernel
theorem pn1 : plainName "com/example/spanforge/spanforge/plan/ItemCounts" = true := by first | (simp [plainName, overriddenIn]; done) | decide +kernel
theorem pd1 : parseMethodDescriptor "()V" = some ⟨[], none⟩ := by decide +kernel
theorem d3_0 : decode prog_10_method_1_code 0 = .ok (.getstatic 19, 3) := by decide +kernel
theorem d3_3 : decode prog_10_method_1_code 3 = .ok (.invokevirtual 23, 3) := by decide +kernel
theorem d3_6 : decode prog_10_method_1_code 6 = .ok (.checkcast 24, 3) := by decide +kernel
theorem d3_9 : decode prog_10_method_1_code 9 = .ok (.areturn, 1) := by decide +kernel
theorem pn3 : plainName "com/example/spanforge/spanforge/plan/Operator" = true := by first | (simp [plainName, overriddenIn]; done) | decide +kernel
theorem pd3 : parseMethodDescriptor "()[Lcom/example/spanforge/spanforge/plan/Operator;" = some ⟨[], (some (.array (.object "com/example/spanforge/spanforge/plan/Operator")))⟩ := by decide +kernel
theorem d4_0 : decode method_2_code 0 = .ok (.iload_n 0, 1) := by decide +kernel
theorem d4_1 : decode method_2_code 1 = .ok (.ifCond .ne 7, 3) := by decide +kernel
theorem d4_4 : decode method_2_code 4 = .ok (.getstatic 7, 3) := by decide +kernel
theorem d4_7 : decode method_2_code 7 = .ok (.areturn, 1) := by decide +kernel
theorem d4_8 : decode method_2_code 8 = .ok (.iload_n 0, 1) := by decide +kernel
theorem d4_9 : decode method_2_code 9 = .ok (.iconst 1, 1) := by decide +kernel
theorem d4_10 : decode method_2_code 10 = .ok (.if_icmp .ne 7, 3) := by decide +kernel
theorem d4_13 : decode method_2_code 13 = .ok (.getstatic 13, 3) := by decide +kernel
theorem d4_16 : decode method_2_code 16 = .ok (.areturn, 1) := by decide +kernel
theorem d4_17 : decode method_2_code 17 = .ok (.iload_n 0, 1) := by decide +kernel
theorem d4_18 : decode method_2_code 18 = .ok (.iconst 2, 1) := by decide +kernel
theorem d4_19 : decode method_2_code 19 = .ok (.if_icmp .ne 7, 3) := by decide +kernel
theorem d4_22 : decode method_2_code 22 = .ok (.getstatic 16, 3) := by decide +kernel
theorem d4_25 : decode method_2_code 25 = .ok (.areturn, 1) := by decide +kernel
theorem d4_26 : decode method_2_code 26 = .ok (.iload_n 0, 1) := by decide +kernel
theorem d4_27 : decode method_2_code 27 = .ok (.iconst 3, 1) := by decide +kernel
theorem d4_28 : decode method_2_code 28 = .ok (.if_icmp .ne 7, 3) := by decide +kernel
theorem d4_31 : decode method_2_code 31 = .ok (.getstatic 19, 3) := by decide +kernel
theorem d4_34 : decode method_2_code 34 = .ok (.areturn, 1) := by decide +kernel
theorem d4_35 : decode method_2_code 35 = .ok (.getstatic 22, 3) := by decide +kernel
theorem d4_38 : decode method_2_code 38 = .ok (.areturn, 1) := by decide +kernel
theorem pn4 : plainName "com/example/spanforge/spanforge/plan/ItemCountsHandOnPinLaw" = true := by first | (simp [plainName, overriddenIn]; done) | decide +kernel
theorem pd4 : parseMethodDescriptor "(I)Lcom/example/spanforge/spanforge/plan/Operator;" = some ⟨[.int], (some (.object "com/example/spanforge/spanforge/plan/Operator"))⟩ := by decide +kernel
theorem d5_0 : decode prog_8_method_3_code 0 = .ok (.aload_n 0, 1) := by decide +kernel
theorem d5_1 : decode prog_8_method_3_code 1 = .ok (.getfield 13, 3) := by decide +kernel
theorem d5_4 : decode prog_8_method_3_code 4 = .ok (.aload_n 1, 1) := by decide +kernel
theorem d5_5 : decode prog_8_method_3_code 5 = .ok (.invokevirtual 19, 3) := by decide +kernel
theorem d5_8 : decode prog_8_method_3_code 8 = .ok (.dup2, 1) := by decide +kernel
theorem d5_9 : decode prog_8_method_3_code 9 = .ok (.laload, 1) := by decide +kernel
theorem d5_10 : decode prog_8_method_3_code 10 = .ok (.lload_n 2, 1) := by decide +kernel
theorem d5_11 : decode prog_8_method_3_code 11 = .ok (.ladd, 1) := by decide +kernel
theorem d5_12 : decode prog_8_method_3_code 12 = .ok (.lastore, 1) := by decide +kernel
theorem d5_13 : decode prog_8_method_3_code 13 = .ok (.return_, 1) := by decide +kernel
theorem pn5 : plainName "com/example/spanforge/spanforge/plan/ItemCounts" = true := by first | (simp [plainName, overriddenIn]; done) | decide +kernel
theorem pd5 : parseMethodDescriptor "(Lcom/example/spanforge/spanforge/plan/Operator;J)V" = some ⟨[(.object "com/example/spanforge/spanforge/plan/Operator"), .long], none⟩ := by decide +kernel
theorem d6_0 : decode jdk_37_method_2_code 0 = .ok (.aload_n 0, 1) := by decide +kernel
theorem d6_1 : decode jdk_37_method_2_code 1 = .ok (.getfield 7, 3) := by decide +kernel
theorem d6_4 : decode jdk_37_method_2_code 4 = .ok (.ireturn, 1) := by decide +kernel
theorem pn6 : plainName "java/lang/Enum" = true := by first | (simp [plainName, overriddenIn]; done) | decide +kernel
theorem pd6 : parseMethodDescriptor "()I" = some ⟨[], (some .int)⟩ := by decide +kernel
theorem d7_0 : decode prog_8_method_2_code 0 = .ok (.aload_n 0, 1) := by decide +kernel
theorem d7_1 : decode prog_8_method_2_code 1 = .ok (.getfield 13, 3) := by decide +kernel
theorem d7_4 : decode prog_8_method_2_code 4 = .ok (.aload_n 1, 1) := by decide +kernel
theorem d7_5 : decode prog_8_method_2_code 5 = .ok (.invokevirtual 19, 3) := by decide +kernel
theorem d7_8 : decode prog_8_method_2_code 8 = .ok (.dup2, 1) := by decide +kernel
theorem d7_9 : decode prog_8_method_2_code 9 = .ok (.laload, 1) := by decide +kernel
theorem d7_10 : decode prog_8_method_2_code 10 = .ok (.lconst 1, 1) := by decide +kernel
theorem d7_11 : decode prog_8_method_2_code 11 = .ok (.ladd, 1) := by decide +kernel
theorem d7_12 : decode prog_8_method_2_code 12 = .ok (.lastore, 1) := by decide +kernel
theorem d7_13 : decode prog_8_method_2_code 13 = .ok (.return_, 1) := by decide +kernel
theorem pn7 : plainName "com/example/spanforge/spanforge/plan/ItemCounts" = true := by first | (simp [plainName, overriddenIn]; done) | decide +kernel
theorem pd7 : parseMethodDescriptor "(Lcom/example/spanforge/spanforge/plan/Operator;)V" = some ⟨[(.object "com/example/spanforge/spanforge/plan/Operator")], none⟩ := by decide +kernel
theorem d8_0 : decode method_3_code 0 = .ok (.lconst 0, 1) := by decide +kernel
theorem d8_1 : decode method_3_code 1 = .ok (.lstore 9, 2) := by decide +kernel
theorem d8_3 : decode method_3_code 3 = .ok (.iload 7, 2) := by decide +kernel
theorem d8_5 : decode method_3_code 5 = .ok (.ifCond .eq 11, 3) := by decide +kernel
theorem d8_8 : decode method_3_code 8 = .ok (.iload_n 1, 1) := by decide +kernel
theorem d8_9 : decode method_3_code 9 = .ok (.iload_n 2, 1) := by decide +kernel
theorem d8_10 : decode method_3_code 10 = .ok (.if_icmp .ne 6, 3) := by decide +kernel
theorem d8_13 : decode method_3_code 13 = .ok (.lload_n 3, 1) := by decide +kernel
theorem d8_14 : decode method_3_code 14 = .ok (.lstore 9, 2) := by decide +kernel
theorem d8_16 : decode method_3_code 16 = .ok (.iload_n 1, 1) := by decide +kernel
theorem d8_17 : decode method_3_code 17 = .ok (.iload 5, 2) := by decide +kernel
theorem d8_19 : decode method_3_code 19 = .ok (.if_icmp .ne 9, 3) := by decide +kernel
theorem d8_22 : decode method_3_code 22 = .ok (.lload 9, 2) := by decide +kernel
theorem d8_24 : decode method_3_code 24 = .ok (.lconst 1, 1) := by decide +kernel
theorem d8_25 : decode method_3_code 25 = .ok (.ladd, 1) := by decide +kernel
theorem d8_26 : decode method_3_code 26 = .ok (.lstore 9, 2) := by decide +kernel
theorem d8_28 : decode method_3_code 28 = .ok (.iload 8, 2) := by decide +kernel
theorem d8_30 : decode method_3_code 30 = .ok (.ifCond .eq 15, 3) := by decide +kernel
theorem d8_33 : decode method_3_code 33 = .ok (.iload_n 1, 1) := by decide +kernel
theorem d8_34 : decode method_3_code 34 = .ok (.iload 6, 2) := by decide +kernel
theorem d8_36 : decode method_3_code 36 = .ok (.if_icmp .ne 9, 3) := by decide +kernel
theorem d8_39 : decode method_3_code 39 = .ok (.lload 9, 2) := by decide +kernel
theorem d8_41 : decode method_3_code 41 = .ok (.lconst 1, 1) := by decide +kernel
theorem d8_42 : decode method_3_code 42 = .ok (.ladd, 1) := by decide +kernel
theorem d8_43 : decode method_3_code 43 = .ok (.lstore 9, 2) := by decide +kernel
theorem d8_45 : decode method_3_code 45 = .ok (.aload_n 0, 1) := by decide +kernel
theorem d8_46 : decode method_3_code 46 = .ok (.iload_n 1, 1) := by decide +kernel
theorem d8_47 : decode method_3_code 47 = .ok (.invokestatic 25, 3) := by decide +kernel
theorem d8_50 : decode method_3_code 50 = .ok (.invokevirtual 31, 3) := by decide +kernel
theorem d8_53 : decode method_3_code 53 = .ok (.lload 9, 2) := by decide +kernel
theorem d8_55 : decode method_3_code 55 = .ok (.lcmp, 1) := by decide +kernel
theorem d8_56 : decode method_3_code 56 = .ok (.ifCond .ne 7, 3) := by decide +kernel
theorem d8_59 : decode method_3_code 59 = .ok (.iconst 1, 1) := by decide +kernel
theorem d8_60 : decode method_3_code 60 = .ok (.goto 4, 3) := by decide +kernel
theorem d8_64 : decode method_3_code 64 = .ok (.ireturn, 1) := by decide +kernel
theorem pn8 : plainName "com/example/spanforge/spanforge/plan/ItemCountsHandOnPinLaw" = true := by first | (simp [plainName, overriddenIn]; done) | decide +kernel
theorem pd8 : parseMethodDescriptor "(Lcom/example/spanforge/spanforge/plan/ItemCounts;IIJIIZZ)Z" = some ⟨[(.object "com/example/spanforge/spanforge/plan/ItemCounts"), .int, .int, .long, .int, .int, .boolean, .boolean], (some .boolean)⟩ := by decide +kernel
theorem d9_0 : decode prog_8_method_4_code 0 = .ok (.aload_n 0, 1) := by decide +kernel
theorem d9_1 : decode prog_8_method_4_code 1 = .ok (.getfield 13, 3) := by decide +kernel
theorem d9_4 : decode prog_8_method_4_code 4 = .ok (.aload_n 1, 1) := by decide +kernel
theorem d9_5 : decode prog_8_method_4_code 5 = .ok (.invokevirtual 19, 3) := by decide +kernel
theorem d9_8 : decode prog_8_method_4_code 8 = .ok (.laload, 1) := by decide +kernel
theorem d9_9 : decode prog_8_method_4_code 9 = .ok (.lreturn, 1) := by decide +kernel
theorem pn9 : plainName "com/example/spanforge/spanforge/plan/ItemCounts" = true := by first | (simp [plainName, overriddenIn]; done) | decide +kernel
theorem pd9 : parseMethodDescriptor "(Lcom/example/spanforge/spanforge/plan/Operator;)J" = some ⟨[(.object "com/example/spanforge/spanforge/plan/Operator")], (some .long)⟩ := by decide +kernel
def Facts (Z : State) (a_VALUES a_SCAN a_FETCH a_FILTER a_COUNT a_PROJECT : Addr) (k_VALUES : ClassId) (vs_VALUES : List Value) : Prop := (Sta Z Z.heap "com/example/spanforge/spanforge/plan/Operator" "$VALUES" "[Lcom/example/spanforge/spanforge/plan/Operator;" (.ref a_VALUES)) ∧ (Ar Z Z.heap a_VALUES (.object "com/example/spanforge/spanforge/plan/Operator") k_VALUES vs_VALUES) ∧ (Exa Z Z.heap a_VALUES "[Lcom/example/spanforge/spanforge/plan/Operator;") ∧ (Sta Z Z.heap "com/example/spanforge/spanforge/plan/Operator" "SCAN" "Lcom/example/spanforge/spanforge/plan/Operator;" (.ref a_SCAN)) ∧ (Exa Z Z.heap a_SCAN "com/example/spanforge/spanforge/plan/Operator") ∧ (Sta Z Z.heap "com/example/spanforge/spanforge/plan/Operator" "FETCH" "Lcom/example/spanforge/spanforge/plan/Operator;" (.ref a_FETCH)) ∧ (Exa Z Z.heap a_FETCH "com/example/spanforge/spanforge/plan/Operator") ∧ (Sta Z Z.heap "com/example/spanforge/spanforge/plan/Operator" "FILTER" "Lcom/example/spanforge/spanforge/plan/Operator;" (.ref a_FILTER)) ∧ (Exa Z Z.heap a_FILTER "com/example/spanforge/spanforge/plan/Operator") ∧ (Sta Z Z.heap "com/example/spanforge/spanforge/plan/Operator" "COUNT" "Lcom/example/spanforge/spanforge/plan/Operator;" (.ref a_COUNT)) ∧ (Exa Z Z.heap a_COUNT "com/example/spanforge/spanforge/plan/Operator") ∧ (Sta Z Z.heap "com/example/spanforge/spanforge/plan/Operator" "PROJECT" "Lcom/example/spanforge/spanforge/plan/Operator;" (.ref a_PROJECT)) ∧ (Exa Z Z.heap a_PROJECT "com/example/spanforge/spanforge/plan/Operator") ∧ (vs_VALUES.length = 5) ∧ (vs_VALUES[0]? = some (.ref a_SCAN)) ∧ (vs_VALUES[1]? = some (.ref a_FETCH)) ∧ (vs_VALUES[2]? = some (.ref a_FILTER)) ∧ (vs_VALUES[3]? = some (.ref a_COUNT)) ∧ (vs_VALUES[4]? = some (.ref a_PROJECT)) ∧ (Fld Z Z.heap a_SCAN "java/lang/Enum" "ordinal" "I" (.int 0)) ∧ (Fld Z Z.heap a_FETCH "java/lang/Enum" "ordinal" "I" (.int 1)) ∧ (Fld Z Z.heap a_FILTER "java/lang/Enum" "ordinal" "I" (.int 2)) ∧ (Fld Z Z.heap a_COUNT "java/lang/Enum" "ordinal" "I" (.int 3)) ∧ (Fld Z Z.heap a_PROJECT "java/lang/Enum" "ordinal" "I" (.int 4)) ∧ (ArF Z Z.heap a_VALUES (.object "com/example/spanforge/spanforge/plan/Operator") k_VALUES vs_VALUES)
theorem Facts.S_VALUES {Z : State} {a_VALUES a_SCAN a_FETCH a_FILTER a_COUNT a_PROJECT : Addr} {k_VALUES : ClassId} {vs_VALUES : List Value} (F : Facts Z a_VALUES a_SCAN a_FETCH a_FILTER a_COUNT a_PROJECT k_VALUES vs_VALUES) : Sta Z Z.heap "com/example/spanforge/spanforge/plan/Operator" "$VALUES" "[Lcom/example/spanforge/spanforge/plan/Operator;" (.ref a_VALUES) := F.1
theorem Facts.A_VALUES {Z : State} {a_VALUES a_SCAN a_FETCH a_FILTER a_COUNT a_PROJECT : Addr} {k_VALUES : ClassId} {vs_VALUES : List Value} (F : Facts Z a_VALUES a_SCAN a_FETCH a_FILTER a_COUNT a_PROJECT k_VALUES vs_VALUES) : Ar Z Z.heap a_VALUES (.object "com/example/spanforge/spanforge/plan/Operator") k_VALUES vs_VALUES := F.2.1
theorem Facts.E_VALUES {Z : State} {a_VALUES a_SCAN a_FETCH a_FILTER a_COUNT a_PROJECT : Addr} {k_VALUES : ClassId} {vs_VALUES : List Value} (F : Facts Z a_VALUES a_SCAN a_FETCH a_FILTER a_COUNT a_PROJECT k_VALUES vs_VALUES) : Exa Z Z.heap a_VALUES "[Lcom/example/spanforge/spanforge/plan/Operator;" := F.2.2.1
theorem Facts.S_SCAN {Z : State} {a_VALUES a_SCAN a_FETCH a_FILTER a_COUNT a_PROJECT : Addr} {k_VALUES : ClassId} {vs_VALUES : List Value} (F : Facts Z a_VALUES a_SCAN a_FETCH a_FILTER a_COUNT a_PROJECT k_VALUES vs_VALUES) : Sta Z Z.heap "com/example/spanforge/spanforge/plan/Operator" "SCAN" "Lcom/example/spanforge/spanforge/plan/Operator;" (.ref a_SCAN) := F.2.2.2.1
theorem Facts.E_SCAN {Z : State} {a_VALUES a_SCAN a_FETCH a_FILTER a_COUNT a_PROJECT : Addr} {k_VALUES : ClassId} {vs_VALUES : List Value} (F : Facts Z a_VALUES a_SCAN a_FETCH a_FILTER a_COUNT a_PROJECT k_VALUES vs_VALUES) : Exa Z Z.heap a_SCAN "com/example/spanforge/spanforge/plan/Operator" := F.2.2.2.2.1
theorem Facts.S_FETCH {Z : State} {a_VALUES a_SCAN a_FETCH a_FILTER a_COUNT a_PROJECT : Addr} {k_VALUES : ClassId} {vs_VALUES : List Value} (F : Facts Z a_VALUES a_SCAN a_FETCH a_FILTER a_COUNT a_PROJECT k_VALUES vs_VALUES) : Sta Z Z.heap "com/example/spanforge/spanforge/plan/Operator" "FETCH" "Lcom/example/spanforge/spanforge/plan/Operator;" (.ref a_FETCH) := F.2.2.2.2.2.1
theorem Facts.E_FETCH {Z : State} {a_VALUES a_SCAN a_FETCH a_FILTER a_COUNT a_PROJECT : Addr} {k_VALUES : ClassId} {vs_VALUES : List Value} (F : Facts Z a_VALUES a_SCAN a_FETCH a_FILTER a_COUNT a_PROJECT k_VALUES vs_VALUES) : Exa Z Z.heap a_FETCH "com/example/spanforge/spanforge/plan/Operator" := F.2.2.2.2.2.2.1
theorem Facts.S_FILTER {Z : State} {a_VALUES a_SCAN a_FETCH a_FILTER a_COUNT a_PROJECT : Addr} {k_VALUES : ClassId} {vs_VALUES : List Value} (F : Facts Z a_VALUES a_SCAN a_FETCH a_FILTER a_COUNT a_PROJECT k_VALUES vs_VALUES) : Sta Z Z.heap "com/example/spanforge/spanforge/plan/Operator" "FILTER" "Lcom/example/spanforge/spanforge/plan/Operator;" (.ref a_FILTER) := F.2.2.2.2.2.2.2.1
theorem Facts.E_FILTER {Z : State} {a_VALUES a_SCAN a_FETCH a_FILTER a_COUNT a_PROJECT : Addr} {k_VALUES : ClassId} {vs_VALUES : List Value} (F : Facts Z a_VALUES a_SCAN a_FETCH a_FILTER a_COUNT a_PROJECT k_VALUES vs_VALUES) : Exa Z Z.heap a_FILTER "com/example/spanforge/spanforge/plan/Operator" := F.2.2.2.2.2.2.2.2.1
theorem Facts.S_COUNT {Z : State} {a_VALUES a_SCAN a_FETCH a_FILTER a_COUNT a_PROJECT : Addr} {k_VALUES : ClassId} {vs_VALUES : List Value} (F : Facts Z a_VALUES a_SCAN a_FETCH a_FILTER a_COUNT a_PROJECT k_VALUES vs_VALUES) : Sta Z Z.heap "com/example/spanforge/spanforge/plan/Operator" "COUNT" "Lcom/example/spanforge/spanforge/plan/Operator;" (.ref a_COUNT) := F.2.2.2.2.2.2.2.2.2.1
theorem Facts.E_COUNT {Z : State} {a_VALUES a_SCAN a_FETCH a_FILTER a_COUNT a_PROJECT : Addr} {k_VALUES : ClassId} {vs_VALUES : List Value} (F : Facts Z a_VALUES a_SCAN a_FETCH a_FILTER a_COUNT a_PROJECT k_VALUES vs_VALUES) : Exa Z Z.heap a_COUNT "com/example/spanforge/spanforge/plan/Operator" := F.2.2.2.2.2.2.2.2.2.2.1
theorem Facts.S_PROJECT {Z : State} {a_VALUES a_SCAN a_FETCH a_FILTER a_COUNT a_PROJECT : Addr} {k_VALUES : ClassId} {vs_VALUES : List Value} (F : Facts Z a_VALUES a_SCAN a_FETCH a_FILTER a_COUNT a_PROJECT k_VALUES vs_VALUES) : Sta Z Z.heap "com/example/spanforge/spanforge/plan/Operator" "PROJECT" "Lcom/example/spanforge/spanforge/plan/Operator;" (.ref a_PROJECT) := F.2.2.2.2.2.2.2.2.2.2.2.1
theorem Facts.E_PROJECT {Z : State} {a_VALUES a_SCAN a_FETCH a_FILTER a_COUNT a_PROJECT : Addr} {k_VALUES : ClassId} {vs_VALUES : List Value} (F : Facts Z a_VALUES a_SCAN a_FETCH a_FILTER a_COUNT a_PROJECT k_VALUES vs_VALUES) : Exa Z Z.heap a_PROJECT "com/example/spanforge/spanforge/plan/Operator" := F.2.2.2.2.2.2.2.2.2.2.2.2.1
theorem Facts.N_VALUES {Z : State} {a_VALUES a_SCAN a_FETCH a_FILTER a_COUNT a_PROJECT : Addr} {k_VALUES : ClassId} {vs_VALUES : List Value} (F : Facts Z a_VALUES a_SCAN a_FETCH a_FILTER a_COUNT a_PROJECT k_VALUES vs_VALUES) : vs_VALUES.length = 5 := F.2.2.2.2.2.2.2.2.2.2.2.2.2.1
theorem Facts.V_VALUES_0 {Z : State} {a_VALUES a_SCAN a_FETCH a_FILTER a_COUNT a_PROJECT : Addr} {k_VALUES : ClassId} {vs_VALUES : List Value} (F : Facts Z a_VALUES a_SCAN a_FETCH a_FILTER a_COUNT a_PROJECT k_VALUES vs_VALUES) : vs_VALUES[0]? = some (.ref a_SCAN) := F.2.2.2.2.2.2.2.2.2.2.2.2.2.2.1
theorem Facts.V_VALUES_1 {Z : State} {a_VALUES a_SCAN a_FETCH a_FILTER a_COUNT a_PROJECT : Addr} {k_VALUES : ClassId} {vs_VALUES : List Value} (F : Facts Z a_VALUES a_SCAN a_FETCH a_FILTER a_COUNT a_PROJECT k_VALUES vs_VALUES) : vs_VALUES[1]? = some (.ref a_FETCH) := F.2.2.2.2.2.2.2.2.2.2.2.2.2.2.2.1
theorem Facts.V_VALUES_2 {Z : State} {a_VALUES a_SCAN a_FETCH a_FILTER a_COUNT a_PROJECT : Addr} {k_VALUES : ClassId} {vs_VALUES : List Value} (F : Facts Z a_VALUES a_SCAN a_FETCH a_FILTER a_COUNT a_PROJECT k_VALUES vs_VALUES) : vs_VALUES[2]? = some (.ref a_FILTER) := F.2.2.2.2.2.2.2.2.2.2.2.2.2.2.2.2.1
theorem Facts.V_VALUES_3 {Z : State} {a_VALUES a_SCAN a_FETCH a_FILTER a_COUNT a_PROJECT : Addr} {k_VALUES : ClassId} {vs_VALUES : List Value} (F : Facts Z a_VALUES a_SCAN a_FETCH a_FILTER a_COUNT a_PROJECT k_VALUES vs_VALUES) : vs_VALUES[3]? = some (.ref a_COUNT) := F.2.2.2.2.2.2.2.2.2.2.2.2.2.2.2.2.2.1
theorem Facts.V_VALUES_4 {Z : State} {a_VALUES a_SCAN a_FETCH a_FILTER a_COUNT a_PROJECT : Addr} {k_VALUES : ClassId} {vs_VALUES : List Value} (F : Facts Z a_VALUES a_SCAN a_FETCH a_FILTER a_COUNT a_PROJECT k_VALUES vs_VALUES) : vs_VALUES[4]? = some (.ref a_PROJECT) := F.2.2.2.2.2.2.2.2.2.2.2.2.2.2.2.2.2.2.1
theorem Facts.F_SCAN_ordinal {Z : State} {a_VALUES a_SCAN a_FETCH a_FILTER a_COUNT a_PROJECT : Addr} {k_VALUES : ClassId} {vs_VALUES : List Value} (F : Facts Z a_VALUES a_SCAN a_FETCH a_FILTER a_COUNT a_PROJECT k_VALUES vs_VALUES) : Fld Z Z.heap a_SCAN "java/lang/Enum" "ordinal" "I" (.int 0) := F.2.2.2.2.2.2.2.2.2.2.2.2.2.2.2.2.2.2.2.1
theorem Facts.F_FETCH_ordinal {Z : State} {a_VALUES a_SCAN a_FETCH a_FILTER a_COUNT a_PROJECT : Addr} {k_VALUES : ClassId} {vs_VALUES : List Value} (F : Facts Z a_VALUES a_SCAN a_FETCH a_FILTER a_COUNT a_PROJECT k_VALUES vs_VALUES) : Fld Z Z.heap a_FETCH "java/lang/Enum" "ordinal" "I" (.int 1) := F.2.2.2.2.2.2.2.2.2.2.2.2.2.2.2.2.2.2.2.2.1
theorem Facts.F_FILTER_ordinal {Z : State} {a_VALUES a_SCAN a_FETCH a_FILTER a_COUNT a_PROJECT : Addr} {k_VALUES : ClassId} {vs_VALUES : List Value} (F : Facts Z a_VALUES a_SCAN a_FETCH a_FILTER a_COUNT a_PROJECT k_VALUES vs_VALUES) : Fld Z Z.heap a_FILTER "java/lang/Enum" "ordinal" "I" (.int 2) := F.2.2.2.2.2.2.2.2.2.2.2.2.2.2.2.2.2.2.2.2.2.1
theorem Facts.F_COUNT_ordinal {Z : State} {a_VALUES a_SCAN a_FETCH a_FILTER a_COUNT a_PROJECT : Addr} {k_VALUES : ClassId} {vs_VALUES : List Value} (F : Facts Z a_VALUES a_SCAN a_FETCH a_FILTER a_COUNT a_PROJECT k_VALUES vs_VALUES) : Fld Z Z.heap a_COUNT "java/lang/Enum" "ordinal" "I" (.int 3) := F.2.2.2.2.2.2.2.2.2.2.2.2.2.2.2.2.2.2.2.2.2.2.1
theorem Facts.F_PROJECT_ordinal {Z : State} {a_VALUES a_SCAN a_FETCH a_FILTER a_COUNT a_PROJECT : Addr} {k_VALUES : ClassId} {vs_VALUES : List Value} (F : Facts Z a_VALUES a_SCAN a_FETCH a_FILTER a_COUNT a_PROJECT k_VALUES vs_VALUES) : Fld Z Z.heap a_PROJECT "java/lang/Enum" "ordinal" "I" (.int 4) := F.2.2.2.2.2.2.2.2.2.2.2.2.2.2.2.2.2.2.2.2.2.2.2.1
theorem Facts.AF_VALUES {Z : State} {a_VALUES a_SCAN a_FETCH a_FILTER a_COUNT a_PROJECT : Addr} {k_VALUES : ClassId} {vs_VALUES : List Value} (F : Facts Z a_VALUES a_SCAN a_FETCH a_FILTER a_COUNT a_PROJECT k_VALUES vs_VALUES) : ArF Z Z.heap a_VALUES (.object "com/example/spanforge/spanforge/plan/Operator") k_VALUES vs_VALUES := F.2.2.2.2.2.2.2.2.2.2.2.2.2.2.2.2.2.2.2.2.2.2.2.2
def upd (f : Nat → Int64) (i : Nat) (v : Int64) : Nat → Int64 := fun j => if j = i then v else f j
theorem upd_same (f : Nat → Int64) (i : Nat) (v : Int64) : upd f i v i = v := if_pos rfl
theorem upd_ne (f : Nat → Int64) {i j : Nat} (v : Int64) (h : j ≠ i) : upd f i v j = f j := if_neg h
def Row (cs : List Value) (m : Nat) (f : Nat → Int64) : Prop := cs.length = m ∧ ∀ i, i < m → cs[i]? = some (.long (f i))
theorem Row.set {cs : List Value} {m i : Nat} {f : Nat → Int64} (r : Row cs m f) (hi : i < m) (v : Int64) : Row (cs.set i (.long v)) m (upd f i v) := by
  refine ⟨by simpa using r.1, fun j hj => ?_⟩
  by_cases e : j = i
  · subst e; rw [upd_same, List.getElem?_set_self (by have := r.1; omega)]
  · rw [upd_ne _ _ e, List.getElem?_set_ne (fun q => e q.symm)]; exact r.2 j hj
abbrev ICC : String := "com/example/spanforge/spanforge/plan/ItemCounts"
abbrev OPC : String := "com/example/spanforge/spanforge/plan/Operator"
def R5 (k : Int32) : Prop := ¬ k < 0 ∧ k.toNatClampNeg < 5
/-- p is the operator of ordinal k -/
def OpK (Z : State) (p : Addr) (k : Int32) : Prop := Exa Z Z.heap p OPC ∧ Fld Z Z.heap p "java/lang/Enum" "ordinal" "I" (.int k) ∧ R5 k
theorem OpK.ne {Z : State} {p p' : Addr} {k k' : Int32} (a : OpK Z p k) (b : OpK Z p' k') (hk : ¬ k = k') : ¬ (Value.ref p) = (Value.ref p') := fun e => a.2.1.ne b.2.1 (fun q => hk (Value.int.inj q)) (Value.ref.inj e)
theorem OpK.eq {Z : State} {p p' : Addr} {k k' : Int32} (a : OpK Z p k) (b : OpK Z p' k') (e : (Value.ref p) = (Value.ref p')) : k = k' := Decidable.byContradiction fun q => a.ne b q e
def opA (a_SCAN a_FETCH a_FILTER a_COUNT a_PROJECT : Addr) (k : Int32) : Addr := if k = 0 then a_SCAN else if k = 1 then a_FETCH else if k = 2 then a_FILTER else if k = 3 then a_COUNT else a_PROJECT
theorem five {k : Int32} (hk : R5 k) : k = 0 ∨ k = 1 ∨ k = 2 ∨ k = 3 ∨ k = 4 := by
  have h0 := nonneg_iff.mp hk.1
  have h1 : k.toInt.toNat < 5 := hk.2
  simp only [← Int32.toInt_inj]
  have e0 : (0 : Int32).toInt = 0 := rfl
  have e1 : (1 : Int32).toInt = 1 := rfl
  have e2 : (2 : Int32).toInt = 2 := rfl
  have e3 : (3 : Int32).toInt = 3 := rfl
  have e4 : (4 : Int32).toInt = 4 := rfl
  omega
theorem r5_0 : R5 0 := by unfold R5; decide
theorem r5_1 : R5 1 := by unfold R5; decide
theorem r5_2 : R5 2 := by unfold R5; decide
theorem r5_3 : R5 3 := by unfold R5; decide
theorem r5_4 : R5 4 := by unfold R5; decide
theorem r5_rem (x : Int32) : R5 ((x &&& 2147483647) % 5) := by
  have e := c_mask x 2147483647 31 (by decide) (by decide)
  have e6 := (c_irem (x &&& 2147483647) 5 5 rfl).1 (by omega)
  refine ⟨nonneg_iff.mpr (by omega), ?_⟩
  show ((x &&& 2147483647) % 5).toInt.toNat < 5
  omega
theorem nat_inj {a b : Int32} (ha : ¬ a < 0) (hb : ¬ b < 0) (e : a.toNatClampNeg = b.toNatClampNeg) : a = b := by
  rw [← (back32 ha).1, ← (back32 hb).1, e]
section
variable {Z : State} {a_VALUES a_SCAN a_FETCH a_FILTER a_COUNT a_PROJECT : Addr} {k_VALUES : ClassId} {vs_VALUES : List Value}
theorem Facts.op0 (F : Facts Z a_VALUES a_SCAN a_FETCH a_FILTER a_COUNT a_PROJECT k_VALUES vs_VALUES) : OpK Z a_SCAN 0 := ⟨F.E_SCAN, F.F_SCAN_ordinal, r5_0⟩
theorem Facts.op1 (F : Facts Z a_VALUES a_SCAN a_FETCH a_FILTER a_COUNT a_PROJECT k_VALUES vs_VALUES) : OpK Z a_FETCH 1 := ⟨F.E_FETCH, F.F_FETCH_ordinal, r5_1⟩
theorem Facts.op2 (F : Facts Z a_VALUES a_SCAN a_FETCH a_FILTER a_COUNT a_PROJECT k_VALUES vs_VALUES) : OpK Z a_FILTER 2 := ⟨F.E_FILTER, F.F_FILTER_ordinal, r5_2⟩
theorem Facts.op3 (F : Facts Z a_VALUES a_SCAN a_FETCH a_FILTER a_COUNT a_PROJECT k_VALUES vs_VALUES) : OpK Z a_COUNT 3 := ⟨F.E_COUNT, F.F_COUNT_ordinal, r5_3⟩
theorem Facts.op4 (F : Facts Z a_VALUES a_SCAN a_FETCH a_FILTER a_COUNT a_PROJECT k_VALUES vs_VALUES) : OpK Z a_PROJECT 4 := ⟨F.E_PROJECT, F.F_PROJECT_ordinal, r5_4⟩
theorem Facts.opk (F : Facts Z a_VALUES a_SCAN a_FETCH a_FILTER a_COUNT a_PROJECT k_VALUES vs_VALUES) {k : Int32} (hk : R5 k) : OpK Z (opA a_SCAN a_FETCH a_FILTER a_COUNT a_PROJECT k) k := by
  rcases five hk with rfl | rfl | rfl | rfl | rfl
  · exact F.op0
  · exact F.op1
  · exact F.op2
  · exact F.op3
  · exact F.op4
end
def IC (Z : State) (h : Heap) (n0 : Nat) (o : Addr) (f : Nat → Int64) : Prop := ∃ a k cs, Old Z n0 h ∧ Exa Z h o ICC ∧ n0 ≤ o ∧ Fld Z h o ICC "handedOn" "[J" (.ref a) ∧ n0 ≤ a ∧ o ≠ a ∧ Ar Z h a .long k cs ∧ Row cs 5 f
theorem IC.exa {Z : State} {h : Heap} {n0 : Nat} {o : Addr} {f : Nat → Int64} (S : IC Z h n0 o f) : Exa Z h o ICC := by obtain ⟨_, _, _, _, e, _⟩ := S; exact e
theorem IC.old {Z : State} {h : Heap} {n0 : Nat} {o : Addr} {f : Nat → Int64} (S : IC Z h n0 o f) : Old Z n0 h := by obtain ⟨_, _, _, e, _⟩ := S; exact e
theorem pT2 : parseFieldDescriptor "[J" = some (.array .long) := by decide +kernel
def zeroC : Nat → Int64 := fun _ => 0
set_option maxRecDepth 65536 in
set_option maxHeartbeats 40000000 in
theorem ord (l : Launch) (Z : State) (a0 : Array Value) (hw : Hw a0 Z) (n0 : Nat) (h : Heap) (O : Old Z n0 h) (p : Addr) (k : Int32) (P : OpK Z p k) {Q : Option Value → Heap → Prop} (hQ : Q (some (.int k)) h) :
    Go l Z (⟨"java/lang/Enum", "ordinal", "()I"⟩ : MethodName) jdk_37_method_2_code 1 (some .int) ({ frames := 0, cells := 0, slots := 0, locals := 0 } : Room) n0 Q h 0 0 0 #[.val (.ref p)] [] := by
  refine Go.aloadN d6_0 (q := 1) rfl rfl rfl ?_
  refine Go.getF d6_1 (q := 4) rfl (host := "") (Or.inl (w51 hw)) Via.refl (P.2.1.ext O.2) ?_
  refine Go.ireturn d6_4 (by decide) (by decide) ?_
  exact hQ
set_option maxRecDepth 65536 in
set_option maxHeartbeats 40000000 in
theorem ic_get (l : Launch) (Z : State) (a0 : Array Value) (hw : Hw a0 Z) (n0 : Nat) (h : Heap) (o p : Addr) (k : Int32) (P : OpK Z p k) {f : Nat → Int64} (S : IC Z h n0 o f) {Q : Option Value → Heap → Prop} (hQ : Q (some (.long (f k.toNatClampNeg))) h) :
    Go l Z (⟨"com/example/spanforge/spanforge/plan/ItemCounts", "handedOn", "(Lcom/example/spanforge/spanforge/plan/Operator;)J"⟩ : MethodName) prog_8_method_4_code 2 (some .long) ({ frames := 1, cells := 0, slots := 0, locals := 15 } : Room) n0 Q h 0 0 0 #[.val (.ref o), .val (.ref p)] [] := by
  obtain ⟨a, ka, cs, O, s2, s3, s4, s5, s6, s7, s8⟩ := S
  refine Go.aloadN d9_0 (q := 1) rfl rfl rfl ?_
  refine Go.getF d9_1 (q := 4) rfl (host := "") (Or.inl (w32 hw)) Via.refl s4 ?_
  refine Go.aloadN d9_4 (q := 5) rfl rfl rfl ?_
  refine Go.callUV (P := fun w h' => w = .int k ∧ h = h') (argsL := []) (rest := [(.ref a)]) (wd := 1) (Ls1 := #[.val (.ref p)]) d9_5 (q := 8) rfl (w44 hw) (w45 hw) (w46 hw) (w48 hw) (w47 hw) (w50 hw) (w49 hw) (by decide) pn6 pd6 rfl rfl (P.1.ext O.2) (fun m => by simp [entryFrame, mkF, argsToLocals, Value.category]) rfl (by decide) rfl (by decide) (by decide) (by decide) (ord l Z a0 hw n0 h O p k P (Q := RV (fun w h' => w = .int k ∧ h = h')) ⟨_, rfl, rfl, rfl⟩) ?_
  rintro _ _ ⟨rfl, rfl⟩
  refine Go.laload d9_8 (q := 9) rfl s7 P.2.2.1 (s8.2 _ P.2.2.2) ?_
  refine Go.lreturn d9_9 (by decide) (by decide) ?_
  exact hQ
set_option maxRecDepth 65536 in
set_option maxHeartbeats 40000000 in
theorem ic_on (l : Launch) (Z : State) (a0 : Array Value) (hw : Hw a0 Z) (n0 : Nat) (h : Heap) (o p : Addr) (k : Int32) (P : OpK Z p k) (v : Int64) {f : Nat → Int64} (S : IC Z h n0 o f) {Q : Option Value → Heap → Prop} (hQ : ∀ h', IC Z h' n0 o (upd f k.toNatClampNeg (f k.toNatClampNeg + v)) → Q none h') :
    Go l Z (⟨"com/example/spanforge/spanforge/plan/ItemCounts", "handOn", "(Lcom/example/spanforge/spanforge/plan/Operator;J)V"⟩ : MethodName) prog_8_method_3_code 4 none ({ frames := 1, cells := 0, slots := 0, locals := 15 } : Room) n0 Q h 0 0 0 #[.val (.ref o), .val (.ref p), .val (.long v), .second] [] := by
  obtain ⟨a, ka, cs, O, s2, s3, s4, s5, s6, s7, s8⟩ := S
  refine Go.aloadN d5_0 (q := 1) rfl rfl rfl ?_
  refine Go.getF d5_1 (q := 4) rfl (host := "") (Or.inl (w32 hw)) Via.refl s4 ?_
  refine Go.aloadN d5_4 (q := 5) rfl rfl rfl ?_
  refine Go.callUV (P := fun w h' => w = .int k ∧ h = h') (argsL := []) (rest := [(.ref a)]) (wd := 1) (Ls1 := #[.val (.ref p)]) d5_5 (q := 8) rfl (w44 hw) (w45 hw) (w46 hw) (w48 hw) (w47 hw) (w50 hw) (w49 hw) (by decide) pn6 pd6 rfl rfl (P.1.ext O.2) (fun m => by simp [entryFrame, mkF, argsToLocals, Value.category]) rfl (by decide) rfl (by decide) (by decide) (by decide) (ord l Z a0 hw n0 h O p k P (Q := RV (fun w h' => w = .int k ∧ h = h')) ⟨_, rfl, rfl, rfl⟩) ?_
  rintro _ _ ⟨rfl, rfl⟩
  refine Go.dup2 d5_8 (q := 9) rfl rfl rfl ?_
  refine Go.laload d5_9 (q := 10) rfl s7 P.2.2.1 (s8.2 _ P.2.2.2) ?_
  refine Go.lloadN d5_10 (q := 11) rfl rfl ?_
  refine Go.ladd d5_11 (q := 12) rfl ?_
  refine Go.lastore d5_12 (q := 13) rfl s7 P.2.2.1 (by rw [s8.1]; exact P.2.2.2) s5 ?_
  intro h1 W1
  refine Go.vreturn d5_13 (by decide) (by decide) ?_
  exact hQ _ ⟨a, ka, _, O.wr W1 s5, s2.wr W1, s3, s4.other W1 (Or.inl s6), s5, s6, s7.set W1, s8.set P.2.2.2 _⟩
set_option maxRecDepth 65536 in
set_option maxHeartbeats 40000000 in
theorem ic_on1 (l : Launch) (Z : State) (a0 : Array Value) (hw : Hw a0 Z) (n0 : Nat) (h : Heap) (o p : Addr) (k : Int32) (P : OpK Z p k) {f : Nat → Int64} (S : IC Z h n0 o f) {Q : Option Value → Heap → Prop} (hQ : ∀ h', IC Z h' n0 o (upd f k.toNatClampNeg (f k.toNatClampNeg + (1 : Int64))) → Q none h') :
    Go l Z (⟨"com/example/spanforge/spanforge/plan/ItemCounts", "handOn", "(Lcom/example/spanforge/spanforge/plan/Operator;)V"⟩ : MethodName) prog_8_method_2_code 2 none ({ frames := 1, cells := 0, slots := 0, locals := 15 } : Room) n0 Q h 0 0 0 #[.val (.ref o), .val (.ref p)] [] := by
  obtain ⟨a, ka, cs, O, s2, s3, s4, s5, s6, s7, s8⟩ := S
  refine Go.aloadN d7_0 (q := 1) rfl rfl rfl ?_
  refine Go.getF d7_1 (q := 4) rfl (host := "") (Or.inl (w32 hw)) Via.refl s4 ?_
  refine Go.aloadN d7_4 (q := 5) rfl rfl rfl ?_
  refine Go.callUV (P := fun w h' => w = .int k ∧ h = h') (argsL := []) (rest := [(.ref a)]) (wd := 1) (Ls1 := #[.val (.ref p)]) d7_5 (q := 8) rfl (w44 hw) (w45 hw) (w46 hw) (w48 hw) (w47 hw) (w50 hw) (w49 hw) (by decide) pn6 pd6 rfl rfl (P.1.ext O.2) (fun m => by simp [entryFrame, mkF, argsToLocals, Value.category]) rfl (by decide) rfl (by decide) (by decide) (by decide) (ord l Z a0 hw n0 h O p k P (Q := RV (fun w h' => w = .int k ∧ h = h')) ⟨_, rfl, rfl, rfl⟩) ?_
  rintro _ _ ⟨rfl, rfl⟩
  refine Go.dup2 d7_8 (q := 9) rfl rfl rfl ?_
  refine Go.laload d7_9 (q := 10) rfl s7 P.2.2.1 (s8.2 _ P.2.2.2) ?_
  refine Go.lconst d7_10 (q := 11) rfl (x := (1 : Int64)) (by decide) ?_
  refine Go.ladd d7_11 (q := 12) rfl ?_
  refine Go.lastore d7_12 (q := 13) rfl s7 P.2.2.1 (by rw [s8.1]; exact P.2.2.2) s5 ?_
  intro h1 W1
  refine Go.vreturn d7_13 (by decide) (by decide) ?_
  exact hQ _ ⟨a, ka, _, O.wr W1 s5, s2.wr W1, s3, s4.other W1 (Or.inl s6), s5, s6, s7.set W1, s8.set P.2.2.2 _⟩
set_option maxRecDepth 65536 in
set_option maxHeartbeats 40000000 in
theorem vals (l : Launch) (Z : State) (a0 : Array Value) (hw : Hw a0 Z) (n0 : Nat) (h : Heap) (O : Old Z n0 h) (a_VALUES a_SCAN a_FETCH a_FILTER a_COUNT a_PROJECT : Addr) (k_VALUES : ClassId) (vs_VALUES : List Value) (F : Facts Z a_VALUES a_SCAN a_FETCH a_FILTER a_COUNT a_PROJECT k_VALUES vs_VALUES) {Q : Option Value → Heap → Prop} (hQ : ∀ h' b, Ext h h' → Ar Z h' b (.object "com/example/spanforge/spanforge/plan/Operator") k_VALUES vs_VALUES → Q (some (.ref b)) h') :
    Go l Z (⟨"com/example/spanforge/spanforge/plan/Operator", "values", "()[Lcom/example/spanforge/spanforge/plan/Operator;"⟩ : MethodName) prog_10_method_1_code 0 (some (.array (.object "com/example/spanforge/spanforge/plan/Operator"))) ({ frames := 1, cells := 1, slots := 5, locals := 14 } : Room) n0 Q h 0 0 0 #[] [] := by
  refine Go.getS d3_0 (q := 3) rfl (w14 hw) (F.S_VALUES.ext O.2) ?_
  refine Go.clone (cap := 5) (ad := "[Lcom/example/spanforge/spanforge/plan/Operator;") d3_3 (q := 6) rfl (w16 hw) (w17 hw) (w21 hw) (w19 hw) (w20 hw) (w22 hw) (F.AF_VALUES.ext O.2) (F.E_VALUES.ext O.2) rfl (by decide) rfl (by decide) (by rw [F.N_VALUES]; exact Nat.le_refl _) (by decide) (by decide) ?_
  intro h1 b e1 X1 A1 E1
  refine Go.cast d3_6 (q := 9) rfl (w29 hw) (Ins.self E1) ?_
  refine Go.areturn d3_9 (by decide) (by decide) rfl rfl ?_
  exact hQ _ _ X1 A1
set_option maxRecDepth 65536 in
set_option maxHeartbeats 40000000 in
theorem ic_init (l : Launch) (Z : State) (a0 : Array Value) (hw : Hw a0 Z) (n0 : Nat) (h : Heap) (O : Old Z n0 h) (o : Addr) (no : n0 ≤ o) (e0 : Exa Z h o ICC) (f1 : Fld Z h o ICC "handedOn" "[J" .null) (a_VALUES a_SCAN a_FETCH a_FILTER a_COUNT a_PROJECT : Addr) (k_VALUES : ClassId) (vs_VALUES : List Value) (F : Facts Z a_VALUES a_SCAN a_FETCH a_FILTER a_COUNT a_PROJECT k_VALUES vs_VALUES) {Q : Option Value → Heap → Prop} (hQ : ∀ h', IC Z h' n0 o zeroC → Q none h') :
    Go l Z (⟨"com/example/spanforge/spanforge/plan/ItemCounts", "<init>", "()V"⟩ : MethodName) prog_8_method_1_code 1 none ({ frames := 2, cells := 2, slots := 10, locals := 26 } : Room) n0 Q h 0 0 0 #[.val (.ref o)] [] := by
  refine Go.aloadN d1_0 (q := 1) rfl rfl rfl ?_
  refine Go.initObj d1_1 (q := 4) rfl (w7 hw) (w8 hw) (w9 hw) rfl (by decide) rfl (by decide) ?_
  refine Go.aloadN d1_4 (q := 5) rfl rfl rfl ?_
  refine Go.callSV (P := fun w h' => ∃ b, w = .ref b ∧ Ext h h' ∧ Ar Z h' b (.object "com/example/spanforge/spanforge/plan/Operator") k_VALUES vs_VALUES) (argsL := []) (rest := [(.ref o)]) (wd := 1) (Ls1 := #[]) d1_5 (q := 8) rfl (w10 hw) (w11 hw) (w12 hw) (w13 hw) (by decide) pn3 pd3 rfl rfl (fun m => by simp [entryFrame, mkF, argsToLocals, Value.category]) rfl (by decide) rfl (by decide) (by decide) (by decide) (vals l Z a0 hw n0 h O a_VALUES a_SCAN a_FETCH a_FILTER a_COUNT a_PROJECT k_VALUES vs_VALUES F (Q := RV (fun w h' => ∃ b, w = .ref b ∧ Ext h h' ∧ Ar Z h' b (.object "com/example/spanforge/spanforge/plan/Operator") k_VALUES vs_VALUES)) (fun h' b x y => ⟨_, rfl, b, rfl, x, y⟩)) ?_
  rintro _ h1 ⟨b, rfl, X1, A1⟩
  refine Go.arraylength d1_8 (q := 9) rfl A1 (z := 5) (by rw [F.N_VALUES]; rfl) ?_
  refine Go.newarray (cap := 5) d1_9 (q := 11) rfl (w31 hw) (by decide) (by decide) (by decide) (by decide) (by decide) ?_
  intro h2 a ka e2 X2 A2
  have E2 := (e0.ext X1).ext X2
  have lo := e0.lt
  have l1 := X1.1
  have na : n0 ≤ a := new_le (Nat.le_trans (le_size e0.lt no) X1.1) e2
  have ne : o ≠ a := new_ne (Nat.lt_of_lt_of_le e0.lt X1.1) e2
  refine Go.putF d1_11 (q := 14) rfl (host := "") (Or.inl (w32 hw)) Via.refl ((f1.ext X1).ext X2) E2 (Or.inr ⟨(w33 hw), rfl, rfl⟩) (w2 hw) pT2 rfl rfl no ?_
  intro h3 W3
  refine Go.vreturn d1_14 (by decide) (by decide) ?_
  refine hQ _ ⟨a, ka, _, ((O.ext X1).ext X2).wr W3 no, E2.wr W3, no, ((f1.ext X1).ext X2).same W3, na, ne, A2.other W3 ne.symm, by simp, fun i hi => ?_⟩
  rw [List.getElem?_replicate, if_pos (show i < (5 : Int32).toNatClampNeg from hi)]; rfl
set_option maxRecDepth 65536 in
set_option maxHeartbeats 40000000 in
theorem opG (l : Launch) (Z : State) (a0 : Array Value) (hw : Hw a0 Z) (n0 : Nat) (h : Heap) (O : Old Z n0 h) (k : Int32) (a_VALUES a_SCAN a_FETCH a_FILTER a_COUNT a_PROJECT : Addr) (k_VALUES : ClassId) (vs_VALUES : List Value) (F : Facts Z a_VALUES a_SCAN a_FETCH a_FILTER a_COUNT a_PROJECT k_VALUES vs_VALUES) {Q : Option Value → Heap → Prop} (hQ : Q (some (.ref (opA a_SCAN a_FETCH a_FILTER a_COUNT a_PROJECT k))) h) :
    Go l Z (⟨"com/example/spanforge/spanforge/plan/ItemCountsHandOnPinLaw", "op", "(I)Lcom/example/spanforge/spanforge/plan/Operator;"⟩ : MethodName) method_2_code 1 (some (.object "com/example/spanforge/spanforge/plan/Operator")) ({ frames := 0, cells := 0, slots := 0, locals := 0 } : Room) n0 Q h 0 0 0 #[.val (.int k)] [] := by
  refine Go.iloadN d4_0 (q := 1) rfl rfl ?_
  refine Go.if_ne d4_1 (q := 8) (q' := 4) (by decide) rfl rfl (fun c1 => ?_) (fun c1 => ?_)
  · skip
    refine Go.iloadN d4_8 (q := 9) rfl rfl ?_
    refine Go.iconst d4_9 (q := 10) rfl (x := (1 : Int32)) (by decide) ?_
    refine Go.icmp_ne d4_10 (q := 17) (q' := 13) (by decide) rfl rfl (fun c2 => ?_) (fun c2 => ?_)
    · skip
      refine Go.iloadN d4_17 (q := 18) rfl rfl ?_
      refine Go.iconst d4_18 (q := 19) rfl (x := (2 : Int32)) (by decide) ?_
      refine Go.icmp_ne d4_19 (q := 26) (q' := 22) (by decide) rfl rfl (fun c3 => ?_) (fun c3 => ?_)
      · skip
        refine Go.iloadN d4_26 (q := 27) rfl rfl ?_
        refine Go.iconst d4_27 (q := 28) rfl (x := (3 : Int32)) (by decide) ?_
        refine Go.icmp_ne d4_28 (q := 35) (q' := 31) (by decide) rfl rfl (fun c4 => ?_) (fun c4 => ?_)
        · skip
          refine Go.getS d4_35 (q := 38) rfl (w69 hw) (F.S_PROJECT.ext O.2) ?_
          refine Go.areturn d4_38 (by decide) (by decide) rfl rfl ?_
          unfold opA at hQ
          rw [if_neg c1, if_neg c2, if_neg c3, if_neg c4] at hQ
          exact hQ
        · skip
          refine Go.getS d4_31 (q := 34) rfl (w68 hw) (F.S_COUNT.ext O.2) ?_
          refine Go.areturn d4_34 (by decide) (by decide) rfl rfl ?_
          unfold opA at hQ
          rw [if_neg c1, if_neg c2, if_neg c3, if_pos c4] at hQ
          exact hQ
      · skip
        refine Go.getS d4_22 (q := 25) rfl (w67 hw) (F.S_FILTER.ext O.2) ?_
        refine Go.areturn d4_25 (by decide) (by decide) rfl rfl ?_
        unfold opA at hQ
        rw [if_neg c1, if_neg c2, if_pos c3] at hQ
        exact hQ
    · skip
      refine Go.getS d4_13 (q := 16) rfl (w53 hw) (F.S_FETCH.ext O.2) ?_
      refine Go.areturn d4_16 (by decide) (by decide) rfl rfl ?_
      unfold opA at hQ
      rw [if_neg c1, if_pos c2] at hQ
      exact hQ
  · skip
    refine Go.getS d4_4 (q := 7) rfl (w38 hw) (F.S_SCAN.ext O.2) ?_
    refine Go.areturn d4_7 (by decide) (by decide) rfl rfl ?_
    unfold opA at hQ
    rw [if_pos c1] at hQ
    exact hQ
def e3 (k bk tw : Int32) (e : Int64) : Int64 := if tw = 0 then e else if k = bk then e + 1 else e
def e2 (k ak bk tw : Int32) (e : Int64) : Int64 := if k = ak then e3 k bk tw (e + 1) else e3 k bk tw e
def e1 (k pk : Int32) (n : Int64) (ak bk pre tw : Int32) : Int64 := if pre = 0 then e2 k ak bk tw 0 else if k = pk then e2 k ak bk tw n else e2 k ak bk tw 0
set_option maxRecDepth 65536 in
set_option maxHeartbeats 40000000 in
theorem ok45 (l : Launch) (Z : State) (a0 : Array Value) (hw : Hw a0 Z) (n0 : Nat) (h : Heap) (o : Addr) (k pk : Int32) (n : Int64) (ak bk pre tw : Int32) (e : Int64) (hk : R5 k) {f : Nat → Int64} (S : IC Z h n0 o f) (a_VALUES a_SCAN a_FETCH a_FILTER a_COUNT a_PROJECT : Addr) (k_VALUES : ClassId) (vs_VALUES : List Value) (F : Facts Z a_VALUES a_SCAN a_FETCH a_FILTER a_COUNT a_PROJECT k_VALUES vs_VALUES) {Q : Option Value → Heap → Prop} (hQ : Q (some (.int 1)) h) (he : f k.toNatClampNeg = e) :
    Go l Z (⟨"com/example/spanforge/spanforge/plan/ItemCountsHandOnPinLaw", "ok", "(Lcom/example/spanforge/spanforge/plan/ItemCounts;IIJIIZZ)Z"⟩ : MethodName) method_3_code 11 (some .boolean) ({ frames := 2, cells := 0, slots := 0, locals := 28 } : Room) n0 Q h 0 0 45 #[.val (.ref o), .val (.int k), .val (.int pk), .val (.long n), .second, .val (.int ak), .val (.int bk), .val (.int pre), .val (.int tw), .val (.long e), .second] [] := by
  refine Go.aloadN d8_45 (q := 46) rfl rfl rfl ?_
  refine Go.iloadN d8_46 (q := 47) rfl rfl ?_
  refine Go.callSV (P := fun w h' => w = .ref (opA a_SCAN a_FETCH a_FILTER a_COUNT a_PROJECT k) ∧ h = h') (argsL := [(.int k)]) (rest := [(.ref o)]) (wd := 1) (Ls1 := #[.val (.int k)]) d8_47 (q := 50) rfl (w34 hw) (w35 hw) (w36 hw) (w37 hw) (by decide) pn4 pd4 rfl rfl (fun m => by simp [entryFrame, mkF, argsToLocals, Value.category]) rfl (by decide) rfl (by decide) (by decide) (by decide) (opG l Z a0 hw n0 h S.old k a_VALUES a_SCAN a_FETCH a_FILTER a_COUNT a_PROJECT k_VALUES vs_VALUES F (Q := RV (fun w h' => w = .ref (opA a_SCAN a_FETCH a_FILTER a_COUNT a_PROJECT k) ∧ h = h')) ⟨_, rfl, rfl, rfl⟩) ?_
  rintro _ _ ⟨rfl, rfl⟩
  refine Go.callVV (P := fun w h' => w = .long (f k.toNatClampNeg) ∧ h = h') (argsL := [(.ref (opA a_SCAN a_FETCH a_FILTER a_COUNT a_PROJECT k))]) (rest := []) (wd := 0) (Ls1 := #[.val (.ref o), .val (.ref (opA a_SCAN a_FETCH a_FILTER a_COUNT a_PROJECT k))]) d8_50 (q := 53) rfl (w62 hw) (w63 hw) (w65 hw) (w64 hw) (w66 hw) (w3 hw) (by decide) pn9 pd9 rfl rfl S.exa (fun m => by simp [entryFrame, mkF, argsToLocals, Value.category]) rfl (by decide) rfl (by decide) (by decide) (by decide) (ic_get l Z a0 hw n0 h o (opA a_SCAN a_FETCH a_FILTER a_COUNT a_PROJECT k) k (F.opk hk) S (Q := RV (fun w h' => w = .long (f k.toNatClampNeg) ∧ h = h')) ⟨_, rfl, rfl, rfl⟩) ?_
  rintro _ _ ⟨rfl, rfl⟩
  refine Go.lload d8_53 (q := 55) rfl rfl ?_
  refine Go.lcmp d8_55 (q := 56) rfl ?_
  refine Go.lif_ne d8_56 (q := 63) (q' := 59) (by decide) rfl rfl (fun c => absurd he c) (fun _ => ?_)
  refine Go.iconst d8_59 (q := 60) rfl (x := (1 : Int32)) (by decide) ?_
  refine Go.goto d8_60 (q := 64) (by decide) rfl ?_
  refine Go.zreturn d8_64 (by decide) (by decide) (by decide) ?_
  exact hQ
set_option maxRecDepth 65536 in
set_option maxHeartbeats 40000000 in
theorem ok28 (l : Launch) (Z : State) (a0 : Array Value) (hw : Hw a0 Z) (n0 : Nat) (h : Heap) (o : Addr) (k pk : Int32) (n : Int64) (ak bk pre tw : Int32) (e : Int64) (hk : R5 k) {f : Nat → Int64} (S : IC Z h n0 o f) (a_VALUES a_SCAN a_FETCH a_FILTER a_COUNT a_PROJECT : Addr) (k_VALUES : ClassId) (vs_VALUES : List Value) (F : Facts Z a_VALUES a_SCAN a_FETCH a_FILTER a_COUNT a_PROJECT k_VALUES vs_VALUES) {Q : Option Value → Heap → Prop} (hQ : Q (some (.int 1)) h) (he : f k.toNatClampNeg = e3 k bk tw e) :
    Go l Z (⟨"com/example/spanforge/spanforge/plan/ItemCountsHandOnPinLaw", "ok", "(Lcom/example/spanforge/spanforge/plan/ItemCounts;IIJIIZZ)Z"⟩ : MethodName) method_3_code 11 (some .boolean) ({ frames := 2, cells := 0, slots := 0, locals := 28 } : Room) n0 Q h 0 0 28 #[.val (.ref o), .val (.int k), .val (.int pk), .val (.long n), .second, .val (.int ak), .val (.int bk), .val (.int pre), .val (.int tw), .val (.long e), .second] [] := by
  refine Go.iload d8_28 (q := 30) rfl rfl ?_
  refine Go.if_eq d8_30 (q := 45) (q' := 33) (by decide) rfl rfl (fun c6 => ?_) (fun c6 => ?_)
  · skip
    exact ok45 l Z a0 hw n0 h o k pk n ak bk pre tw _ hk S a_VALUES a_SCAN a_FETCH a_FILTER a_COUNT a_PROJECT k_VALUES vs_VALUES F hQ (by rw [he]; unfold e3; rw [if_pos c6])
  · skip
    refine Go.iloadN d8_33 (q := 34) rfl rfl ?_
    refine Go.iload d8_34 (q := 36) rfl rfl ?_
    refine Go.icmp_ne d8_36 (q := 45) (q' := 39) (by decide) rfl rfl (fun c7 => ?_) (fun c7 => ?_)
    · skip
      exact ok45 l Z a0 hw n0 h o k pk n ak bk pre tw _ hk S a_VALUES a_SCAN a_FETCH a_FILTER a_COUNT a_PROJECT k_VALUES vs_VALUES F hQ (by rw [he]; unfold e3; rw [if_neg c6, if_neg c7])
    · skip
      refine Go.lload d8_39 (q := 41) rfl rfl ?_
      refine Go.lconst d8_41 (q := 42) rfl (x := (1 : Int64)) (by decide) ?_
      refine Go.ladd d8_42 (q := 43) rfl ?_
      refine Go.lstore d8_43 (q := 45) rfl (Ls' := #[.val (.ref o), .val (.int k), .val (.int pk), .val (.long n), .second, .val (.int ak), .val (.int bk), .val (.int pre), .val (.int tw), .val (.long (e + (1 : Int64))), .second]) rfl ?_
      exact ok45 l Z a0 hw n0 h o k pk n ak bk pre tw _ hk S a_VALUES a_SCAN a_FETCH a_FILTER a_COUNT a_PROJECT k_VALUES vs_VALUES F hQ (by rw [he]; unfold e3; rw [if_neg c6, if_pos c7])
set_option maxRecDepth 65536 in
set_option maxHeartbeats 40000000 in
theorem ok16 (l : Launch) (Z : State) (a0 : Array Value) (hw : Hw a0 Z) (n0 : Nat) (h : Heap) (o : Addr) (k pk : Int32) (n : Int64) (ak bk pre tw : Int32) (e : Int64) (hk : R5 k) {f : Nat → Int64} (S : IC Z h n0 o f) (a_VALUES a_SCAN a_FETCH a_FILTER a_COUNT a_PROJECT : Addr) (k_VALUES : ClassId) (vs_VALUES : List Value) (F : Facts Z a_VALUES a_SCAN a_FETCH a_FILTER a_COUNT a_PROJECT k_VALUES vs_VALUES) {Q : Option Value → Heap → Prop} (hQ : Q (some (.int 1)) h) (he : f k.toNatClampNeg = e2 k ak bk tw e) :
    Go l Z (⟨"com/example/spanforge/spanforge/plan/ItemCountsHandOnPinLaw", "ok", "(Lcom/example/spanforge/spanforge/plan/ItemCounts;IIJIIZZ)Z"⟩ : MethodName) method_3_code 11 (some .boolean) ({ frames := 2, cells := 0, slots := 0, locals := 28 } : Room) n0 Q h 0 0 16 #[.val (.ref o), .val (.int k), .val (.int pk), .val (.long n), .second, .val (.int ak), .val (.int bk), .val (.int pre), .val (.int tw), .val (.long e), .second] [] := by
  refine Go.iloadN d8_16 (q := 17) rfl rfl ?_
  refine Go.iload d8_17 (q := 19) rfl rfl ?_
  refine Go.icmp_ne d8_19 (q := 28) (q' := 22) (by decide) rfl rfl (fun c8 => ?_) (fun c8 => ?_)
  · skip
    exact ok28 l Z a0 hw n0 h o k pk n ak bk pre tw _ hk S a_VALUES a_SCAN a_FETCH a_FILTER a_COUNT a_PROJECT k_VALUES vs_VALUES F hQ (by rw [he]; unfold e2; rw [if_neg c8])
  · skip
    refine Go.lload d8_22 (q := 24) rfl rfl ?_
    refine Go.lconst d8_24 (q := 25) rfl (x := (1 : Int64)) (by decide) ?_
    refine Go.ladd d8_25 (q := 26) rfl ?_
    refine Go.lstore d8_26 (q := 28) rfl (Ls' := #[.val (.ref o), .val (.int k), .val (.int pk), .val (.long n), .second, .val (.int ak), .val (.int bk), .val (.int pre), .val (.int tw), .val (.long (e + (1 : Int64))), .second]) rfl ?_
    exact ok28 l Z a0 hw n0 h o k pk n ak bk pre tw _ hk S a_VALUES a_SCAN a_FETCH a_FILTER a_COUNT a_PROJECT k_VALUES vs_VALUES F hQ (by rw [he]; unfold e2; rw [if_pos c8])
set_option maxRecDepth 65536 in
set_option maxHeartbeats 40000000 in
theorem okG (l : Launch) (Z : State) (a0 : Array Value) (hw : Hw a0 Z) (n0 : Nat) (h : Heap) (o : Addr) (k pk : Int32) (n : Int64) (ak bk pre tw : Int32) (hk : R5 k) {f : Nat → Int64} (S : IC Z h n0 o f) (a_VALUES a_SCAN a_FETCH a_FILTER a_COUNT a_PROJECT : Addr) (k_VALUES : ClassId) (vs_VALUES : List Value) (F : Facts Z a_VALUES a_SCAN a_FETCH a_FILTER a_COUNT a_PROJECT k_VALUES vs_VALUES) {Q : Option Value → Heap → Prop} (hQ : Q (some (.int 1)) h) (he : f k.toNatClampNeg = e1 k pk n ak bk pre tw) :
    Go l Z (⟨"com/example/spanforge/spanforge/plan/ItemCountsHandOnPinLaw", "ok", "(Lcom/example/spanforge/spanforge/plan/ItemCounts;IIJIIZZ)Z"⟩ : MethodName) method_3_code 11 (some .boolean) ({ frames := 2, cells := 0, slots := 0, locals := 28 } : Room) n0 Q h 0 0 0 #[.val (.ref o), .val (.int k), .val (.int pk), .val (.long n), .second, .val (.int ak), .val (.int bk), .val (.int pre), .val (.int tw), .unset, .unset] [] := by
  refine Go.lconst d8_0 (q := 1) rfl (x := (0 : Int64)) (by decide) ?_
  refine Go.lstore d8_1 (q := 3) rfl (Ls' := #[.val (.ref o), .val (.int k), .val (.int pk), .val (.long n), .second, .val (.int ak), .val (.int bk), .val (.int pre), .val (.int tw), .val (.long (0 : Int64)), .second]) rfl ?_
  refine Go.iload d8_3 (q := 5) rfl rfl ?_
  refine Go.if_eq d8_5 (q := 16) (q' := 8) (by decide) rfl rfl (fun c9 => ?_) (fun c9 => ?_)
  · skip
    exact ok16 l Z a0 hw n0 h o k pk n ak bk pre tw _ hk S a_VALUES a_SCAN a_FETCH a_FILTER a_COUNT a_PROJECT k_VALUES vs_VALUES F hQ (by rw [he]; unfold e1; rw [if_pos c9])
  · skip
    refine Go.iloadN d8_8 (q := 9) rfl rfl ?_
    refine Go.iloadN d8_9 (q := 10) rfl rfl ?_
    refine Go.icmp_ne d8_10 (q := 16) (q' := 13) (by decide) rfl rfl (fun c10 => ?_) (fun c10 => ?_)
    · skip
      exact ok16 l Z a0 hw n0 h o k pk n ak bk pre tw _ hk S a_VALUES a_SCAN a_FETCH a_FILTER a_COUNT a_PROJECT k_VALUES vs_VALUES F hQ (by rw [he]; unfold e1; rw [if_neg c9, if_neg c10])
    · skip
      refine Go.lloadN d8_13 (q := 14) rfl rfl ?_
      refine Go.lstore d8_14 (q := 16) rfl (Ls' := #[.val (.ref o), .val (.int k), .val (.int pk), .val (.long n), .second, .val (.int ak), .val (.int bk), .val (.int pre), .val (.int tw), .val (.long n), .second]) rfl ?_
      exact ok16 l Z a0 hw n0 h o k pk n ak bk pre tw _ hk S a_VALUES a_SCAN a_FETCH a_FILTER a_COUNT a_PROJECT k_VALUES vs_VALUES F hQ (by rw [he]; unfold e1; rw [if_neg c9, if_pos c10])
def fA (pk : Int32) (n : Int64) : Nat → Int64 := upd zeroC pk.toNatClampNeg (zeroC pk.toNatClampNeg + n)
def fB (f : Nat → Int64) (ak : Int32) : Nat → Int64 := upd f ak.toNatClampNeg (f ak.toNatClampNeg + 1)
theorem fA_at (pk k : Int32) (hp : R5 pk) (hk : R5 k) (n : Int64) : fA pk n k.toNatClampNeg = if k = pk then n else 0 := by
  unfold fA
  by_cases e : k = pk
  · rw [if_pos e, e, upd_same]; exact Int64.zero_add _
  · rw [if_neg e, upd_ne _ _ (fun q => e (nat_inj hk.1 hp.1 q))]; rfl
theorem fB_at (f : Nat → Int64) (ak k : Int32) (ha : R5 ak) (hk : R5 k) : fB f ak k.toNatClampNeg = if k = ak then f k.toNatClampNeg + 1 else f k.toNatClampNeg := by
  unfold fB
  by_cases e : k = ak
  · rw [if_pos e, e, upd_same]
  · rw [if_neg e, upd_ne _ _ (fun q => e (nat_inj hk.1 ha.1 q))]
theorem eq_0_0 (pk ak bk k : Int32) (n : Int64) (hp : R5 pk) (ha : R5 ak) (hb : R5 bk) (hk : R5 k) : (fB zeroC ak) k.toNatClampNeg = e1 k pk n ak bk 0 0 := by
  have z0 : ((0 : Int32) = 0) = True := by simp
  have z1 : ((1 : Int32) = 0) = False := by decide
  unfold e1 e2 e3
  simp only [z0, z1, if_true, if_false, fB_at _ ak k ha hk]
  have zz : zeroC k.toNatClampNeg = 0 := rfl
  by_cases c1 : k = ak <;> by_cases c2 : k = bk <;> by_cases c3 : k = pk <;> simp [c1, c2, c3, zz] <;> simp_all
theorem eq_0_1 (pk ak bk k : Int32) (n : Int64) (hp : R5 pk) (ha : R5 ak) (hb : R5 bk) (hk : R5 k) : (fB (fB zeroC ak) bk) k.toNatClampNeg = e1 k pk n ak bk 0 1 := by
  have z0 : ((0 : Int32) = 0) = True := by simp
  have z1 : ((1 : Int32) = 0) = False := by decide
  unfold e1 e2 e3
  simp only [z0, z1, if_true, if_false, fB_at _ bk k hb hk, fB_at _ ak k ha hk]
  have zz : zeroC k.toNatClampNeg = 0 := rfl
  by_cases c1 : k = ak <;> by_cases c2 : k = bk <;> by_cases c3 : k = pk <;> simp [c1, c2, c3, zz] <;> simp_all
theorem eq_1_0 (pk ak bk k : Int32) (n : Int64) (hp : R5 pk) (ha : R5 ak) (hb : R5 bk) (hk : R5 k) : (fB (fA pk n) ak) k.toNatClampNeg = e1 k pk n ak bk 1 0 := by
  have z0 : ((0 : Int32) = 0) = True := by simp
  have z1 : ((1 : Int32) = 0) = False := by decide
  unfold e1 e2 e3
  simp only [z0, z1, if_true, if_false, fB_at _ ak k ha hk, fA_at pk k hp hk]
  have zz : zeroC k.toNatClampNeg = 0 := rfl
  by_cases c1 : k = ak <;> by_cases c2 : k = bk <;> by_cases c3 : k = pk <;> simp [c1, c2, c3, zz] <;> simp_all
theorem eq_1_1 (pk ak bk k : Int32) (n : Int64) (hp : R5 pk) (ha : R5 ak) (hb : R5 bk) (hk : R5 k) : (fB (fB (fA pk n) ak) bk) k.toNatClampNeg = e1 k pk n ak bk 1 1 := by
  have z0 : ((0 : Int32) = 0) = True := by simp
  have z1 : ((1 : Int32) = 0) = False := by decide
  unfold e1 e2 e3
  simp only [z0, z1, if_true, if_false, fB_at _ bk k hb hk, fB_at _ ak k ha hk, fA_at pk k hp hk]
  have zz : zeroC k.toNatClampNeg = 0 := rfl
  by_cases c1 : k = ak <;> by_cases c2 : k = bk <;> by_cases c3 : k = pk <;> simp [c1, c2, c3, zz] <;> simp_all
set_option maxRecDepth 65536 in
set_option maxHeartbeats 40000000 in
theorem j53_0_0 (l : Launch) (Z : State) (a0 : Array Value) (hw : Hw a0 Z) (n0 : Nat) (h : Heap) (O : Old Z n0 h) (p a b fl pk ak bk : Int32) (n : Int64) (hp : R5 pk) (ha : R5 ak) (hb : R5 bk) (a_VALUES a_SCAN a_FETCH a_FILTER a_COUNT a_PROJECT : Addr) (k_VALUES : ClassId) (vs_VALUES : List Value) (F : Facts Z a_VALUES a_SCAN a_FETCH a_FILTER a_COUNT a_PROJECT k_VALUES vs_VALUES) :
    Go l Z x code maxLocals ret room_1 n0 (fun v _ => v = some (.int 1)) h 0 0 53 #[.val (.int p), .val (.long n), .second, .val (.int a), .val (.int b), .val (.int fl), .val (.int pk), .val (.int ak), .val (.int bk), .val (.int (0 : Int32)), .val (.int (0 : Int32)), .unset] [] := by
  refine Go.new at_53 (q := 56) rfl (w1 hw) (w2 hw) (w3 hw) (by decide) (by decide) ?_
  intro h1 o e1 X1 E1 D1
  have no : n0 ≤ o := by rw [e1]; exact O.1 ▸ O.2.1
  refine Go.dup at_56 (q := 57) rfl rfl ?_
  refine Go.callIN (P := fun h' => IC Z h' n0 o zeroC) (argsL := []) (rest := [(.ref o)]) (wd := 1) (Ls1 := #[.val (.ref o)]) at_57 (q := 60) rfl rfl (w4 hw) (w5 hw) (w3 hw) (w6 hw) (by decide) pn1 pd1 rfl rfl (fun m => by simp [entryFrame, mkF, argsToLocals, Value.category]) rfl (by decide) rfl (by decide) (by decide) (by decide) (ic_init l Z a0 hw n0 h1 (O.ext X1) o no E1 (D1 (Or.inr (w33 hw)) pT2) a_VALUES a_SCAN a_FETCH a_FILTER a_COUNT a_PROJECT k_VALUES vs_VALUES F (Q := RN (fun h' => IC Z h' n0 o zeroC)) (fun h' q => ⟨rfl, q⟩)) ?_
  intro h2 S2
  refine Go.astore at_60 (q := 62) rfl rfl (Ls' := #[.val (.int p), .val (.long n), .second, .val (.int a), .val (.int b), .val (.int fl), .val (.int pk), .val (.int ak), .val (.int bk), .val (.int (0 : Int32)), .val (.int (0 : Int32)), .val (.ref o)]) rfl ?_
  refine Go.iload at_62 (q := 64) rfl rfl ?_
  refine Go.if_eq at_64 (q := 78) (q' := 67) (by decide) rfl rfl (fun _ => ?_) (fun c => absurd (by decide) c)
  refine Go.aload at_78 (q := 80) rfl rfl rfl ?_
  refine Go.iload at_80 (q := 82) rfl rfl ?_
  refine Go.callSV (P := fun w h' => w = .ref (opA a_SCAN a_FETCH a_FILTER a_COUNT a_PROJECT ak) ∧ h2 = h') (argsL := [(.int ak)]) (rest := [(.ref o)]) (wd := 1) (Ls1 := #[.val (.int ak)]) at_82 (q := 85) rfl (w34 hw) (w35 hw) (w36 hw) (w37 hw) (by decide) pn4 pd4 rfl rfl (fun m => by simp [entryFrame, mkF, argsToLocals, Value.category]) rfl (by decide) rfl (by decide) (by decide) (by decide) (opG l Z a0 hw n0 h2 S2.old ak a_VALUES a_SCAN a_FETCH a_FILTER a_COUNT a_PROJECT k_VALUES vs_VALUES F (Q := RV (fun w h' => w = .ref (opA a_SCAN a_FETCH a_FILTER a_COUNT a_PROJECT ak) ∧ h2 = h')) ⟨_, rfl, rfl, rfl⟩) ?_
  rintro _ _ ⟨rfl, rfl⟩
  refine Go.callVN (P := fun h' => IC Z h' n0 o (fB zeroC ak)) (argsL := [(.ref (opA a_SCAN a_FETCH a_FILTER a_COUNT a_PROJECT ak))]) (rest := []) (wd := 0) (Ls1 := #[.val (.ref o), .val (.ref (opA a_SCAN a_FETCH a_FILTER a_COUNT a_PROJECT ak))]) at_85 (q := 88) rfl (w54 hw) (w55 hw) (w57 hw) (w56 hw) (w58 hw) (w3 hw) (by decide) pn7 pd7 rfl rfl S2.exa (fun m => by simp [entryFrame, mkF, argsToLocals, Value.category]) rfl (by decide) rfl (by decide) (by decide) (by decide) (ic_on1 l Z a0 hw n0 h2 o (opA a_SCAN a_FETCH a_FILTER a_COUNT a_PROJECT ak) ak (F.opk ha) S2 (Q := RN (fun h' => IC Z h' n0 o (fB zeroC ak))) (fun h' q => ⟨rfl, q⟩)) ?_
  intro h3 S3
  refine Go.iload at_88 (q := 90) rfl rfl ?_
  refine Go.if_eq at_90 (q := 103) (q' := 93) (by decide) rfl rfl (fun _ => ?_) (fun c => absurd (by decide) c)
  refine Go.aload at_103 (q := 105) rfl rfl rfl ?_
  refine Go.iconst at_105 (q := 106) rfl (x := (0 : Int32)) (by decide) ?_
  refine Go.iload at_106 (q := 108) rfl rfl ?_
  refine Go.lloadN at_108 (q := 109) rfl rfl ?_
  refine Go.iload at_109 (q := 111) rfl rfl ?_
  refine Go.iload at_111 (q := 113) rfl rfl ?_
  refine Go.iload at_113 (q := 115) rfl rfl ?_
  refine Go.iload at_115 (q := 117) rfl rfl ?_
  refine Go.callSV (P := fun w h' => w = .int 1 ∧ h3 = h') (argsL := [(.ref o), (.int (0 : Int32)), (.int pk), (.long n), (.int ak), (.int bk), (.int (0 : Int32)), (.int (0 : Int32))]) (rest := []) (wd := 0) (Ls1 := #[.val (.ref o), .val (.int (0 : Int32)), .val (.int pk), .val (.long n), .second, .val (.int ak), .val (.int bk), .val (.int (0 : Int32)), .val (.int (0 : Int32)), .unset, .unset]) at_117 (q := 120) rfl (w59 hw) (w60 hw) (w36 hw) (w61 hw) (by decide) pn8 pd8 rfl rfl (fun m => by simp [entryFrame, mkF, argsToLocals, Value.category]) rfl (by decide) rfl (by decide) (by decide) (by decide) (okG l Z a0 hw n0 h3 o (0 : Int32) pk n ak bk 0 0 r5_0 S3 a_VALUES a_SCAN a_FETCH a_FILTER a_COUNT a_PROJECT k_VALUES vs_VALUES F (Q := RV (fun w h' => w = .int 1 ∧ h3 = h')) ⟨_, rfl, rfl, rfl⟩ (eq_0_0 pk ak bk 0 n hp ha hb r5_0)) ?_
  rintro _ _ ⟨rfl, rfl⟩
  refine Go.if_eq at_120 (q := 207) (q' := 123) (by decide) rfl rfl (fun c => absurd c (by decide)) (fun _ => ?_)
  refine Go.aload at_123 (q := 125) rfl rfl rfl ?_
  refine Go.iconst at_125 (q := 126) rfl (x := (1 : Int32)) (by decide) ?_
  refine Go.iload at_126 (q := 128) rfl rfl ?_
  refine Go.lloadN at_128 (q := 129) rfl rfl ?_
  refine Go.iload at_129 (q := 131) rfl rfl ?_
  refine Go.iload at_131 (q := 133) rfl rfl ?_
  refine Go.iload at_133 (q := 135) rfl rfl ?_
  refine Go.iload at_135 (q := 137) rfl rfl ?_
  refine Go.callSV (P := fun w h' => w = .int 1 ∧ h3 = h') (argsL := [(.ref o), (.int (1 : Int32)), (.int pk), (.long n), (.int ak), (.int bk), (.int (0 : Int32)), (.int (0 : Int32))]) (rest := []) (wd := 0) (Ls1 := #[.val (.ref o), .val (.int (1 : Int32)), .val (.int pk), .val (.long n), .second, .val (.int ak), .val (.int bk), .val (.int (0 : Int32)), .val (.int (0 : Int32)), .unset, .unset]) at_137 (q := 140) rfl (w59 hw) (w60 hw) (w36 hw) (w61 hw) (by decide) pn8 pd8 rfl rfl (fun m => by simp [entryFrame, mkF, argsToLocals, Value.category]) rfl (by decide) rfl (by decide) (by decide) (by decide) (okG l Z a0 hw n0 h3 o (1 : Int32) pk n ak bk 0 0 r5_1 S3 a_VALUES a_SCAN a_FETCH a_FILTER a_COUNT a_PROJECT k_VALUES vs_VALUES F (Q := RV (fun w h' => w = .int 1 ∧ h3 = h')) ⟨_, rfl, rfl, rfl⟩ (eq_0_0 pk ak bk 1 n hp ha hb r5_1)) ?_
  rintro _ _ ⟨rfl, rfl⟩
  refine Go.if_eq at_140 (q := 207) (q' := 143) (by decide) rfl rfl (fun c => absurd c (by decide)) (fun _ => ?_)
  refine Go.aload at_143 (q := 145) rfl rfl rfl ?_
  refine Go.iconst at_145 (q := 146) rfl (x := (2 : Int32)) (by decide) ?_
  refine Go.iload at_146 (q := 148) rfl rfl ?_
  refine Go.lloadN at_148 (q := 149) rfl rfl ?_
  refine Go.iload at_149 (q := 151) rfl rfl ?_
  refine Go.iload at_151 (q := 153) rfl rfl ?_
  refine Go.iload at_153 (q := 155) rfl rfl ?_
  refine Go.iload at_155 (q := 157) rfl rfl ?_
  refine Go.callSV (P := fun w h' => w = .int 1 ∧ h3 = h') (argsL := [(.ref o), (.int (2 : Int32)), (.int pk), (.long n), (.int ak), (.int bk), (.int (0 : Int32)), (.int (0 : Int32))]) (rest := []) (wd := 0) (Ls1 := #[.val (.ref o), .val (.int (2 : Int32)), .val (.int pk), .val (.long n), .second, .val (.int ak), .val (.int bk), .val (.int (0 : Int32)), .val (.int (0 : Int32)), .unset, .unset]) at_157 (q := 160) rfl (w59 hw) (w60 hw) (w36 hw) (w61 hw) (by decide) pn8 pd8 rfl rfl (fun m => by simp [entryFrame, mkF, argsToLocals, Value.category]) rfl (by decide) rfl (by decide) (by decide) (by decide) (okG l Z a0 hw n0 h3 o (2 : Int32) pk n ak bk 0 0 r5_2 S3 a_VALUES a_SCAN a_FETCH a_FILTER a_COUNT a_PROJECT k_VALUES vs_VALUES F (Q := RV (fun w h' => w = .int 1 ∧ h3 = h')) ⟨_, rfl, rfl, rfl⟩ (eq_0_0 pk ak bk 2 n hp ha hb r5_2)) ?_
  rintro _ _ ⟨rfl, rfl⟩
  refine Go.if_eq at_160 (q := 207) (q' := 163) (by decide) rfl rfl (fun c => absurd c (by decide)) (fun _ => ?_)
  refine Go.aload at_163 (q := 165) rfl rfl rfl ?_
  refine Go.iconst at_165 (q := 166) rfl (x := (3 : Int32)) (by decide) ?_
  refine Go.iload at_166 (q := 168) rfl rfl ?_
  refine Go.lloadN at_168 (q := 169) rfl rfl ?_
  refine Go.iload at_169 (q := 171) rfl rfl ?_
  refine Go.iload at_171 (q := 173) rfl rfl ?_
  refine Go.iload at_173 (q := 175) rfl rfl ?_
  refine Go.iload at_175 (q := 177) rfl rfl ?_
  refine Go.callSV (P := fun w h' => w = .int 1 ∧ h3 = h') (argsL := [(.ref o), (.int (3 : Int32)), (.int pk), (.long n), (.int ak), (.int bk), (.int (0 : Int32)), (.int (0 : Int32))]) (rest := []) (wd := 0) (Ls1 := #[.val (.ref o), .val (.int (3 : Int32)), .val (.int pk), .val (.long n), .second, .val (.int ak), .val (.int bk), .val (.int (0 : Int32)), .val (.int (0 : Int32)), .unset, .unset]) at_177 (q := 180) rfl (w59 hw) (w60 hw) (w36 hw) (w61 hw) (by decide) pn8 pd8 rfl rfl (fun m => by simp [entryFrame, mkF, argsToLocals, Value.category]) rfl (by decide) rfl (by decide) (by decide) (by decide) (okG l Z a0 hw n0 h3 o (3 : Int32) pk n ak bk 0 0 r5_3 S3 a_VALUES a_SCAN a_FETCH a_FILTER a_COUNT a_PROJECT k_VALUES vs_VALUES F (Q := RV (fun w h' => w = .int 1 ∧ h3 = h')) ⟨_, rfl, rfl, rfl⟩ (eq_0_0 pk ak bk 3 n hp ha hb r5_3)) ?_
  rintro _ _ ⟨rfl, rfl⟩
  refine Go.if_eq at_180 (q := 207) (q' := 183) (by decide) rfl rfl (fun c => absurd c (by decide)) (fun _ => ?_)
  refine Go.aload at_183 (q := 185) rfl rfl rfl ?_
  refine Go.iconst at_185 (q := 186) rfl (x := (4 : Int32)) (by decide) ?_
  refine Go.iload at_186 (q := 188) rfl rfl ?_
  refine Go.lloadN at_188 (q := 189) rfl rfl ?_
  refine Go.iload at_189 (q := 191) rfl rfl ?_
  refine Go.iload at_191 (q := 193) rfl rfl ?_
  refine Go.iload at_193 (q := 195) rfl rfl ?_
  refine Go.iload at_195 (q := 197) rfl rfl ?_
  refine Go.callSV (P := fun w h' => w = .int 1 ∧ h3 = h') (argsL := [(.ref o), (.int (4 : Int32)), (.int pk), (.long n), (.int ak), (.int bk), (.int (0 : Int32)), (.int (0 : Int32))]) (rest := []) (wd := 0) (Ls1 := #[.val (.ref o), .val (.int (4 : Int32)), .val (.int pk), .val (.long n), .second, .val (.int ak), .val (.int bk), .val (.int (0 : Int32)), .val (.int (0 : Int32)), .unset, .unset]) at_197 (q := 200) rfl (w59 hw) (w60 hw) (w36 hw) (w61 hw) (by decide) pn8 pd8 rfl rfl (fun m => by simp [entryFrame, mkF, argsToLocals, Value.category]) rfl (by decide) rfl (by decide) (by decide) (by decide) (okG l Z a0 hw n0 h3 o (4 : Int32) pk n ak bk 0 0 r5_4 S3 a_VALUES a_SCAN a_FETCH a_FILTER a_COUNT a_PROJECT k_VALUES vs_VALUES F (Q := RV (fun w h' => w = .int 1 ∧ h3 = h')) ⟨_, rfl, rfl, rfl⟩ (eq_0_0 pk ak bk 4 n hp ha hb r5_4)) ?_
  rintro _ _ ⟨rfl, rfl⟩
  refine Go.if_eq at_200 (q := 207) (q' := 203) (by decide) rfl rfl (fun c => absurd c (by decide)) (fun _ => ?_)
  refine Go.iconst at_203 (q := 204) rfl (x := (1 : Int32)) (by decide) ?_
  refine Go.goto at_204 (q := 208) (by decide) rfl ?_
  refine Go.zreturn at_208 (by decide) (by decide) (by decide) ?_
  rfl
set_option maxRecDepth 65536 in
set_option maxHeartbeats 40000000 in
theorem j53_0_1 (l : Launch) (Z : State) (a0 : Array Value) (hw : Hw a0 Z) (n0 : Nat) (h : Heap) (O : Old Z n0 h) (p a b fl pk ak bk : Int32) (n : Int64) (hp : R5 pk) (ha : R5 ak) (hb : R5 bk) (a_VALUES a_SCAN a_FETCH a_FILTER a_COUNT a_PROJECT : Addr) (k_VALUES : ClassId) (vs_VALUES : List Value) (F : Facts Z a_VALUES a_SCAN a_FETCH a_FILTER a_COUNT a_PROJECT k_VALUES vs_VALUES) :
    Go l Z x code maxLocals ret room_1 n0 (fun v _ => v = some (.int 1)) h 0 0 53 #[.val (.int p), .val (.long n), .second, .val (.int a), .val (.int b), .val (.int fl), .val (.int pk), .val (.int ak), .val (.int bk), .val (.int (0 : Int32)), .val (.int (1 : Int32)), .unset] [] := by
  refine Go.new at_53 (q := 56) rfl (w1 hw) (w2 hw) (w3 hw) (by decide) (by decide) ?_
  intro h1 o e1 X1 E1 D1
  have no : n0 ≤ o := by rw [e1]; exact O.1 ▸ O.2.1
  refine Go.dup at_56 (q := 57) rfl rfl ?_
  refine Go.callIN (P := fun h' => IC Z h' n0 o zeroC) (argsL := []) (rest := [(.ref o)]) (wd := 1) (Ls1 := #[.val (.ref o)]) at_57 (q := 60) rfl rfl (w4 hw) (w5 hw) (w3 hw) (w6 hw) (by decide) pn1 pd1 rfl rfl (fun m => by simp [entryFrame, mkF, argsToLocals, Value.category]) rfl (by decide) rfl (by decide) (by decide) (by decide) (ic_init l Z a0 hw n0 h1 (O.ext X1) o no E1 (D1 (Or.inr (w33 hw)) pT2) a_VALUES a_SCAN a_FETCH a_FILTER a_COUNT a_PROJECT k_VALUES vs_VALUES F (Q := RN (fun h' => IC Z h' n0 o zeroC)) (fun h' q => ⟨rfl, q⟩)) ?_
  intro h2 S2
  refine Go.astore at_60 (q := 62) rfl rfl (Ls' := #[.val (.int p), .val (.long n), .second, .val (.int a), .val (.int b), .val (.int fl), .val (.int pk), .val (.int ak), .val (.int bk), .val (.int (0 : Int32)), .val (.int (1 : Int32)), .val (.ref o)]) rfl ?_
  refine Go.iload at_62 (q := 64) rfl rfl ?_
  refine Go.if_eq at_64 (q := 78) (q' := 67) (by decide) rfl rfl (fun _ => ?_) (fun c => absurd (by decide) c)
  refine Go.aload at_78 (q := 80) rfl rfl rfl ?_
  refine Go.iload at_80 (q := 82) rfl rfl ?_
  refine Go.callSV (P := fun w h' => w = .ref (opA a_SCAN a_FETCH a_FILTER a_COUNT a_PROJECT ak) ∧ h2 = h') (argsL := [(.int ak)]) (rest := [(.ref o)]) (wd := 1) (Ls1 := #[.val (.int ak)]) at_82 (q := 85) rfl (w34 hw) (w35 hw) (w36 hw) (w37 hw) (by decide) pn4 pd4 rfl rfl (fun m => by simp [entryFrame, mkF, argsToLocals, Value.category]) rfl (by decide) rfl (by decide) (by decide) (by decide) (opG l Z a0 hw n0 h2 S2.old ak a_VALUES a_SCAN a_FETCH a_FILTER a_COUNT a_PROJECT k_VALUES vs_VALUES F (Q := RV (fun w h' => w = .ref (opA a_SCAN a_FETCH a_FILTER a_COUNT a_PROJECT ak) ∧ h2 = h')) ⟨_, rfl, rfl, rfl⟩) ?_
  rintro _ _ ⟨rfl, rfl⟩
  refine Go.callVN (P := fun h' => IC Z h' n0 o (fB zeroC ak)) (argsL := [(.ref (opA a_SCAN a_FETCH a_FILTER a_COUNT a_PROJECT ak))]) (rest := []) (wd := 0) (Ls1 := #[.val (.ref o), .val (.ref (opA a_SCAN a_FETCH a_FILTER a_COUNT a_PROJECT ak))]) at_85 (q := 88) rfl (w54 hw) (w55 hw) (w57 hw) (w56 hw) (w58 hw) (w3 hw) (by decide) pn7 pd7 rfl rfl S2.exa (fun m => by simp [entryFrame, mkF, argsToLocals, Value.category]) rfl (by decide) rfl (by decide) (by decide) (by decide) (ic_on1 l Z a0 hw n0 h2 o (opA a_SCAN a_FETCH a_FILTER a_COUNT a_PROJECT ak) ak (F.opk ha) S2 (Q := RN (fun h' => IC Z h' n0 o (fB zeroC ak))) (fun h' q => ⟨rfl, q⟩)) ?_
  intro h3 S3
  refine Go.iload at_88 (q := 90) rfl rfl ?_
  refine Go.if_eq at_90 (q := 103) (q' := 93) (by decide) rfl rfl (fun c => absurd c (by decide)) (fun _ => ?_)
  refine Go.aload at_93 (q := 95) rfl rfl rfl ?_
  refine Go.iload at_95 (q := 97) rfl rfl ?_
  refine Go.callSV (P := fun w h' => w = .ref (opA a_SCAN a_FETCH a_FILTER a_COUNT a_PROJECT bk) ∧ h3 = h') (argsL := [(.int bk)]) (rest := [(.ref o)]) (wd := 1) (Ls1 := #[.val (.int bk)]) at_97 (q := 100) rfl (w34 hw) (w35 hw) (w36 hw) (w37 hw) (by decide) pn4 pd4 rfl rfl (fun m => by simp [entryFrame, mkF, argsToLocals, Value.category]) rfl (by decide) rfl (by decide) (by decide) (by decide) (opG l Z a0 hw n0 h3 S3.old bk a_VALUES a_SCAN a_FETCH a_FILTER a_COUNT a_PROJECT k_VALUES vs_VALUES F (Q := RV (fun w h' => w = .ref (opA a_SCAN a_FETCH a_FILTER a_COUNT a_PROJECT bk) ∧ h3 = h')) ⟨_, rfl, rfl, rfl⟩) ?_
  rintro _ _ ⟨rfl, rfl⟩
  refine Go.callVN (P := fun h' => IC Z h' n0 o (fB (fB zeroC ak) bk)) (argsL := [(.ref (opA a_SCAN a_FETCH a_FILTER a_COUNT a_PROJECT bk))]) (rest := []) (wd := 0) (Ls1 := #[.val (.ref o), .val (.ref (opA a_SCAN a_FETCH a_FILTER a_COUNT a_PROJECT bk))]) at_100 (q := 103) rfl (w54 hw) (w55 hw) (w57 hw) (w56 hw) (w58 hw) (w3 hw) (by decide) pn7 pd7 rfl rfl S3.exa (fun m => by simp [entryFrame, mkF, argsToLocals, Value.category]) rfl (by decide) rfl (by decide) (by decide) (by decide) (ic_on1 l Z a0 hw n0 h3 o (opA a_SCAN a_FETCH a_FILTER a_COUNT a_PROJECT bk) bk (F.opk hb) S3 (Q := RN (fun h' => IC Z h' n0 o (fB (fB zeroC ak) bk))) (fun h' q => ⟨rfl, q⟩)) ?_
  intro h4 S4
  refine Go.aload at_103 (q := 105) rfl rfl rfl ?_
  refine Go.iconst at_105 (q := 106) rfl (x := (0 : Int32)) (by decide) ?_
  refine Go.iload at_106 (q := 108) rfl rfl ?_
  refine Go.lloadN at_108 (q := 109) rfl rfl ?_
  refine Go.iload at_109 (q := 111) rfl rfl ?_
  refine Go.iload at_111 (q := 113) rfl rfl ?_
  refine Go.iload at_113 (q := 115) rfl rfl ?_
  refine Go.iload at_115 (q := 117) rfl rfl ?_
  refine Go.callSV (P := fun w h' => w = .int 1 ∧ h4 = h') (argsL := [(.ref o), (.int (0 : Int32)), (.int pk), (.long n), (.int ak), (.int bk), (.int (0 : Int32)), (.int (1 : Int32))]) (rest := []) (wd := 0) (Ls1 := #[.val (.ref o), .val (.int (0 : Int32)), .val (.int pk), .val (.long n), .second, .val (.int ak), .val (.int bk), .val (.int (0 : Int32)), .val (.int (1 : Int32)), .unset, .unset]) at_117 (q := 120) rfl (w59 hw) (w60 hw) (w36 hw) (w61 hw) (by decide) pn8 pd8 rfl rfl (fun m => by simp [entryFrame, mkF, argsToLocals, Value.category]) rfl (by decide) rfl (by decide) (by decide) (by decide) (okG l Z a0 hw n0 h4 o (0 : Int32) pk n ak bk 0 1 r5_0 S4 a_VALUES a_SCAN a_FETCH a_FILTER a_COUNT a_PROJECT k_VALUES vs_VALUES F (Q := RV (fun w h' => w = .int 1 ∧ h4 = h')) ⟨_, rfl, rfl, rfl⟩ (eq_0_1 pk ak bk 0 n hp ha hb r5_0)) ?_
  rintro _ _ ⟨rfl, rfl⟩
  refine Go.if_eq at_120 (q := 207) (q' := 123) (by decide) rfl rfl (fun c => absurd c (by decide)) (fun _ => ?_)
  refine Go.aload at_123 (q := 125) rfl rfl rfl ?_
  refine Go.iconst at_125 (q := 126) rfl (x := (1 : Int32)) (by decide) ?_
  refine Go.iload at_126 (q := 128) rfl rfl ?_
  refine Go.lloadN at_128 (q := 129) rfl rfl ?_
  refine Go.iload at_129 (q := 131) rfl rfl ?_
  refine Go.iload at_131 (q := 133) rfl rfl ?_
  refine Go.iload at_133 (q := 135) rfl rfl ?_
  refine Go.iload at_135 (q := 137) rfl rfl ?_
  refine Go.callSV (P := fun w h' => w = .int 1 ∧ h4 = h') (argsL := [(.ref o), (.int (1 : Int32)), (.int pk), (.long n), (.int ak), (.int bk), (.int (0 : Int32)), (.int (1 : Int32))]) (rest := []) (wd := 0) (Ls1 := #[.val (.ref o), .val (.int (1 : Int32)), .val (.int pk), .val (.long n), .second, .val (.int ak), .val (.int bk), .val (.int (0 : Int32)), .val (.int (1 : Int32)), .unset, .unset]) at_137 (q := 140) rfl (w59 hw) (w60 hw) (w36 hw) (w61 hw) (by decide) pn8 pd8 rfl rfl (fun m => by simp [entryFrame, mkF, argsToLocals, Value.category]) rfl (by decide) rfl (by decide) (by decide) (by decide) (okG l Z a0 hw n0 h4 o (1 : Int32) pk n ak bk 0 1 r5_1 S4 a_VALUES a_SCAN a_FETCH a_FILTER a_COUNT a_PROJECT k_VALUES vs_VALUES F (Q := RV (fun w h' => w = .int 1 ∧ h4 = h')) ⟨_, rfl, rfl, rfl⟩ (eq_0_1 pk ak bk 1 n hp ha hb r5_1)) ?_
  rintro _ _ ⟨rfl, rfl⟩
  refine Go.if_eq at_140 (q := 207) (q' := 143) (by decide) rfl rfl (fun c => absurd c (by decide)) (fun _ => ?_)
  refine Go.aload at_143 (q := 145) rfl rfl rfl ?_
  refine Go.iconst at_145 (q := 146) rfl (x := (2 : Int32)) (by decide) ?_
  refine Go.iload at_146 (q := 148) rfl rfl ?_
  refine Go.lloadN at_148 (q := 149) rfl rfl ?_
  refine Go.iload at_149 (q := 151) rfl rfl ?_
  refine Go.iload at_151 (q := 153) rfl rfl ?_
  refine Go.iload at_153 (q := 155) rfl rfl ?_
  refine Go.iload at_155 (q := 157) rfl rfl ?_
  refine Go.callSV (P := fun w h' => w = .int 1 ∧ h4 = h') (argsL := [(.ref o), (.int (2 : Int32)), (.int pk), (.long n), (.int ak), (.int bk), (.int (0 : Int32)), (.int (1 : Int32))]) (rest := []) (wd := 0) (Ls1 := #[.val (.ref o), .val (.int (2 : Int32)), .val (.int pk), .val (.long n), .second, .val (.int ak), .val (.int bk), .val (.int (0 : Int32)), .val (.int (1 : Int32)), .unset, .unset]) at_157 (q := 160) rfl (w59 hw) (w60 hw) (w36 hw) (w61 hw) (by decide) pn8 pd8 rfl rfl (fun m => by simp [entryFrame, mkF, argsToLocals, Value.category]) rfl (by decide) rfl (by decide) (by decide) (by decide) (okG l Z a0 hw n0 h4 o (2 : Int32) pk n ak bk 0 1 r5_2 S4 a_VALUES a_SCAN a_FETCH a_FILTER a_COUNT a_PROJECT k_VALUES vs_VALUES F (Q := RV (fun w h' => w = .int 1 ∧ h4 = h')) ⟨_, rfl, rfl, rfl⟩ (eq_0_1 pk ak bk 2 n hp ha hb r5_2)) ?_
  rintro _ _ ⟨rfl, rfl⟩
  refine Go.if_eq at_160 (q := 207) (q' := 163) (by decide) rfl rfl (fun c => absurd c (by decide)) (fun _ => ?_)
  refine Go.aload at_163 (q := 165) rfl rfl rfl ?_
  refine Go.iconst at_165 (q := 166) rfl (x := (3 : Int32)) (by decide) ?_
  refine Go.iload at_166 (q := 168) rfl rfl ?_
  refine Go.lloadN at_168 (q := 169) rfl rfl ?_
  refine Go.iload at_169 (q := 171) rfl rfl ?_
  refine Go.iload at_171 (q := 173) rfl rfl ?_
  refine Go.iload at_173 (q := 175) rfl rfl ?_
  refine Go.iload at_175 (q := 177) rfl rfl ?_
  refine Go.callSV (P := fun w h' => w = .int 1 ∧ h4 = h') (argsL := [(.ref o), (.int (3 : Int32)), (.int pk), (.long n), (.int ak), (.int bk), (.int (0 : Int32)), (.int (1 : Int32))]) (rest := []) (wd := 0) (Ls1 := #[.val (.ref o), .val (.int (3 : Int32)), .val (.int pk), .val (.long n), .second, .val (.int ak), .val (.int bk), .val (.int (0 : Int32)), .val (.int (1 : Int32)), .unset, .unset]) at_177 (q := 180) rfl (w59 hw) (w60 hw) (w36 hw) (w61 hw) (by decide) pn8 pd8 rfl rfl (fun m => by simp [entryFrame, mkF, argsToLocals, Value.category]) rfl (by decide) rfl (by decide) (by decide) (by decide) (okG l Z a0 hw n0 h4 o (3 : Int32) pk n ak bk 0 1 r5_3 S4 a_VALUES a_SCAN a_FETCH a_FILTER a_COUNT a_PROJECT k_VALUES vs_VALUES F (Q := RV (fun w h' => w = .int 1 ∧ h4 = h')) ⟨_, rfl, rfl, rfl⟩ (eq_0_1 pk ak bk 3 n hp ha hb r5_3)) ?_
  rintro _ _ ⟨rfl, rfl⟩
  refine Go.if_eq at_180 (q := 207) (q' := 183) (by decide) rfl rfl (fun c => absurd c (by decide)) (fun _ => ?_)
  refine Go.aload at_183 (q := 185) rfl rfl rfl ?_
  refine Go.iconst at_185 (q := 186) rfl (x := (4 : Int32)) (by decide) ?_
  refine Go.iload at_186 (q := 188) rfl rfl ?_
  refine Go.lloadN at_188 (q := 189) rfl rfl ?_
  refine Go.iload at_189 (q := 191) rfl rfl ?_
  refine Go.iload at_191 (q := 193) rfl rfl ?_
  refine Go.iload at_193 (q := 195) rfl rfl ?_
  refine Go.iload at_195 (q := 197) rfl rfl ?_
  refine Go.callSV (P := fun w h' => w = .int 1 ∧ h4 = h') (argsL := [(.ref o), (.int (4 : Int32)), (.int pk), (.long n), (.int ak), (.int bk), (.int (0 : Int32)), (.int (1 : Int32))]) (rest := []) (wd := 0) (Ls1 := #[.val (.ref o), .val (.int (4 : Int32)), .val (.int pk), .val (.long n), .second, .val (.int ak), .val (.int bk), .val (.int (0 : Int32)), .val (.int (1 : Int32)), .unset, .unset]) at_197 (q := 200) rfl (w59 hw) (w60 hw) (w36 hw) (w61 hw) (by decide) pn8 pd8 rfl rfl (fun m => by simp [entryFrame, mkF, argsToLocals, Value.category]) rfl (by decide) rfl (by decide) (by decide) (by decide) (okG l Z a0 hw n0 h4 o (4 : Int32) pk n ak bk 0 1 r5_4 S4 a_VALUES a_SCAN a_FETCH a_FILTER a_COUNT a_PROJECT k_VALUES vs_VALUES F (Q := RV (fun w h' => w = .int 1 ∧ h4 = h')) ⟨_, rfl, rfl, rfl⟩ (eq_0_1 pk ak bk 4 n hp ha hb r5_4)) ?_
  rintro _ _ ⟨rfl, rfl⟩
  refine Go.if_eq at_200 (q := 207) (q' := 203) (by decide) rfl rfl (fun c => absurd c (by decide)) (fun _ => ?_)
  refine Go.iconst at_203 (q := 204) rfl (x := (1 : Int32)) (by decide) ?_
  refine Go.goto at_204 (q := 208) (by decide) rfl ?_
  refine Go.zreturn at_208 (by decide) (by decide) (by decide) ?_
  rfl
set_option maxRecDepth 65536 in
set_option maxHeartbeats 40000000 in
theorem j53_1_0 (l : Launch) (Z : State) (a0 : Array Value) (hw : Hw a0 Z) (n0 : Nat) (h : Heap) (O : Old Z n0 h) (p a b fl pk ak bk : Int32) (n : Int64) (hp : R5 pk) (ha : R5 ak) (hb : R5 bk) (a_VALUES a_SCAN a_FETCH a_FILTER a_COUNT a_PROJECT : Addr) (k_VALUES : ClassId) (vs_VALUES : List Value) (F : Facts Z a_VALUES a_SCAN a_FETCH a_FILTER a_COUNT a_PROJECT k_VALUES vs_VALUES) :
    Go l Z x code maxLocals ret room_1 n0 (fun v _ => v = some (.int 1)) h 0 0 53 #[.val (.int p), .val (.long n), .second, .val (.int a), .val (.int b), .val (.int fl), .val (.int pk), .val (.int ak), .val (.int bk), .val (.int (1 : Int32)), .val (.int (0 : Int32)), .unset] [] := by
  refine Go.new at_53 (q := 56) rfl (w1 hw) (w2 hw) (w3 hw) (by decide) (by decide) ?_
  intro h1 o e1 X1 E1 D1
  have no : n0 ≤ o := by rw [e1]; exact O.1 ▸ O.2.1
  refine Go.dup at_56 (q := 57) rfl rfl ?_
  refine Go.callIN (P := fun h' => IC Z h' n0 o zeroC) (argsL := []) (rest := [(.ref o)]) (wd := 1) (Ls1 := #[.val (.ref o)]) at_57 (q := 60) rfl rfl (w4 hw) (w5 hw) (w3 hw) (w6 hw) (by decide) pn1 pd1 rfl rfl (fun m => by simp [entryFrame, mkF, argsToLocals, Value.category]) rfl (by decide) rfl (by decide) (by decide) (by decide) (ic_init l Z a0 hw n0 h1 (O.ext X1) o no E1 (D1 (Or.inr (w33 hw)) pT2) a_VALUES a_SCAN a_FETCH a_FILTER a_COUNT a_PROJECT k_VALUES vs_VALUES F (Q := RN (fun h' => IC Z h' n0 o zeroC)) (fun h' q => ⟨rfl, q⟩)) ?_
  intro h2 S2
  refine Go.astore at_60 (q := 62) rfl rfl (Ls' := #[.val (.int p), .val (.long n), .second, .val (.int a), .val (.int b), .val (.int fl), .val (.int pk), .val (.int ak), .val (.int bk), .val (.int (1 : Int32)), .val (.int (0 : Int32)), .val (.ref o)]) rfl ?_
  refine Go.iload at_62 (q := 64) rfl rfl ?_
  refine Go.if_eq at_64 (q := 78) (q' := 67) (by decide) rfl rfl (fun c => absurd c (by decide)) (fun _ => ?_)
  refine Go.aload at_67 (q := 69) rfl rfl rfl ?_
  refine Go.iload at_69 (q := 71) rfl rfl ?_
  refine Go.callSV (P := fun w h' => w = .ref (opA a_SCAN a_FETCH a_FILTER a_COUNT a_PROJECT pk) ∧ h2 = h') (argsL := [(.int pk)]) (rest := [(.ref o)]) (wd := 1) (Ls1 := #[.val (.int pk)]) at_71 (q := 74) rfl (w34 hw) (w35 hw) (w36 hw) (w37 hw) (by decide) pn4 pd4 rfl rfl (fun m => by simp [entryFrame, mkF, argsToLocals, Value.category]) rfl (by decide) rfl (by decide) (by decide) (by decide) (opG l Z a0 hw n0 h2 S2.old pk a_VALUES a_SCAN a_FETCH a_FILTER a_COUNT a_PROJECT k_VALUES vs_VALUES F (Q := RV (fun w h' => w = .ref (opA a_SCAN a_FETCH a_FILTER a_COUNT a_PROJECT pk) ∧ h2 = h')) ⟨_, rfl, rfl, rfl⟩) ?_
  rintro _ _ ⟨rfl, rfl⟩
  refine Go.lloadN at_74 (q := 75) rfl rfl ?_
  refine Go.callVN (P := fun h' => IC Z h' n0 o (fA pk n)) (argsL := [(.ref (opA a_SCAN a_FETCH a_FILTER a_COUNT a_PROJECT pk)), (.long n)]) (rest := []) (wd := 0) (Ls1 := #[.val (.ref o), .val (.ref (opA a_SCAN a_FETCH a_FILTER a_COUNT a_PROJECT pk)), .val (.long n), .second]) at_75 (q := 78) rfl (w39 hw) (w40 hw) (w42 hw) (w41 hw) (w43 hw) (w3 hw) (by decide) pn5 pd5 rfl rfl S2.exa (fun m => by simp [entryFrame, mkF, argsToLocals, Value.category]) rfl (by decide) rfl (by decide) (by decide) (by decide) (ic_on l Z a0 hw n0 h2 o (opA a_SCAN a_FETCH a_FILTER a_COUNT a_PROJECT pk) pk (F.opk hp) n S2 (Q := RN (fun h' => IC Z h' n0 o (fA pk n))) (fun h' q => ⟨rfl, q⟩)) ?_
  intro h3 S3
  refine Go.aload at_78 (q := 80) rfl rfl rfl ?_
  refine Go.iload at_80 (q := 82) rfl rfl ?_
  refine Go.callSV (P := fun w h' => w = .ref (opA a_SCAN a_FETCH a_FILTER a_COUNT a_PROJECT ak) ∧ h3 = h') (argsL := [(.int ak)]) (rest := [(.ref o)]) (wd := 1) (Ls1 := #[.val (.int ak)]) at_82 (q := 85) rfl (w34 hw) (w35 hw) (w36 hw) (w37 hw) (by decide) pn4 pd4 rfl rfl (fun m => by simp [entryFrame, mkF, argsToLocals, Value.category]) rfl (by decide) rfl (by decide) (by decide) (by decide) (opG l Z a0 hw n0 h3 S3.old ak a_VALUES a_SCAN a_FETCH a_FILTER a_COUNT a_PROJECT k_VALUES vs_VALUES F (Q := RV (fun w h' => w = .ref (opA a_SCAN a_FETCH a_FILTER a_COUNT a_PROJECT ak) ∧ h3 = h')) ⟨_, rfl, rfl, rfl⟩) ?_
  rintro _ _ ⟨rfl, rfl⟩
  refine Go.callVN (P := fun h' => IC Z h' n0 o (fB (fA pk n) ak)) (argsL := [(.ref (opA a_SCAN a_FETCH a_FILTER a_COUNT a_PROJECT ak))]) (rest := []) (wd := 0) (Ls1 := #[.val (.ref o), .val (.ref (opA a_SCAN a_FETCH a_FILTER a_COUNT a_PROJECT ak))]) at_85 (q := 88) rfl (w54 hw) (w55 hw) (w57 hw) (w56 hw) (w58 hw) (w3 hw) (by decide) pn7 pd7 rfl rfl S3.exa (fun m => by simp [entryFrame, mkF, argsToLocals, Value.category]) rfl (by decide) rfl (by decide) (by decide) (by decide) (ic_on1 l Z a0 hw n0 h3 o (opA a_SCAN a_FETCH a_FILTER a_COUNT a_PROJECT ak) ak (F.opk ha) S3 (Q := RN (fun h' => IC Z h' n0 o (fB (fA pk n) ak))) (fun h' q => ⟨rfl, q⟩)) ?_
  intro h4 S4
  refine Go.iload at_88 (q := 90) rfl rfl ?_
  refine Go.if_eq at_90 (q := 103) (q' := 93) (by decide) rfl rfl (fun _ => ?_) (fun c => absurd (by decide) c)
  refine Go.aload at_103 (q := 105) rfl rfl rfl ?_
  refine Go.iconst at_105 (q := 106) rfl (x := (0 : Int32)) (by decide) ?_
  refine Go.iload at_106 (q := 108) rfl rfl ?_
  refine Go.lloadN at_108 (q := 109) rfl rfl ?_
  refine Go.iload at_109 (q := 111) rfl rfl ?_
  refine Go.iload at_111 (q := 113) rfl rfl ?_
  refine Go.iload at_113 (q := 115) rfl rfl ?_
  refine Go.iload at_115 (q := 117) rfl rfl ?_
  refine Go.callSV (P := fun w h' => w = .int 1 ∧ h4 = h') (argsL := [(.ref o), (.int (0 : Int32)), (.int pk), (.long n), (.int ak), (.int bk), (.int (1 : Int32)), (.int (0 : Int32))]) (rest := []) (wd := 0) (Ls1 := #[.val (.ref o), .val (.int (0 : Int32)), .val (.int pk), .val (.long n), .second, .val (.int ak), .val (.int bk), .val (.int (1 : Int32)), .val (.int (0 : Int32)), .unset, .unset]) at_117 (q := 120) rfl (w59 hw) (w60 hw) (w36 hw) (w61 hw) (by decide) pn8 pd8 rfl rfl (fun m => by simp [entryFrame, mkF, argsToLocals, Value.category]) rfl (by decide) rfl (by decide) (by decide) (by decide) (okG l Z a0 hw n0 h4 o (0 : Int32) pk n ak bk 1 0 r5_0 S4 a_VALUES a_SCAN a_FETCH a_FILTER a_COUNT a_PROJECT k_VALUES vs_VALUES F (Q := RV (fun w h' => w = .int 1 ∧ h4 = h')) ⟨_, rfl, rfl, rfl⟩ (eq_1_0 pk ak bk 0 n hp ha hb r5_0)) ?_
  rintro _ _ ⟨rfl, rfl⟩
  refine Go.if_eq at_120 (q := 207) (q' := 123) (by decide) rfl rfl (fun c => absurd c (by decide)) (fun _ => ?_)
  refine Go.aload at_123 (q := 125) rfl rfl rfl ?_
  refine Go.iconst at_125 (q := 126) rfl (x := (1 : Int32)) (by decide) ?_
  refine Go.iload at_126 (q := 128) rfl rfl ?_
  refine Go.lloadN at_128 (q := 129) rfl rfl ?_
  refine Go.iload at_129 (q := 131) rfl rfl ?_
  refine Go.iload at_131 (q := 133) rfl rfl ?_
  refine Go.iload at_133 (q := 135) rfl rfl ?_
  refine Go.iload at_135 (q := 137) rfl rfl ?_
  refine Go.callSV (P := fun w h' => w = .int 1 ∧ h4 = h') (argsL := [(.ref o), (.int (1 : Int32)), (.int pk), (.long n), (.int ak), (.int bk), (.int (1 : Int32)), (.int (0 : Int32))]) (rest := []) (wd := 0) (Ls1 := #[.val (.ref o), .val (.int (1 : Int32)), .val (.int pk), .val (.long n), .second, .val (.int ak), .val (.int bk), .val (.int (1 : Int32)), .val (.int (0 : Int32)), .unset, .unset]) at_137 (q := 140) rfl (w59 hw) (w60 hw) (w36 hw) (w61 hw) (by decide) pn8 pd8 rfl rfl (fun m => by simp [entryFrame, mkF, argsToLocals, Value.category]) rfl (by decide) rfl (by decide) (by decide) (by decide) (okG l Z a0 hw n0 h4 o (1 : Int32) pk n ak bk 1 0 r5_1 S4 a_VALUES a_SCAN a_FETCH a_FILTER a_COUNT a_PROJECT k_VALUES vs_VALUES F (Q := RV (fun w h' => w = .int 1 ∧ h4 = h')) ⟨_, rfl, rfl, rfl⟩ (eq_1_0 pk ak bk 1 n hp ha hb r5_1)) ?_
  rintro _ _ ⟨rfl, rfl⟩
  refine Go.if_eq at_140 (q := 207) (q' := 143) (by decide) rfl rfl (fun c => absurd c (by decide)) (fun _ => ?_)
  refine Go.aload at_143 (q := 145) rfl rfl rfl ?_
  refine Go.iconst at_145 (q := 146) rfl (x := (2 : Int32)) (by decide) ?_
  refine Go.iload at_146 (q := 148) rfl rfl ?_
  refine Go.lloadN at_148 (q := 149) rfl rfl ?_
  refine Go.iload at_149 (q := 151) rfl rfl ?_
  refine Go.iload at_151 (q := 153) rfl rfl ?_
  refine Go.iload at_153 (q := 155) rfl rfl ?_
  refine Go.iload at_155 (q := 157) rfl rfl ?_
  refine Go.callSV (P := fun w h' => w = .int 1 ∧ h4 = h') (argsL := [(.ref o), (.int (2 : Int32)), (.int pk), (.long n), (.int ak), (.int bk), (.int (1 : Int32)), (.int (0 : Int32))]) (rest := []) (wd := 0) (Ls1 := #[.val (.ref o), .val (.int (2 : Int32)), .val (.int pk), .val (.long n), .second, .val (.int ak), .val (.int bk), .val (.int (1 : Int32)), .val (.int (0 : Int32)), .unset, .unset]) at_157 (q := 160) rfl (w59 hw) (w60 hw) (w36 hw) (w61 hw) (by decide) pn8 pd8 rfl rfl (fun m => by simp [entryFrame, mkF, argsToLocals, Value.category]) rfl (by decide) rfl (by decide) (by decide) (by decide) (okG l Z a0 hw n0 h4 o (2 : Int32) pk n ak bk 1 0 r5_2 S4 a_VALUES a_SCAN a_FETCH a_FILTER a_COUNT a_PROJECT k_VALUES vs_VALUES F (Q := RV (fun w h' => w = .int 1 ∧ h4 = h')) ⟨_, rfl, rfl, rfl⟩ (eq_1_0 pk ak bk 2 n hp ha hb r5_2)) ?_
  rintro _ _ ⟨rfl, rfl⟩
  refine Go.if_eq at_160 (q := 207) (q' := 163) (by decide) rfl rfl (fun c => absurd c (by decide)) (fun _ => ?_)
  refine Go.aload at_163 (q := 165) rfl rfl rfl ?_
  refine Go.iconst at_165 (q := 166) rfl (x := (3 : Int32)) (by decide) ?_
  refine Go.iload at_166 (q := 168) rfl rfl ?_
  refine Go.lloadN at_168 (q := 169) rfl rfl ?_
  refine Go.iload at_169 (q := 171) rfl rfl ?_
  refine Go.iload at_171 (q := 173) rfl rfl ?_
  refine Go.iload at_173 (q := 175) rfl rfl ?_
  refine Go.iload at_175 (q := 177) rfl rfl ?_
  refine Go.callSV (P := fun w h' => w = .int 1 ∧ h4 = h') (argsL := [(.ref o), (.int (3 : Int32)), (.int pk), (.long n), (.int ak), (.int bk), (.int (1 : Int32)), (.int (0 : Int32))]) (rest := []) (wd := 0) (Ls1 := #[.val (.ref o), .val (.int (3 : Int32)), .val (.int pk), .val (.long n), .second, .val (.int ak), .val (.int bk), .val (.int (1 : Int32)), .val (.int (0 : Int32)), .unset, .unset]) at_177 (q := 180) rfl (w59 hw) (w60 hw) (w36 hw) (w61 hw) (by decide) pn8 pd8 rfl rfl (fun m => by simp [entryFrame, mkF, argsToLocals, Value.category]) rfl (by decide) rfl (by decide) (by decide) (by decide) (okG l Z a0 hw n0 h4 o (3 : Int32) pk n ak bk 1 0 r5_3 S4 a_VALUES a_SCAN a_FETCH a_FILTER a_COUNT a_PROJECT k_VALUES vs_VALUES F (Q := RV (fun w h' => w = .int 1 ∧ h4 = h')) ⟨_, rfl, rfl, rfl⟩ (eq_1_0 pk ak bk 3 n hp ha hb r5_3)) ?_
  rintro _ _ ⟨rfl, rfl⟩
  refine Go.if_eq at_180 (q := 207) (q' := 183) (by decide) rfl rfl (fun c => absurd c (by decide)) (fun _ => ?_)
  refine Go.aload at_183 (q := 185) rfl rfl rfl ?_
  refine Go.iconst at_185 (q := 186) rfl (x := (4 : Int32)) (by decide) ?_
  refine Go.iload at_186 (q := 188) rfl rfl ?_
  refine Go.lloadN at_188 (q := 189) rfl rfl ?_
  refine Go.iload at_189 (q := 191) rfl rfl ?_
  refine Go.iload at_191 (q := 193) rfl rfl ?_
  refine Go.iload at_193 (q := 195) rfl rfl ?_
  refine Go.iload at_195 (q := 197) rfl rfl ?_
  refine Go.callSV (P := fun w h' => w = .int 1 ∧ h4 = h') (argsL := [(.ref o), (.int (4 : Int32)), (.int pk), (.long n), (.int ak), (.int bk), (.int (1 : Int32)), (.int (0 : Int32))]) (rest := []) (wd := 0) (Ls1 := #[.val (.ref o), .val (.int (4 : Int32)), .val (.int pk), .val (.long n), .second, .val (.int ak), .val (.int bk), .val (.int (1 : Int32)), .val (.int (0 : Int32)), .unset, .unset]) at_197 (q := 200) rfl (w59 hw) (w60 hw) (w36 hw) (w61 hw) (by decide) pn8 pd8 rfl rfl (fun m => by simp [entryFrame, mkF, argsToLocals, Value.category]) rfl (by decide) rfl (by decide) (by decide) (by decide) (okG l Z a0 hw n0 h4 o (4 : Int32) pk n ak bk 1 0 r5_4 S4 a_VALUES a_SCAN a_FETCH a_FILTER a_COUNT a_PROJECT k_VALUES vs_VALUES F (Q := RV (fun w h' => w = .int 1 ∧ h4 = h')) ⟨_, rfl, rfl, rfl⟩ (eq_1_0 pk ak bk 4 n hp ha hb r5_4)) ?_
  rintro _ _ ⟨rfl, rfl⟩
  refine Go.if_eq at_200 (q := 207) (q' := 203) (by decide) rfl rfl (fun c => absurd c (by decide)) (fun _ => ?_)
  refine Go.iconst at_203 (q := 204) rfl (x := (1 : Int32)) (by decide) ?_
  refine Go.goto at_204 (q := 208) (by decide) rfl ?_
  refine Go.zreturn at_208 (by decide) (by decide) (by decide) ?_
  rfl
set_option maxRecDepth 65536 in
set_option maxHeartbeats 40000000 in
theorem j53_1_1 (l : Launch) (Z : State) (a0 : Array Value) (hw : Hw a0 Z) (n0 : Nat) (h : Heap) (O : Old Z n0 h) (p a b fl pk ak bk : Int32) (n : Int64) (hp : R5 pk) (ha : R5 ak) (hb : R5 bk) (a_VALUES a_SCAN a_FETCH a_FILTER a_COUNT a_PROJECT : Addr) (k_VALUES : ClassId) (vs_VALUES : List Value) (F : Facts Z a_VALUES a_SCAN a_FETCH a_FILTER a_COUNT a_PROJECT k_VALUES vs_VALUES) :
    Go l Z x code maxLocals ret room_1 n0 (fun v _ => v = some (.int 1)) h 0 0 53 #[.val (.int p), .val (.long n), .second, .val (.int a), .val (.int b), .val (.int fl), .val (.int pk), .val (.int ak), .val (.int bk), .val (.int (1 : Int32)), .val (.int (1 : Int32)), .unset] [] := by
  refine Go.new at_53 (q := 56) rfl (w1 hw) (w2 hw) (w3 hw) (by decide) (by decide) ?_
  intro h1 o e1 X1 E1 D1
  have no : n0 ≤ o := by rw [e1]; exact O.1 ▸ O.2.1
  refine Go.dup at_56 (q := 57) rfl rfl ?_
  refine Go.callIN (P := fun h' => IC Z h' n0 o zeroC) (argsL := []) (rest := [(.ref o)]) (wd := 1) (Ls1 := #[.val (.ref o)]) at_57 (q := 60) rfl rfl (w4 hw) (w5 hw) (w3 hw) (w6 hw) (by decide) pn1 pd1 rfl rfl (fun m => by simp [entryFrame, mkF, argsToLocals, Value.category]) rfl (by decide) rfl (by decide) (by decide) (by decide) (ic_init l Z a0 hw n0 h1 (O.ext X1) o no E1 (D1 (Or.inr (w33 hw)) pT2) a_VALUES a_SCAN a_FETCH a_FILTER a_COUNT a_PROJECT k_VALUES vs_VALUES F (Q := RN (fun h' => IC Z h' n0 o zeroC)) (fun h' q => ⟨rfl, q⟩)) ?_
  intro h2 S2
  refine Go.astore at_60 (q := 62) rfl rfl (Ls' := #[.val (.int p), .val (.long n), .second, .val (.int a), .val (.int b), .val (.int fl), .val (.int pk), .val (.int ak), .val (.int bk), .val (.int (1 : Int32)), .val (.int (1 : Int32)), .val (.ref o)]) rfl ?_
  refine Go.iload at_62 (q := 64) rfl rfl ?_
  refine Go.if_eq at_64 (q := 78) (q' := 67) (by decide) rfl rfl (fun c => absurd c (by decide)) (fun _ => ?_)
  refine Go.aload at_67 (q := 69) rfl rfl rfl ?_
  refine Go.iload at_69 (q := 71) rfl rfl ?_
  refine Go.callSV (P := fun w h' => w = .ref (opA a_SCAN a_FETCH a_FILTER a_COUNT a_PROJECT pk) ∧ h2 = h') (argsL := [(.int pk)]) (rest := [(.ref o)]) (wd := 1) (Ls1 := #[.val (.int pk)]) at_71 (q := 74) rfl (w34 hw) (w35 hw) (w36 hw) (w37 hw) (by decide) pn4 pd4 rfl rfl (fun m => by simp [entryFrame, mkF, argsToLocals, Value.category]) rfl (by decide) rfl (by decide) (by decide) (by decide) (opG l Z a0 hw n0 h2 S2.old pk a_VALUES a_SCAN a_FETCH a_FILTER a_COUNT a_PROJECT k_VALUES vs_VALUES F (Q := RV (fun w h' => w = .ref (opA a_SCAN a_FETCH a_FILTER a_COUNT a_PROJECT pk) ∧ h2 = h')) ⟨_, rfl, rfl, rfl⟩) ?_
  rintro _ _ ⟨rfl, rfl⟩
  refine Go.lloadN at_74 (q := 75) rfl rfl ?_
  refine Go.callVN (P := fun h' => IC Z h' n0 o (fA pk n)) (argsL := [(.ref (opA a_SCAN a_FETCH a_FILTER a_COUNT a_PROJECT pk)), (.long n)]) (rest := []) (wd := 0) (Ls1 := #[.val (.ref o), .val (.ref (opA a_SCAN a_FETCH a_FILTER a_COUNT a_PROJECT pk)), .val (.long n), .second]) at_75 (q := 78) rfl (w39 hw) (w40 hw) (w42 hw) (w41 hw) (w43 hw) (w3 hw) (by decide) pn5 pd5 rfl rfl S2.exa (fun m => by simp [entryFrame, mkF, argsToLocals, Value.category]) rfl (by decide) rfl (by decide) (by decide) (by decide) (ic_on l Z a0 hw n0 h2 o (opA a_SCAN a_FETCH a_FILTER a_COUNT a_PROJECT pk) pk (F.opk hp) n S2 (Q := RN (fun h' => IC Z h' n0 o (fA pk n))) (fun h' q => ⟨rfl, q⟩)) ?_
  intro h3 S3
  refine Go.aload at_78 (q := 80) rfl rfl rfl ?_
  refine Go.iload at_80 (q := 82) rfl rfl ?_
  refine Go.callSV (P := fun w h' => w = .ref (opA a_SCAN a_FETCH a_FILTER a_COUNT a_PROJECT ak) ∧ h3 = h') (argsL := [(.int ak)]) (rest := [(.ref o)]) (wd := 1) (Ls1 := #[.val (.int ak)]) at_82 (q := 85) rfl (w34 hw) (w35 hw) (w36 hw) (w37 hw) (by decide) pn4 pd4 rfl rfl (fun m => by simp [entryFrame, mkF, argsToLocals, Value.category]) rfl (by decide) rfl (by decide) (by decide) (by decide) (opG l Z a0 hw n0 h3 S3.old ak a_VALUES a_SCAN a_FETCH a_FILTER a_COUNT a_PROJECT k_VALUES vs_VALUES F (Q := RV (fun w h' => w = .ref (opA a_SCAN a_FETCH a_FILTER a_COUNT a_PROJECT ak) ∧ h3 = h')) ⟨_, rfl, rfl, rfl⟩) ?_
  rintro _ _ ⟨rfl, rfl⟩
  refine Go.callVN (P := fun h' => IC Z h' n0 o (fB (fA pk n) ak)) (argsL := [(.ref (opA a_SCAN a_FETCH a_FILTER a_COUNT a_PROJECT ak))]) (rest := []) (wd := 0) (Ls1 := #[.val (.ref o), .val (.ref (opA a_SCAN a_FETCH a_FILTER a_COUNT a_PROJECT ak))]) at_85 (q := 88) rfl (w54 hw) (w55 hw) (w57 hw) (w56 hw) (w58 hw) (w3 hw) (by decide) pn7 pd7 rfl rfl S3.exa (fun m => by simp [entryFrame, mkF, argsToLocals, Value.category]) rfl (by decide) rfl (by decide) (by decide) (by decide) (ic_on1 l Z a0 hw n0 h3 o (opA a_SCAN a_FETCH a_FILTER a_COUNT a_PROJECT ak) ak (F.opk ha) S3 (Q := RN (fun h' => IC Z h' n0 o (fB (fA pk n) ak))) (fun h' q => ⟨rfl, q⟩)) ?_
  intro h4 S4
  refine Go.iload at_88 (q := 90) rfl rfl ?_
  refine Go.if_eq at_90 (q := 103) (q' := 93) (by decide) rfl rfl (fun c => absurd c (by decide)) (fun _ => ?_)
  refine Go.aload at_93 (q := 95) rfl rfl rfl ?_
  refine Go.iload at_95 (q := 97) rfl rfl ?_
  refine Go.callSV (P := fun w h' => w = .ref (opA a_SCAN a_FETCH a_FILTER a_COUNT a_PROJECT bk) ∧ h4 = h') (argsL := [(.int bk)]) (rest := [(.ref o)]) (wd := 1) (Ls1 := #[.val (.int bk)]) at_97 (q := 100) rfl (w34 hw) (w35 hw) (w36 hw) (w37 hw) (by decide) pn4 pd4 rfl rfl (fun m => by simp [entryFrame, mkF, argsToLocals, Value.category]) rfl (by decide) rfl (by decide) (by decide) (by decide) (opG l Z a0 hw n0 h4 S4.old bk a_VALUES a_SCAN a_FETCH a_FILTER a_COUNT a_PROJECT k_VALUES vs_VALUES F (Q := RV (fun w h' => w = .ref (opA a_SCAN a_FETCH a_FILTER a_COUNT a_PROJECT bk) ∧ h4 = h')) ⟨_, rfl, rfl, rfl⟩) ?_
  rintro _ _ ⟨rfl, rfl⟩
  refine Go.callVN (P := fun h' => IC Z h' n0 o (fB (fB (fA pk n) ak) bk)) (argsL := [(.ref (opA a_SCAN a_FETCH a_FILTER a_COUNT a_PROJECT bk))]) (rest := []) (wd := 0) (Ls1 := #[.val (.ref o), .val (.ref (opA a_SCAN a_FETCH a_FILTER a_COUNT a_PROJECT bk))]) at_100 (q := 103) rfl (w54 hw) (w55 hw) (w57 hw) (w56 hw) (w58 hw) (w3 hw) (by decide) pn7 pd7 rfl rfl S4.exa (fun m => by simp [entryFrame, mkF, argsToLocals, Value.category]) rfl (by decide) rfl (by decide) (by decide) (by decide) (ic_on1 l Z a0 hw n0 h4 o (opA a_SCAN a_FETCH a_FILTER a_COUNT a_PROJECT bk) bk (F.opk hb) S4 (Q := RN (fun h' => IC Z h' n0 o (fB (fB (fA pk n) ak) bk))) (fun h' q => ⟨rfl, q⟩)) ?_
  intro h5 S5
  refine Go.aload at_103 (q := 105) rfl rfl rfl ?_
  refine Go.iconst at_105 (q := 106) rfl (x := (0 : Int32)) (by decide) ?_
  refine Go.iload at_106 (q := 108) rfl rfl ?_
  refine Go.lloadN at_108 (q := 109) rfl rfl ?_
  refine Go.iload at_109 (q := 111) rfl rfl ?_
  refine Go.iload at_111 (q := 113) rfl rfl ?_
  refine Go.iload at_113 (q := 115) rfl rfl ?_
  refine Go.iload at_115 (q := 117) rfl rfl ?_
  refine Go.callSV (P := fun w h' => w = .int 1 ∧ h5 = h') (argsL := [(.ref o), (.int (0 : Int32)), (.int pk), (.long n), (.int ak), (.int bk), (.int (1 : Int32)), (.int (1 : Int32))]) (rest := []) (wd := 0) (Ls1 := #[.val (.ref o), .val (.int (0 : Int32)), .val (.int pk), .val (.long n), .second, .val (.int ak), .val (.int bk), .val (.int (1 : Int32)), .val (.int (1 : Int32)), .unset, .unset]) at_117 (q := 120) rfl (w59 hw) (w60 hw) (w36 hw) (w61 hw) (by decide) pn8 pd8 rfl rfl (fun m => by simp [entryFrame, mkF, argsToLocals, Value.category]) rfl (by decide) rfl (by decide) (by decide) (by decide) (okG l Z a0 hw n0 h5 o (0 : Int32) pk n ak bk 1 1 r5_0 S5 a_VALUES a_SCAN a_FETCH a_FILTER a_COUNT a_PROJECT k_VALUES vs_VALUES F (Q := RV (fun w h' => w = .int 1 ∧ h5 = h')) ⟨_, rfl, rfl, rfl⟩ (eq_1_1 pk ak bk 0 n hp ha hb r5_0)) ?_
  rintro _ _ ⟨rfl, rfl⟩
  refine Go.if_eq at_120 (q := 207) (q' := 123) (by decide) rfl rfl (fun c => absurd c (by decide)) (fun _ => ?_)
  refine Go.aload at_123 (q := 125) rfl rfl rfl ?_
  refine Go.iconst at_125 (q := 126) rfl (x := (1 : Int32)) (by decide) ?_
  refine Go.iload at_126 (q := 128) rfl rfl ?_
  refine Go.lloadN at_128 (q := 129) rfl rfl ?_
  refine Go.iload at_129 (q := 131) rfl rfl ?_
  refine Go.iload at_131 (q := 133) rfl rfl ?_
  refine Go.iload at_133 (q := 135) rfl rfl ?_
  refine Go.iload at_135 (q := 137) rfl rfl ?_
  refine Go.callSV (P := fun w h' => w = .int 1 ∧ h5 = h') (argsL := [(.ref o), (.int (1 : Int32)), (.int pk), (.long n), (.int ak), (.int bk), (.int (1 : Int32)), (.int (1 : Int32))]) (rest := []) (wd := 0) (Ls1 := #[.val (.ref o), .val (.int (1 : Int32)), .val (.int pk), .val (.long n), .second, .val (.int ak), .val (.int bk), .val (.int (1 : Int32)), .val (.int (1 : Int32)), .unset, .unset]) at_137 (q := 140) rfl (w59 hw) (w60 hw) (w36 hw) (w61 hw) (by decide) pn8 pd8 rfl rfl (fun m => by simp [entryFrame, mkF, argsToLocals, Value.category]) rfl (by decide) rfl (by decide) (by decide) (by decide) (okG l Z a0 hw n0 h5 o (1 : Int32) pk n ak bk 1 1 r5_1 S5 a_VALUES a_SCAN a_FETCH a_FILTER a_COUNT a_PROJECT k_VALUES vs_VALUES F (Q := RV (fun w h' => w = .int 1 ∧ h5 = h')) ⟨_, rfl, rfl, rfl⟩ (eq_1_1 pk ak bk 1 n hp ha hb r5_1)) ?_
  rintro _ _ ⟨rfl, rfl⟩
  refine Go.if_eq at_140 (q := 207) (q' := 143) (by decide) rfl rfl (fun c => absurd c (by decide)) (fun _ => ?_)
  refine Go.aload at_143 (q := 145) rfl rfl rfl ?_
  refine Go.iconst at_145 (q := 146) rfl (x := (2 : Int32)) (by decide) ?_
  refine Go.iload at_146 (q := 148) rfl rfl ?_
  refine Go.lloadN at_148 (q := 149) rfl rfl ?_
  refine Go.iload at_149 (q := 151) rfl rfl ?_
  refine Go.iload at_151 (q := 153) rfl rfl ?_
  refine Go.iload at_153 (q := 155) rfl rfl ?_
  refine Go.iload at_155 (q := 157) rfl rfl ?_
  refine Go.callSV (P := fun w h' => w = .int 1 ∧ h5 = h') (argsL := [(.ref o), (.int (2 : Int32)), (.int pk), (.long n), (.int ak), (.int bk), (.int (1 : Int32)), (.int (1 : Int32))]) (rest := []) (wd := 0) (Ls1 := #[.val (.ref o), .val (.int (2 : Int32)), .val (.int pk), .val (.long n), .second, .val (.int ak), .val (.int bk), .val (.int (1 : Int32)), .val (.int (1 : Int32)), .unset, .unset]) at_157 (q := 160) rfl (w59 hw) (w60 hw) (w36 hw) (w61 hw) (by decide) pn8 pd8 rfl rfl (fun m => by simp [entryFrame, mkF, argsToLocals, Value.category]) rfl (by decide) rfl (by decide) (by decide) (by decide) (okG l Z a0 hw n0 h5 o (2 : Int32) pk n ak bk 1 1 r5_2 S5 a_VALUES a_SCAN a_FETCH a_FILTER a_COUNT a_PROJECT k_VALUES vs_VALUES F (Q := RV (fun w h' => w = .int 1 ∧ h5 = h')) ⟨_, rfl, rfl, rfl⟩ (eq_1_1 pk ak bk 2 n hp ha hb r5_2)) ?_
  rintro _ _ ⟨rfl, rfl⟩
  refine Go.if_eq at_160 (q := 207) (q' := 163) (by decide) rfl rfl (fun c => absurd c (by decide)) (fun _ => ?_)
  refine Go.aload at_163 (q := 165) rfl rfl rfl ?_
  refine Go.iconst at_165 (q := 166) rfl (x := (3 : Int32)) (by decide) ?_
  refine Go.iload at_166 (q := 168) rfl rfl ?_
  refine Go.lloadN at_168 (q := 169) rfl rfl ?_
  refine Go.iload at_169 (q := 171) rfl rfl ?_
  refine Go.iload at_171 (q := 173) rfl rfl ?_
  refine Go.iload at_173 (q := 175) rfl rfl ?_
  refine Go.iload at_175 (q := 177) rfl rfl ?_
  refine Go.callSV (P := fun w h' => w = .int 1 ∧ h5 = h') (argsL := [(.ref o), (.int (3 : Int32)), (.int pk), (.long n), (.int ak), (.int bk), (.int (1 : Int32)), (.int (1 : Int32))]) (rest := []) (wd := 0) (Ls1 := #[.val (.ref o), .val (.int (3 : Int32)), .val (.int pk), .val (.long n), .second, .val (.int ak), .val (.int bk), .val (.int (1 : Int32)), .val (.int (1 : Int32)), .unset, .unset]) at_177 (q := 180) rfl (w59 hw) (w60 hw) (w36 hw) (w61 hw) (by decide) pn8 pd8 rfl rfl (fun m => by simp [entryFrame, mkF, argsToLocals, Value.category]) rfl (by decide) rfl (by decide) (by decide) (by decide) (okG l Z a0 hw n0 h5 o (3 : Int32) pk n ak bk 1 1 r5_3 S5 a_VALUES a_SCAN a_FETCH a_FILTER a_COUNT a_PROJECT k_VALUES vs_VALUES F (Q := RV (fun w h' => w = .int 1 ∧ h5 = h')) ⟨_, rfl, rfl, rfl⟩ (eq_1_1 pk ak bk 3 n hp ha hb r5_3)) ?_
  rintro _ _ ⟨rfl, rfl⟩
  refine Go.if_eq at_180 (q := 207) (q' := 183) (by decide) rfl rfl (fun c => absurd c (by decide)) (fun _ => ?_)
  refine Go.aload at_183 (q := 185) rfl rfl rfl ?_
  refine Go.iconst at_185 (q := 186) rfl (x := (4 : Int32)) (by decide) ?_
  refine Go.iload at_186 (q := 188) rfl rfl ?_
  refine Go.lloadN at_188 (q := 189) rfl rfl ?_
  refine Go.iload at_189 (q := 191) rfl rfl ?_
  refine Go.iload at_191 (q := 193) rfl rfl ?_
  refine Go.iload at_193 (q := 195) rfl rfl ?_
  refine Go.iload at_195 (q := 197) rfl rfl ?_
  refine Go.callSV (P := fun w h' => w = .int 1 ∧ h5 = h') (argsL := [(.ref o), (.int (4 : Int32)), (.int pk), (.long n), (.int ak), (.int bk), (.int (1 : Int32)), (.int (1 : Int32))]) (rest := []) (wd := 0) (Ls1 := #[.val (.ref o), .val (.int (4 : Int32)), .val (.int pk), .val (.long n), .second, .val (.int ak), .val (.int bk), .val (.int (1 : Int32)), .val (.int (1 : Int32)), .unset, .unset]) at_197 (q := 200) rfl (w59 hw) (w60 hw) (w36 hw) (w61 hw) (by decide) pn8 pd8 rfl rfl (fun m => by simp [entryFrame, mkF, argsToLocals, Value.category]) rfl (by decide) rfl (by decide) (by decide) (by decide) (okG l Z a0 hw n0 h5 o (4 : Int32) pk n ak bk 1 1 r5_4 S5 a_VALUES a_SCAN a_FETCH a_FILTER a_COUNT a_PROJECT k_VALUES vs_VALUES F (Q := RV (fun w h' => w = .int 1 ∧ h5 = h')) ⟨_, rfl, rfl, rfl⟩ (eq_1_1 pk ak bk 4 n hp ha hb r5_4)) ?_
  rintro _ _ ⟨rfl, rfl⟩
  refine Go.if_eq at_200 (q := 207) (q' := 203) (by decide) rfl rfl (fun c => absurd c (by decide)) (fun _ => ?_)
  refine Go.iconst at_203 (q := 204) rfl (x := (1 : Int32)) (by decide) ?_
  refine Go.goto at_204 (q := 208) (by decide) rfl ?_
  refine Go.zreturn at_208 (by decide) (by decide) (by decide) ?_
  rfl
set_option maxRecDepth 65536 in
set_option maxHeartbeats 40000000 in
theorem b0 (l : Launch) (Z : State) (a0 : Array Value) (hw : Hw a0 Z) (n0 : Nat) (h : Heap) (O : Old Z n0 h) (p : Int32) (n : Int64) (a b fl : Int32) (a_VALUES a_SCAN a_FETCH a_FILTER a_COUNT a_PROJECT : Addr) (k_VALUES : ClassId) (vs_VALUES : List Value) (F : Facts Z a_VALUES a_SCAN a_FETCH a_FILTER a_COUNT a_PROJECT k_VALUES vs_VALUES) :
    Go l Z x code maxLocals ret room_1 n0 (fun v _ => v = some (.int 1)) h 0 0 0 #[.val (.int p), .val (.long n), .second, .val (.int a), .val (.int b), .val (.int fl), .unset, .unset, .unset, .unset, .unset, .unset] [] := by
  refine Go.iloadN at_0 (q := 1) rfl rfl ?_
  refine Go.ldc at_1 (q := 3) rfl (v := (2147483647 : Int32)) (w0 hw) ?_
  refine Go.iand at_3 (q := 4) rfl ?_
  refine Go.iconst at_4 (q := 5) rfl (x := (5 : Int32)) (by decide) ?_
  refine Go.irem at_5 (q := 6) rfl (by decide) ?_
  refine Go.istore at_6 (q := 8) rfl (Ls' := #[.val (.int p), .val (.long n), .second, .val (.int a), .val (.int b), .val (.int fl), .val (.int ((p &&& (2147483647 : Int32)) % (5 : Int32))), .unset, .unset, .unset, .unset, .unset]) rfl ?_
  refine Go.iloadN at_8 (q := 9) rfl rfl ?_
  refine Go.ldc at_9 (q := 11) rfl (v := (2147483647 : Int32)) (w0 hw) ?_
  refine Go.iand at_11 (q := 12) rfl ?_
  refine Go.iconst at_12 (q := 13) rfl (x := (5 : Int32)) (by decide) ?_
  refine Go.irem at_13 (q := 14) rfl (by decide) ?_
  refine Go.istore at_14 (q := 16) rfl (Ls' := #[.val (.int p), .val (.long n), .second, .val (.int a), .val (.int b), .val (.int fl), .val (.int ((p &&& (2147483647 : Int32)) % (5 : Int32))), .val (.int ((a &&& (2147483647 : Int32)) % (5 : Int32))), .unset, .unset, .unset, .unset]) rfl ?_
  refine Go.iload at_16 (q := 18) rfl rfl ?_
  refine Go.ldc at_18 (q := 20) rfl (v := (2147483647 : Int32)) (w0 hw) ?_
  refine Go.iand at_20 (q := 21) rfl ?_
  refine Go.iconst at_21 (q := 22) rfl (x := (5 : Int32)) (by decide) ?_
  refine Go.irem at_22 (q := 23) rfl (by decide) ?_
  refine Go.istore at_23 (q := 25) rfl (Ls' := #[.val (.int p), .val (.long n), .second, .val (.int a), .val (.int b), .val (.int fl), .val (.int ((p &&& (2147483647 : Int32)) % (5 : Int32))), .val (.int ((a &&& (2147483647 : Int32)) % (5 : Int32))), .val (.int ((b &&& (2147483647 : Int32)) % (5 : Int32))), .unset, .unset, .unset]) rfl ?_
  refine Go.iload at_25 (q := 27) rfl rfl ?_
  refine Go.iconst at_27 (q := 28) rfl (x := (1 : Int32)) (by decide) ?_
  refine Go.iand at_28 (q := 29) rfl ?_
  refine Go.if_eq at_29 (q := 36) (q' := 32) (by decide) rfl rfl (fun c39 => ?_) (fun c39 => ?_)
  · skip
    refine Go.iconst at_36 (q := 37) rfl (x := (0 : Int32)) (by decide) ?_
    refine Go.istore at_37 (q := 39) rfl (Ls' := #[.val (.int p), .val (.long n), .second, .val (.int a), .val (.int b), .val (.int fl), .val (.int ((p &&& (2147483647 : Int32)) % (5 : Int32))), .val (.int ((a &&& (2147483647 : Int32)) % (5 : Int32))), .val (.int ((b &&& (2147483647 : Int32)) % (5 : Int32))), .val (.int (0 : Int32)), .unset, .unset]) rfl ?_
    refine Go.iload at_39 (q := 41) rfl rfl ?_
    refine Go.iconst at_41 (q := 42) rfl (x := (2 : Int32)) (by decide) ?_
    refine Go.iand at_42 (q := 43) rfl ?_
    refine Go.if_eq at_43 (q := 50) (q' := 46) (by decide) rfl rfl (fun c40 => ?_) (fun c40 => ?_)
    · skip
      refine Go.iconst at_50 (q := 51) rfl (x := (0 : Int32)) (by decide) ?_
      refine Go.istore at_51 (q := 53) rfl (Ls' := #[.val (.int p), .val (.long n), .second, .val (.int a), .val (.int b), .val (.int fl), .val (.int ((p &&& (2147483647 : Int32)) % (5 : Int32))), .val (.int ((a &&& (2147483647 : Int32)) % (5 : Int32))), .val (.int ((b &&& (2147483647 : Int32)) % (5 : Int32))), .val (.int (0 : Int32)), .val (.int (0 : Int32)), .unset]) rfl ?_
      exact j53_0_0 l Z a0 hw n0 h O _ _ _ _ _ _ _ _ (r5_rem _) (r5_rem _) (r5_rem _) a_VALUES a_SCAN a_FETCH a_FILTER a_COUNT a_PROJECT k_VALUES vs_VALUES F
    · skip
      refine Go.iconst at_46 (q := 47) rfl (x := (1 : Int32)) (by decide) ?_
      refine Go.goto at_47 (q := 51) (by decide) rfl ?_
      refine Go.istore at_51 (q := 53) rfl (Ls' := #[.val (.int p), .val (.long n), .second, .val (.int a), .val (.int b), .val (.int fl), .val (.int ((p &&& (2147483647 : Int32)) % (5 : Int32))), .val (.int ((a &&& (2147483647 : Int32)) % (5 : Int32))), .val (.int ((b &&& (2147483647 : Int32)) % (5 : Int32))), .val (.int (0 : Int32)), .val (.int (1 : Int32)), .unset]) rfl ?_
      exact j53_0_1 l Z a0 hw n0 h O _ _ _ _ _ _ _ _ (r5_rem _) (r5_rem _) (r5_rem _) a_VALUES a_SCAN a_FETCH a_FILTER a_COUNT a_PROJECT k_VALUES vs_VALUES F
  · skip
    refine Go.iconst at_32 (q := 33) rfl (x := (1 : Int32)) (by decide) ?_
    refine Go.goto at_33 (q := 37) (by decide) rfl ?_
    refine Go.istore at_37 (q := 39) rfl (Ls' := #[.val (.int p), .val (.long n), .second, .val (.int a), .val (.int b), .val (.int fl), .val (.int ((p &&& (2147483647 : Int32)) % (5 : Int32))), .val (.int ((a &&& (2147483647 : Int32)) % (5 : Int32))), .val (.int ((b &&& (2147483647 : Int32)) % (5 : Int32))), .val (.int (1 : Int32)), .unset, .unset]) rfl ?_
    refine Go.iload at_39 (q := 41) rfl rfl ?_
    refine Go.iconst at_41 (q := 42) rfl (x := (2 : Int32)) (by decide) ?_
    refine Go.iand at_42 (q := 43) rfl ?_
    refine Go.if_eq at_43 (q := 50) (q' := 46) (by decide) rfl rfl (fun c41 => ?_) (fun c41 => ?_)
    · skip
      refine Go.iconst at_50 (q := 51) rfl (x := (0 : Int32)) (by decide) ?_
      refine Go.istore at_51 (q := 53) rfl (Ls' := #[.val (.int p), .val (.long n), .second, .val (.int a), .val (.int b), .val (.int fl), .val (.int ((p &&& (2147483647 : Int32)) % (5 : Int32))), .val (.int ((a &&& (2147483647 : Int32)) % (5 : Int32))), .val (.int ((b &&& (2147483647 : Int32)) % (5 : Int32))), .val (.int (1 : Int32)), .val (.int (0 : Int32)), .unset]) rfl ?_
      exact j53_1_0 l Z a0 hw n0 h O _ _ _ _ _ _ _ _ (r5_rem _) (r5_rem _) (r5_rem _) a_VALUES a_SCAN a_FETCH a_FILTER a_COUNT a_PROJECT k_VALUES vs_VALUES F
    · skip
      refine Go.iconst at_46 (q := 47) rfl (x := (1 : Int32)) (by decide) ?_
      refine Go.goto at_47 (q := 51) (by decide) rfl ?_
      refine Go.istore at_51 (q := 53) rfl (Ls' := #[.val (.int p), .val (.long n), .second, .val (.int a), .val (.int b), .val (.int fl), .val (.int ((p &&& (2147483647 : Int32)) % (5 : Int32))), .val (.int ((a &&& (2147483647 : Int32)) % (5 : Int32))), .val (.int ((b &&& (2147483647 : Int32)) % (5 : Int32))), .val (.int (1 : Int32)), .val (.int (1 : Int32)), .unset]) rfl ?_
      exact j53_1_1 l Z a0 hw n0 h O _ _ _ _ _ _ _ _ (r5_rem _) (r5_rem _) (r5_rem _) a_VALUES a_SCAN a_FETCH a_FILTER a_COUNT a_PROJECT k_VALUES vs_VALUES F
set_option maxRecDepth 65536 in
set_option maxHeartbeats 40000000 in
theorem comes_1 {Post : Tables → Env → Array Value → State → Outcome → State → Prop} (hpost : ∀ tb e args s v u, (limb_1_1.after args s (.returned v) u = true ∧ limb_1_2.after args s (.returned v) u = true ∧ True) → FrameEnd s (.returned v) u (Jvm.fieldLocs frame_1_writes args s ++ Jvm.arrayLocs frame_1_arrays args s ++ Jvm.staticLocs frame_1_statics s) 16 128 → Post tb e args s (.returned v) u) :
    ArmFor flags0 classFile x code maxLocals ret World_1 tables_1 room_1 Calls_1 rest_1 Pre_1 Post := by
  intro l hfl _ _ p e ha hc hk s m args below hf hA hF happ hP
  obtain ⟨hcalls, hrest, hpre⟩ := hP
  obtain ⟨-, -, -, hnamed, -, -, -, hat⟩ := (Spec.applies_iff hf).mp happ
  obtain ⟨hg, hn⟩ := and_e (Jvm.Cond.before_iff.mp (show (Jvm.Cond.and given_1 narrow_1).before args s = true from hpre))
  obtain ⟨g0, hg⟩ := and_e hg
  obtain ⟨g1, hg⟩ := and_e hg
  obtain ⟨g2, hg⟩ := and_e hg
  obtain ⟨g3, hg⟩ := and_e hg
  obtain ⟨g4, hg⟩ := and_e hg
  have g5 := hg
  obtain ⟨v0, v1, v2, v3, v4, rfl⟩ : ∃ v0 v1 v2 v3 v4 : Value, args = #[v0, v1, v2, v3, v4] := by
    have hs : args.size = 5 := by simpa [Jvm.Cond.value, given_1] using g0
    obtain ⟨L⟩ := args
    match L, hs with
    | [v0, v1, v2, v3, v4], _ => exact ⟨v0, v1, v2, v3, v4, rfl⟩
  have hw : Hw _ s := fun d (hd : d ∈ tables_1) => atoms_spec (ws := Jvm.Cond.code x code maxLocals ret :: tables_1) hat d (List.mem_cons_of_mem _ hd)
  have hfit : Fit s := fun {y c} hc i hi => by
    obtain ⟨ha, rfl⟩ := Array.getElem?_eq_some_iff.mp hc
    have q := List.all_eq_true.mp ((Array.all_eq_true_iff_forall_mem.mp hF) _ (Array.getElem_mem ha)) i (List.mem_range.mpr hi)
    simpa [Array.getElem?_eq_getElem hi] using q
  obtain ⟨x0, e0⟩ := is_v g1
  obtain rfl : v0 = (.int x0) := Option.some.inj e0
  obtain ⟨x1, e1⟩ := isL_v g2
  obtain rfl : v1 = (.long x1) := Option.some.inj e1
  obtain ⟨x2, e2⟩ := is_v g3
  obtain rfl : v2 = (.int x2) := Option.some.inj e2
  obtain ⟨x3, e3⟩ := is_v g4
  obtain rfl : v3 = (.int x3) := Option.some.inj e3
  obtain ⟨x4, e4⟩ := is_v g5
  obtain rfl : v4 = (.int x4) := Option.some.inj e4
  obtain ⟨q0, hn⟩ := and_e hn
  obtain ⟨q1, hn⟩ := and_e hn
  obtain ⟨q2, hn⟩ := and_e hn
  obtain ⟨q3, hn⟩ := and_e hn
  obtain ⟨q4, hn⟩ := and_e hn
  obtain ⟨q5, hn⟩ := and_e hn
  obtain ⟨q6, hn⟩ := and_e hn
  obtain ⟨q7, hn⟩ := and_e hn
  obtain ⟨q8, hn⟩ := and_e hn
  obtain ⟨q9, hn⟩ := and_e hn
  obtain ⟨q10, hn⟩ := and_e hn
  obtain ⟨q11, hn⟩ := and_e hn
  obtain ⟨q12, hn⟩ := and_e hn
  obtain ⟨q13, hn⟩ := and_e hn
  obtain ⟨q14, hn⟩ := and_e hn
  obtain ⟨q15, hn⟩ := and_e hn
  obtain ⟨q16, hn⟩ := and_e hn
  have q17 := hn
  obtain ⟨a_VALUES, k_VALUES, vs_VALUES, ev_VALUES, S_VALUES, A_VALUES⟩ := sta_arr q0 (w12 hw) (w15 hw)
  have E_VALUES := Exa.start ev_VALUES q1
  obtain ⟨a_SCAN, ev_SCAN, S_SCAN, E_SCAN⟩ := sta_ref q3 (w12 hw) (w23 hw)
  obtain ⟨a_FETCH, ev_FETCH, S_FETCH, E_FETCH⟩ := sta_ref q5 (w12 hw) (w24 hw)
  obtain ⟨a_FILTER, ev_FILTER, S_FILTER, E_FILTER⟩ := sta_ref q7 (w12 hw) (w25 hw)
  obtain ⟨a_COUNT, ev_COUNT, S_COUNT, E_COUNT⟩ := sta_ref q9 (w12 hw) (w26 hw)
  obtain ⟨a_PROJECT, ev_PROJECT, S_PROJECT, E_PROJECT⟩ := sta_ref q11 (w12 hw) (w27 hw)
  have N_VALUES : vs_VALUES.length = 5 := arr_len ev_VALUES A_VALUES q2
  have V_VALUES_0 : vs_VALUES[0]? = some (.ref a_SCAN) := arr_elemR ev_VALUES A_VALUES q4 ev_SCAN
  have V_VALUES_1 : vs_VALUES[1]? = some (.ref a_FETCH) := arr_elemR ev_VALUES A_VALUES q6 ev_FETCH
  have V_VALUES_2 : vs_VALUES[2]? = some (.ref a_FILTER) := arr_elemR ev_VALUES A_VALUES q8 ev_FILTER
  have V_VALUES_3 : vs_VALUES[3]? = some (.ref a_COUNT) := arr_elemR ev_VALUES A_VALUES q10 ev_COUNT
  have V_VALUES_4 : vs_VALUES[4]? = some (.ref a_PROJECT) := arr_elemR ev_VALUES A_VALUES q12 ev_PROJECT
  have F_SCAN_ordinal := fld_int ev_SCAN q13
  have F_FETCH_ordinal := fld_int ev_FETCH q14
  have F_FILTER_ordinal := fld_int ev_FILTER q15
  have F_COUNT_ordinal := fld_int ev_COUNT q16
  have F_PROJECT_ordinal := fld_int ev_PROJECT q17
  have AF_VALUES := ArF.start hfit A_VALUES
  have G := b0 l s _ hw s.heap.size s.heap (Old.start s) x0 x1 x2 x3 x4 a_VALUES a_SCAN a_FETCH a_FILTER a_COUNT a_PROJECT k_VALUES vs_VALUES (show Facts s a_VALUES a_SCAN a_FETCH a_FILTER a_COUNT a_PROJECT k_VALUES vs_VALUES from ⟨S_VALUES, A_VALUES, E_VALUES, S_SCAN, E_SCAN, S_FETCH, E_FETCH, S_FILTER, E_FILTER, S_COUNT, E_COUNT, S_PROJECT, E_PROJECT, N_VALUES, V_VALUES_0, V_VALUES_1, V_VALUES_2, V_VALUES_3, V_VALUES_4, F_SCAN_ordinal, F_FETCH_ordinal, F_FILTER_ordinal, F_COUNT_ordinal, F_PROJECT_ordinal, AF_VALUES⟩)
  obtain ⟨n, o, h1, h2, h3, _, L, rfl, ⟨N, rfl⟩, hq⟩ := (G.met pn0 (fun m => by simp [entryFrame, mkF, argsToLocals, Value.category, maxLocals]) tables_1) p e ha hc hk s m _ below hf ((Spec.applies_iff_loose hf).mp happ).1 ⟨rfl, State.Warmed39.refl s, rfl⟩ trivial
  refine ⟨n, _, h1, h2, h3, hpost _ _ _ _ _ _ ⟨Jvm.Cond.after_iff.mpr rfl, Jvm.Cond.after_iff.mpr (eq_i res_at (Term.int_eval (1)) rfl), trivial⟩ ⟨hq.1, hq.2.1, (hq.2.2.sift fun y hy => Or.inr (N y hy)).mono (by decide) (by decide)⟩⟩
theorem main_1_1 : Claimed_1_1 := comes_1 fun _ _ _ _ _ _ h hF => ⟨h.1, hF⟩
theorem main_1_2 : Claimed_1_2 := comes_1 fun _ _ _ _ _ _ h hF => ⟨h.2.1, hF⟩
end Jvm.Pilot.@@N@@
namespace Jvm.Pilot.@@N@@
open Jvm Jvm.ClassFile Sem Op Lib Jvm.Free Jvm.Stand Jvm.Pilot.@@N@@.Jvm.D
/-! MADE BY PROGRAM (witnessworld.py) out of the Statement's table words and the real class files: 16 classes; the members and pool entries that the words name. The judged class is class 1, her method 3. -/
namespace start1
open Jvm.ClassFile
def u (s : String) : CpInfo := .utf8 (stringToUtf16 s)
/-- a pool by its gaps: so many unusable entries, then the entry; so many at the end -/
def gap : Nat → List CpInfo → List CpInfo
  | 0, r => r
  | n + 1, r => .unusable :: gap n r
def poolList (es : List (Nat × CpInfo)) (last : Nat) : List CpInfo := es.foldr (fun e r => gap e.1 (e.2 :: r)) (gap last [])
def pool (es : List (Nat × CpInfo)) (last : Nat) : Array CpInfo := ⟨poolList es last⟩
def fileOf (pool : Array CpInfo) (this : Nat) (attrs : Array Attribute := #[]) (ms : Array MethodInfo := #[]) (fl : Nat := 33) (sup : Nat := 0) (ifs : Array Nat := #[]) (fds : Array FieldInfo := #[]) : ClassFile where
  minorVersion := 0
  majorVersion := 65
  constantPool := pool
  accessFlags := fl
  thisClass := this
  superClass := sup
  interfaces := ifs
  fields := fds
  methods := ms
  attributes := attrs
def plain (name : String) (sup : Option ClassId) : Class where
  name := name
  kind := .ordinary
  loader := none
  accessFlags := 33
  super := sup
  interfaces := #[]
  cf := none
  fields := #[]
  methods := #[]
  instanceTypes := #[]
  staticTypes := #[]
  resolved := #[]
  callSites := []
  init := .initialized
  statics := none
  mirror := none

def pool0 : Array CpInfo := pool [(5, u "<init>"), (0, u "()V"), (1, .class_ 10), (1, u "java/lang/Object"), (85, u "clone"), (0, u "()Ljava/lang/Object;")] 26

def k0c0 : Code := { maxStack := 0, maxLocals := 1, code := object_method_1_code, exceptionTable := #[], attributes := #[] }
def k0m0 : Method := { name := "<init>", desc := "()V", sig := { parameters := [], returnType := none }, accessFlags := 1, code := some k0c0 }
def k0m1 : Method := { name := "clone", desc := "()Ljava/lang/Object;", sig := { parameters := [], returnType := some (.object "java/lang/Object") }, accessFlags := 260, code := none }
/-- java/lang/Object -/
def k0 : Class := { plain "java/lang/Object" none with
  accessFlags := 33
  interfaces := #[]
  cf := some (fileOf pool0 8 #[] #[{ accessFlags := 1, nameIndex := 5, descriptorIndex := 6, attributes := #[] }, { accessFlags := 260, nameIndex := 96, descriptorIndex := 97, attributes := #[] }] 33 0 #[] #[])
  fields := #[]
  methods := #[k0m0, k0m1]
  instanceTypes := #[]
  staticTypes := #[]
  resolved := Array.replicate 124 none
  statics := none }

def pool1 : Array CpInfo := pool [(2, .class_ 4), (0, .nameAndType 5 6), (0, u "java/lang/Object"), (0, u "<init>"), (0, u "()V"), (0, .fieldref 8 9), (0, .class_ 10), (0, .nameAndType 11 12), (0, u "com/example/spanforge/spanforge/plan/Operator"), (0, u "SCAN"), (0, u "Lcom/example/spanforge/spanforge/plan/Operator;"), (0, .fieldref 8 14), (0, .nameAndType 15 12), (0, u "FETCH"), (0, .fieldref 8 17), (0, .nameAndType 18 12), (0, u "FILTER"), (0, .fieldref 8 20), (0, .nameAndType 21 12), (0, u "COUNT"), (0, .fieldref 8 23), (0, .nameAndType 24 12), (0, u "PROJECT"), (0, .methodref 26 27), (0, .class_ 28), (0, .nameAndType 29 30), (0, u "com/example/spanforge/spanforge/plan/ItemCountsHandOnPinLaw"), (0, u "op"), (0, u "(I)Lcom/example/spanforge/spanforge/plan/Operator;"), (0, .methodref 32 33), (0, .class_ 34), (0, .nameAndType 35 36), (0, u "com/example/spanforge/spanforge/plan/ItemCounts"), (0, u "handedOn"), (0, u "(Lcom/example/spanforge/spanforge/plan/Operator;)J"), (0, .integer 2147483647), (0, .methodref 32 3), (0, .methodref 32 40), (0, .nameAndType 41 42), (0, u "handOn"), (0, u "(Lcom/example/spanforge/spanforge/plan/Operator;J)V"), (0, .methodref 32 44), (0, .nameAndType 41 45), (0, u "(Lcom/example/spanforge/spanforge/plan/Operator;)V"), (0, .methodref 26 47), (0, .nameAndType 48 49), (0, u "ok"), (0, u "(Lcom/example/spanforge/spanforge/plan/ItemCounts;IIJIIZZ)Z"), (3, u "law"), (0, u "(IJIII)Z")] 2

def k1m0 : Method := { name := "<init>", desc := "()V", sig := { parameters := [], returnType := none }, accessFlags := 1, code := none }
def k1c1 : Code := { maxStack := 2, maxLocals := 1, code := method_2_code, exceptionTable := #[], attributes := #[] }
def k1m1 : Method := { name := "op", desc := "(I)Lcom/example/spanforge/spanforge/plan/Operator;", sig := { parameters := [.int], returnType := some (.object "com/example/spanforge/spanforge/plan/Operator") }, accessFlags := 10, code := some k1c1 }
def k1c2 : Code := { maxStack := 4, maxLocals := 11, code := method_3_code, exceptionTable := #[], attributes := #[] }
def k1m2 : Method := { name := "ok", desc := "(Lcom/example/spanforge/spanforge/plan/ItemCounts;IIJIIZZ)Z", sig := { parameters := [(.object "com/example/spanforge/spanforge/plan/ItemCounts"), .int, .int, .long, .int, .int, .boolean, .boolean], returnType := some .boolean }, accessFlags := 10, code := some k1c2 }
def k1c3 : Code := { maxStack := 9, maxLocals := 12, code := code, exceptionTable := #[], attributes := #[] }
def k1m3 : Method := { name := "law", desc := "(IJIII)Z", sig := { parameters := [.int, .long, .int, .int, .int], returnType := some .boolean }, accessFlags := 9, code := some k1c3 }
/-- com/example/spanforge/spanforge/plan/ItemCountsHandOnPinLaw -/
def k1 : Class := { plain "com/example/spanforge/spanforge/plan/ItemCountsHandOnPinLaw" (some 0) with
  accessFlags := 49
  interfaces := #[]
  cf := some (fileOf pool1 26 #[] #[{ accessFlags := 1, nameIndex := 5, descriptorIndex := 6, attributes := #[] }, { accessFlags := 10, nameIndex := 29, descriptorIndex := 30, attributes := #[] }, { accessFlags := 10, nameIndex := 48, descriptorIndex := 49, attributes := #[] }, { accessFlags := 9, nameIndex := 53, descriptorIndex := 54, attributes := #[] }] 49 2 #[] #[])
  fields := #[]
  methods := #[k1m0, k1m1, k1m2, k1m3]
  instanceTypes := #[]
  staticTypes := #[]
  resolved := Array.replicate 57 none
  statics := none }

def pool2 : Array CpInfo := pool [(1, .methodref 2 3), (0, .class_ 4), (0, .nameAndType 5 6), (0, u "java/lang/Object"), (0, u "<init>"), (0, u "()V"), (0, .methodref 8 9), (0, .class_ 10), (0, .nameAndType 11 12), (0, u "com/example/spanforge/spanforge/plan/Operator"), (0, u "values"), (0, u "()[Lcom/example/spanforge/spanforge/plan/Operator;"), (0, .fieldref 14 15), (0, .class_ 16), (0, .nameAndType 17 18), (0, u "com/example/spanforge/spanforge/plan/ItemCounts"), (0, u "handedOn"), (0, u "[J"), (0, .methodref 8 20), (0, .nameAndType 21 22), (0, u "ordinal"), (0, u "()I"), (2, u "handOn"), (0, u "(Lcom/example/spanforge/spanforge/plan/Operator;)V"), (0, u "(Lcom/example/spanforge/spanforge/plan/Operator;J)V"), (0, u "(Lcom/example/spanforge/spanforge/plan/Operator;)J")] 2

def k2c0 : Code := { maxStack := 2, maxLocals := 1, code := prog_8_method_1_code, exceptionTable := #[], attributes := #[] }
def k2m0 : Method := { name := "<init>", desc := "()V", sig := { parameters := [], returnType := none }, accessFlags := 1, code := some k2c0 }
def k2c1 : Code := { maxStack := 6, maxLocals := 2, code := prog_8_method_2_code, exceptionTable := #[], attributes := #[] }
def k2m1 : Method := { name := "handOn", desc := "(Lcom/example/spanforge/spanforge/plan/Operator;)V", sig := { parameters := [(.object "com/example/spanforge/spanforge/plan/Operator")], returnType := none }, accessFlags := 1, code := some k2c1 }
def k2c2 : Code := { maxStack := 6, maxLocals := 4, code := prog_8_method_3_code, exceptionTable := #[], attributes := #[] }
def k2m2 : Method := { name := "handOn", desc := "(Lcom/example/spanforge/spanforge/plan/Operator;J)V", sig := { parameters := [(.object "com/example/spanforge/spanforge/plan/Operator"), .long], returnType := none }, accessFlags := 1, code := some k2c2 }
def k2c3 : Code := { maxStack := 2, maxLocals := 2, code := prog_8_method_4_code, exceptionTable := #[], attributes := #[] }
def k2m3 : Method := { name := "handedOn", desc := "(Lcom/example/spanforge/spanforge/plan/Operator;)J", sig := { parameters := [(.object "com/example/spanforge/spanforge/plan/Operator")], returnType := some .long }, accessFlags := 0, code := some k2c3 }
/-- com/example/spanforge/spanforge/plan/ItemCounts -/
def k2 : Class := { plain "com/example/spanforge/spanforge/plan/ItemCounts" (some 0) with
  accessFlags := 49
  interfaces := #[]
  cf := some (fileOf pool2 14 #[] #[{ accessFlags := 1, nameIndex := 5, descriptorIndex := 6, attributes := #[] }, { accessFlags := 1, nameIndex := 25, descriptorIndex := 26, attributes := #[] }, { accessFlags := 1, nameIndex := 25, descriptorIndex := 27, attributes := #[] }, { accessFlags := 0, nameIndex := 17, descriptorIndex := 28, attributes := #[] }] 49 2 #[] #[{ accessFlags := 18, nameIndex := 17, descriptorIndex := 18, attributes := #[] }])
  fields := #[{ name := "handedOn", type := (.array .long), accessFlags := 18, slot := 0, constantValue := 0 }]
  methods := #[k2m0, k2m1, k2m2, k2m3]
  instanceTypes := #[(.array .long)]
  staticTypes := #[]
  resolved := Array.replicate 31 none
  statics := none }

def pool3 : Array CpInfo := pool [(1, .class_ 2), (0, u "java/lang/constant/Constable"), (0, .class_ 4), (0, u "java/lang/Object")] 6

/-- java/lang/constant/Constable -/
def k3 : Class := { plain "java/lang/constant/Constable" (some 0) with
  accessFlags := 1537
  interfaces := #[]
  cf := some (fileOf pool3 1 #[] #[] 1537 3 #[] #[])
  fields := #[]
  methods := #[]
  instanceTypes := #[]
  staticTypes := #[]
  resolved := Array.replicate 11 none
  statics := none }

def pool4 : Array CpInfo := pool [(1, .class_ 2), (0, u "java/lang/Comparable"), (0, .class_ 4), (0, u "java/lang/Object")] 7

/-- java/lang/Comparable -/
def k4 : Class := { plain "java/lang/Comparable" (some 0) with
  accessFlags := 1537
  interfaces := #[]
  cf := some (fileOf pool4 1 #[] #[] 1537 3 #[] #[])
  fields := #[]
  methods := #[]
  instanceTypes := #[]
  staticTypes := #[]
  resolved := Array.replicate 12 none
  statics := none }

def pool5 : Array CpInfo := pool [(1, .class_ 2), (0, u "java/io/Serializable"), (0, .class_ 4), (0, u "java/lang/Object")] 2

/-- java/io/Serializable -/
def k5 : Class := { plain "java/io/Serializable" (some 0) with
  accessFlags := 1537
  interfaces := #[]
  cf := some (fileOf pool5 1 #[] #[] 1537 3 #[] #[])
  fields := #[]
  methods := #[]
  instanceTypes := #[]
  staticTypes := #[]
  resolved := Array.replicate 7 none
  statics := none }

def pool6 : Array CpInfo := pool [(2, .class_ 4), (1, u "java/lang/Enum"), (0, u "name"), (0, u "Ljava/lang/String;"), (0, .fieldref 2 8), (0, .nameAndType 9 10), (0, u "ordinal"), (0, u "I"), (1, .class_ 14), (1, u "java/lang/Object"), (4, u "hash"), (86, .class_ 108), (1, u "java/lang/Enum$EnumDesc"), (2, .class_ 112), (0, u "java/lang/constant/Constable"), (0, .class_ 114), (0, u "java/lang/Comparable"), (0, .class_ 116), (0, u "java/io/Serializable"), (9, u "()I")] 77

def k6c0 : Code := { maxStack := 1, maxLocals := 1, code := jdk_37_method_2_code, exceptionTable := #[], attributes := #[] }
def k6m0 : Method := { name := "ordinal", desc := "()I", sig := { parameters := [], returnType := some .int }, accessFlags := 17, code := some k6c0 }
/-- java/lang/Enum -/
def k6 : Class := { plain "java/lang/Enum" (some 0) with
  accessFlags := 1057
  interfaces := #[3, 4, 5]
  cf := some (fileOf pool6 2 #[.nestMembers #[106]] #[{ accessFlags := 17, nameIndex := 9, descriptorIndex := 126, attributes := #[] }] 1057 12 #[111, 113, 115] #[{ accessFlags := 18, nameIndex := 5, descriptorIndex := 6, attributes := #[] }, { accessFlags := 18, nameIndex := 9, descriptorIndex := 10, attributes := #[] }, { accessFlags := 2, nameIndex := 19, descriptorIndex := 10, attributes := #[] }])
  fields := #[{ name := "name", type := (.object "java/lang/String"), accessFlags := 18, slot := 0, constantValue := 0 }, { name := "ordinal", type := .int, accessFlags := 18, slot := 1, constantValue := 0 }, { name := "hash", type := .int, accessFlags := 2, slot := 2, constantValue := 0 }]
  methods := #[k6m0]
  instanceTypes := #[(.object "java/lang/String"), .int, .int]
  staticTypes := #[]
  resolved := Array.replicate 204 none
  statics := none }

def pool7 : Array CpInfo := pool [(1, .class_ 2), (0, u "com/example/spanforge/spanforge/plan/Operator"), (2, u "SCAN"), (0, u "Lcom/example/spanforge/spanforge/plan/Operator;"), (2, u "FETCH"), (2, u "FILTER"), (2, u "COUNT"), (2, u "PROJECT"), (0, .fieldref 1 20), (0, .nameAndType 21 22), (0, u "$VALUES"), (0, u "[Lcom/example/spanforge/spanforge/plan/Operator;"), (0, .methodref 24 25), (0, .class_ 22), (0, .nameAndType 26 27), (0, u "clone"), (0, u "()Ljava/lang/Object;"), (1, .class_ 31), (1, u "java/lang/Enum"), (15, u "()[Lcom/example/spanforge/spanforge/plan/Operator;"), (0, u "values")] 10

def k7c0 : Code := { maxStack := 1, maxLocals := 0, code := prog_10_method_1_code, exceptionTable := #[], attributes := #[] }
def k7m0 : Method := { name := "values", desc := "()[Lcom/example/spanforge/spanforge/plan/Operator;", sig := { parameters := [], returnType := some (.array (.object "com/example/spanforge/spanforge/plan/Operator")) }, accessFlags := 9, code := some k7c0 }
/-- com/example/spanforge/spanforge/plan/Operator -/
def k7 : Class := { plain "com/example/spanforge/spanforge/plan/Operator" (some 6) with
  accessFlags := 16433
  interfaces := #[]
  cf := some (fileOf pool7 1 #[] #[{ accessFlags := 9, nameIndex := 48, descriptorIndex := 47, attributes := #[] }] 16433 29 #[] #[{ accessFlags := 16409, nameIndex := 5, descriptorIndex := 6, attributes := #[] }, { accessFlags := 16409, nameIndex := 9, descriptorIndex := 6, attributes := #[] }, { accessFlags := 16409, nameIndex := 12, descriptorIndex := 6, attributes := #[] }, { accessFlags := 16409, nameIndex := 15, descriptorIndex := 6, attributes := #[] }, { accessFlags := 16409, nameIndex := 18, descriptorIndex := 6, attributes := #[] }, { accessFlags := 4122, nameIndex := 21, descriptorIndex := 22, attributes := #[] }])
  fields := #[{ name := "SCAN", type := (.object "com/example/spanforge/spanforge/plan/Operator"), accessFlags := 16409, slot := 0, constantValue := 0 }, { name := "FETCH", type := (.object "com/example/spanforge/spanforge/plan/Operator"), accessFlags := 16409, slot := 1, constantValue := 0 }, { name := "FILTER", type := (.object "com/example/spanforge/spanforge/plan/Operator"), accessFlags := 16409, slot := 2, constantValue := 0 }, { name := "COUNT", type := (.object "com/example/spanforge/spanforge/plan/Operator"), accessFlags := 16409, slot := 3, constantValue := 0 }, { name := "PROJECT", type := (.object "com/example/spanforge/spanforge/plan/Operator"), accessFlags := 16409, slot := 4, constantValue := 0 }, { name := "$VALUES", type := (.array (.object "com/example/spanforge/spanforge/plan/Operator")), accessFlags := 4122, slot := 5, constantValue := 0 }]
  methods := #[k7m0]
  instanceTypes := #[(.object "java/lang/String"), .int, .int]
  staticTypes := #[(.object "com/example/spanforge/spanforge/plan/Operator"), (.object "com/example/spanforge/spanforge/plan/Operator"), (.object "com/example/spanforge/spanforge/plan/Operator"), (.object "com/example/spanforge/spanforge/plan/Operator"), (.object "com/example/spanforge/spanforge/plan/Operator"), (.array (.object "com/example/spanforge/spanforge/plan/Operator"))]
  resolved := Array.replicate 59 none
  statics := some 0 }

def pool8 : Array CpInfo := pool [(1, .class_ 2), (0, u "java/lang/Cloneable"), (0, .class_ 4), (0, u "java/lang/Object")] 2

/-- java/lang/Cloneable -/
def k8 : Class := { plain "java/lang/Cloneable" (some 0) with
  accessFlags := 1537
  interfaces := #[]
  cf := some (fileOf pool8 1 #[] #[] 1537 3 #[] #[])
  fields := #[]
  methods := #[]
  instanceTypes := #[]
  staticTypes := #[]
  resolved := Array.replicate 7 none
  statics := none }

/-- the primitive byte -/
def k9 : Class := { plain "byte" none with kind := .primitive 'B', accessFlags := 0x411 }
/-- [B -/
def k10 : Class := { plain "[B" (some 0) with kind := .array 9 .byte, interfaces := #[8, 5], accessFlags := 1041 }

/-- the primitive int -/
def k11 : Class := { plain "int" none with kind := .primitive 'I', accessFlags := 0x411 }
/-- [I -/
def k12 : Class := { plain "[I" (some 0) with kind := .array 11 .int, interfaces := #[8, 5], accessFlags := 1041 }

/-- the primitive long -/
def k13 : Class := { plain "long" none with kind := .primitive 'J', accessFlags := 0x411 }
/-- [J -/
def k14 : Class := { plain "[J" (some 0) with kind := .array 13 .long, interfaces := #[8, 5], accessFlags := 1041 }

/-- [Lcom/example/spanforge/spanforge/plan/Operator; -/
def k15 : Class := { plain "[Lcom/example/spanforge/spanforge/plan/Operator;" (some 0) with kind := .array 7 (.object "com/example/spanforge/spanforge/plan/Operator"), interfaces := #[8, 5], accessFlags := 1041 }

def heap : Heap := #[{ cls := 7, slots := #[.ref 2, .ref 3, .ref 4, .ref 5, .ref 6, .ref 1], vm := .statics 7 },
  { cls := 15, slots := #[.ref 2, .ref 3, .ref 4, .ref 5, .ref 6], vm := .none },
  { cls := 7, slots := #[.null, .int 0, .int 0], vm := .none },
  { cls := 7, slots := #[.null, .int 1, .int 0], vm := .none },
  { cls := 7, slots := #[.null, .int 2, .int 0], vm := .none },
  { cls := 7, slots := #[.null, .int 3, .int 0], vm := .none },
  { cls := 7, slots := #[.null, .int 4, .int 0], vm := .none }]
def classes : Array Class := #[k0, k1, k2, k3, k4, k5, k6, k7, k8, k9, k10, k11, k12, k13, k14, k15]
def interned : List (Array UInt16 × Addr) := []
def slotsUsed : Nat := 26
def theMethod : MethodId := ⟨1, 3⟩
def args0 : Array Value := #[.int 5, .long 6, .int 7, .int 8, .int 3]
def aboutOver (below : List Frame) : State where
  vm := { classes := classes, interned := interned.toArray }
  heap := heap
  slotsUsed := slotsUsed
  threads := #[{ frames := .invoking theMethod args0 :: below }]
def below0 : List Frame := [.native { method := ⟨0, 0⟩, args := #[] }]
def about1 : State := aboutOver below0
def p0 : Program := .bare "" "" ""
def e0 : Env := launch0.env 0 0 0
theorem w_frames : about1.frames = Frame.invoking theMethod args0 :: below0 := rfl
set_option maxRecDepth 65536 in
theorem w_args : argsFit about1.vm theMethod args0 = true := by decide +kernel
set_option maxRecDepth 65536 in
theorem w_heap : heapFits about1 = true := by decide +kernel
set_option maxRecDepth 65536 in
theorem w_runnable : about1.curStatus? = some .runnable := by decide +kernel
set_option maxRecDepth 65536 in
theorem w_alone : about1.alone = true := by decide +kernel
set_option maxRecDepth 65536 in
theorem w_named : about1.methodNamed? x = some theMethod := by decide +kernel
set_option maxRecDepth 65536 in
theorem w_hears : about1.hears theMethod below0 = true := by decide +kernel
set_option maxRecDepth 65536 in
theorem w_ripe : about1.ripe theMethod args0 below0 = true := by decide +kernel
theorem w_running : about1.status = .running := rfl
set_option maxRecDepth 65536 in
theorem w_room : about1.hasRoom e0.platform room_1 = true :=
  launch0.hasRoom_least _ room_1 (by decide +kernel) (by decide +kernel) (by decide +kernel) (by decide +kernel) (by decide +kernel) (by decide +kernel)
theorem allAtoms_all (ts : List Jvm.Cond) (a : Array Jvm.Value) (st : Jvm.State) : (allAtoms ts).before a st = ts.all (fun c => c.before a st) := by
  induction ts with
  | nil => rfl
  | cons c t ih =>
    show (Jvm.Cond.and c (allAtoms t)).before a st = _
    rw [Jvm.Cond.before_and, ih, List.all_cons]
def words1 : List Jvm.Cond := Jvm.Cond.code x code maxLocals ret :: tables_1
/-- a 'code' word, met by the world's own term for the bytes: nothing is compared byte by byte -/
theorem code_word {y : MethodName} {bytes : ByteArray} {mx : Nat} {rt : Option FieldType} {a : Array Value} {s : State} {m : MethodId} {meth : Method} {c : Code} (h1 : s.methodNamed? y = some m) (h2 : s.vm.method? m = some meth) (h3 : meth.code = some c) (h4 : c.code = bytes)
    (h5 : (c.maxLocals == mx && c.exceptionTable.isEmpty && decide (c.maxStack ≤ mostOperands) && decide (meth.sig.returnType = rt) && !meth.locks && decide (parseMethodDescriptor y.desc = some meth.sig)) = true) : (Jvm.Cond.code y bytes mx rt).before a s = true := by
  simp only [Bool.and_eq_true, beq_iff_eq, Bool.not_eq_true', decide_eq_true_eq] at h5
  obtain ⟨⟨⟨⟨⟨g1, g2⟩, g3⟩, g4⟩, g5⟩, g6⟩ := h5
  simp [Cond.before, Cond.holds, Cond.value, h1, h2, h3, h4, g1, g2, g3, g4, g5, g6]
def isCode : Jvm.Cond → Bool
  | .code _ _ _ _ => true
  | _ => false
theorem all_split {L : List Jvm.Cond} {P : Jvm.Cond → Bool} (h1 : L.all (fun c => isCode c || P c) = true) (h2 : ∀ c ∈ L.filter isCode, P c = true) : L.all P = true := by
  refine List.all_eq_true.mpr fun c hc => ?_
  have h := List.all_eq_true.mp h1 c hc
  rcases Bool.eq_false_or_eq_true (isCode c) with hi | hi
  · exact h2 c (List.mem_filter.mpr ⟨hc, hi⟩)
  · simpa [hi] using h
set_option maxRecDepth 65536 in
theorem w_c0 : (Jvm.Cond.code x code maxLocals ret).before args0 about1 = true := code_word (m := ⟨1, 3⟩) (meth := k1m3) (c := k1c3) (by decide +kernel) rfl rfl rfl (by decide +kernel)
set_option maxRecDepth 65536 in
theorem w_c1 : (Jvm.Cond.code ({ cls := "com/example/spanforge/spanforge/plan/ItemCounts", name := "<init>", desc := "()V" } : Jvm.MethodName) prog_8_method_1_code (1 : Nat) (Option.none : Option Jvm.ClassFile.FieldType)).before args0 about1 = true := code_word (m := ⟨2, 0⟩) (meth := k2m0) (c := k2c0) (by decide +kernel) rfl rfl rfl (by decide +kernel)
set_option maxRecDepth 65536 in
theorem w_c2 : (Jvm.Cond.code ({ cls := "java/lang/Object", name := "<init>", desc := "()V" } : Jvm.MethodName) object_method_1_code (1 : Nat) (Option.none : Option Jvm.ClassFile.FieldType)).before args0 about1 = true := code_word (m := ⟨0, 0⟩) (meth := k0m0) (c := k0c0) (by decide +kernel) rfl rfl rfl (by decide +kernel)
set_option maxRecDepth 65536 in
theorem w_c3 : (Jvm.Cond.code ({ cls := "com/example/spanforge/spanforge/plan/Operator", name := "values", desc := "()[Lcom/example/spanforge/spanforge/plan/Operator;" } : Jvm.MethodName) prog_10_method_1_code (0 : Nat) (Option.some (Jvm.ClassFile.FieldType.array (Jvm.ClassFile.FieldType.object "com/example/spanforge/spanforge/plan/Operator")))).before args0 about1 = true := code_word (m := ⟨7, 0⟩) (meth := k7m0) (c := k7c0) (by decide +kernel) rfl rfl rfl (by decide +kernel)
set_option maxRecDepth 65536 in
theorem w_c4 : (Jvm.Cond.code ({ cls := "com/example/spanforge/spanforge/plan/ItemCountsHandOnPinLaw", name := "op", desc := "(I)Lcom/example/spanforge/spanforge/plan/Operator;" } : Jvm.MethodName) method_2_code (1 : Nat) (Option.some (Jvm.ClassFile.FieldType.object "com/example/spanforge/spanforge/plan/Operator"))).before args0 about1 = true := code_word (m := ⟨1, 1⟩) (meth := k1m1) (c := k1c1) (by decide +kernel) rfl rfl rfl (by decide +kernel)
set_option maxRecDepth 65536 in
theorem w_c5 : (Jvm.Cond.code ({ cls := "com/example/spanforge/spanforge/plan/ItemCounts", name := "handOn", desc := "(Lcom/example/spanforge/spanforge/plan/Operator;J)V" } : Jvm.MethodName) prog_8_method_3_code (4 : Nat) (Option.none : Option Jvm.ClassFile.FieldType)).before args0 about1 = true := code_word (m := ⟨2, 2⟩) (meth := k2m2) (c := k2c2) (by decide +kernel) rfl rfl rfl (by decide +kernel)
set_option maxRecDepth 65536 in
theorem w_c6 : (Jvm.Cond.code ({ cls := "java/lang/Enum", name := "ordinal", desc := "()I" } : Jvm.MethodName) jdk_37_method_2_code (1 : Nat) (Option.some Jvm.ClassFile.FieldType.int)).before args0 about1 = true := code_word (m := ⟨6, 0⟩) (meth := k6m0) (c := k6c0) (by decide +kernel) rfl rfl rfl (by decide +kernel)
set_option maxRecDepth 65536 in
theorem w_c7 : (Jvm.Cond.code ({ cls := "com/example/spanforge/spanforge/plan/ItemCounts", name := "handOn", desc := "(Lcom/example/spanforge/spanforge/plan/Operator;)V" } : Jvm.MethodName) prog_8_method_2_code (2 : Nat) (Option.none : Option Jvm.ClassFile.FieldType)).before args0 about1 = true := code_word (m := ⟨2, 1⟩) (meth := k2m1) (c := k2c1) (by decide +kernel) rfl rfl rfl (by decide +kernel)
set_option maxRecDepth 65536 in
theorem w_c8 : (Jvm.Cond.code ({ cls := "com/example/spanforge/spanforge/plan/ItemCountsHandOnPinLaw", name := "ok", desc := "(Lcom/example/spanforge/spanforge/plan/ItemCounts;IIJIIZZ)Z" } : Jvm.MethodName) method_3_code (11 : Nat) (Option.some Jvm.ClassFile.FieldType.boolean)).before args0 about1 = true := code_word (m := ⟨1, 2⟩) (meth := k1m2) (c := k1c2) (by decide +kernel) rfl rfl rfl (by decide +kernel)
set_option maxRecDepth 65536 in
theorem w_c9 : (Jvm.Cond.code ({ cls := "com/example/spanforge/spanforge/plan/ItemCounts", name := "handedOn", desc := "(Lcom/example/spanforge/spanforge/plan/Operator;)J" } : Jvm.MethodName) prog_8_method_4_code (2 : Nat) (Option.some Jvm.ClassFile.FieldType.long)).before args0 about1 = true := code_word (m := ⟨2, 3⟩) (meth := k2m3) (c := k2c3) (by decide +kernel) rfl rfl rfl (by decide +kernel)
def codes1 : List Jvm.Cond := [Jvm.Cond.code x code maxLocals ret, Jvm.Cond.code ({ cls := "com/example/spanforge/spanforge/plan/ItemCounts", name := "<init>", desc := "()V" } : Jvm.MethodName) prog_8_method_1_code (1 : Nat) (Option.none : Option Jvm.ClassFile.FieldType), Jvm.Cond.code ({ cls := "java/lang/Object", name := "<init>", desc := "()V" } : Jvm.MethodName) object_method_1_code (1 : Nat) (Option.none : Option Jvm.ClassFile.FieldType), Jvm.Cond.code ({ cls := "com/example/spanforge/spanforge/plan/Operator", name := "values", desc := "()[Lcom/example/spanforge/spanforge/plan/Operator;" } : Jvm.MethodName) prog_10_method_1_code (0 : Nat) (Option.some (Jvm.ClassFile.FieldType.array (Jvm.ClassFile.FieldType.object "com/example/spanforge/spanforge/plan/Operator"))), Jvm.Cond.code ({ cls := "com/example/spanforge/spanforge/plan/ItemCountsHandOnPinLaw", name := "op", desc := "(I)Lcom/example/spanforge/spanforge/plan/Operator;" } : Jvm.MethodName) method_2_code (1 : Nat) (Option.some (Jvm.ClassFile.FieldType.object "com/example/spanforge/spanforge/plan/Operator")), Jvm.Cond.code ({ cls := "com/example/spanforge/spanforge/plan/ItemCounts", name := "handOn", desc := "(Lcom/example/spanforge/spanforge/plan/Operator;J)V" } : Jvm.MethodName) prog_8_method_3_code (4 : Nat) (Option.none : Option Jvm.ClassFile.FieldType), Jvm.Cond.code ({ cls := "java/lang/Enum", name := "ordinal", desc := "()I" } : Jvm.MethodName) jdk_37_method_2_code (1 : Nat) (Option.some Jvm.ClassFile.FieldType.int), Jvm.Cond.code ({ cls := "com/example/spanforge/spanforge/plan/ItemCounts", name := "handOn", desc := "(Lcom/example/spanforge/spanforge/plan/Operator;)V" } : Jvm.MethodName) prog_8_method_2_code (2 : Nat) (Option.none : Option Jvm.ClassFile.FieldType), Jvm.Cond.code ({ cls := "com/example/spanforge/spanforge/plan/ItemCountsHandOnPinLaw", name := "ok", desc := "(Lcom/example/spanforge/spanforge/plan/ItemCounts;IIJIIZZ)Z" } : Jvm.MethodName) method_3_code (11 : Nat) (Option.some Jvm.ClassFile.FieldType.boolean), Jvm.Cond.code ({ cls := "com/example/spanforge/spanforge/plan/ItemCounts", name := "handedOn", desc := "(Lcom/example/spanforge/spanforge/plan/Operator;)J" } : Jvm.MethodName) prog_8_method_4_code (2 : Nat) (Option.some Jvm.ClassFile.FieldType.long)]
set_option maxRecDepth 65536 in
theorem codes_eq : words1.filter isCode = codes1 := rfl
theorem w_codes : ∀ c ∈ words1.filter isCode, c.before args0 about1 = true := by
  rw [codes_eq]
  intro c hc
  simp only [codes1, List.mem_cons, List.not_mem_nil, or_false] at hc
  rcases hc with rfl | rfl | rfl | rfl | rfl | rfl | rfl | rfl | rfl | rfl
  · exact w_c0
  · exact w_c1
  · exact w_c2
  · exact w_c3
  · exact w_c4
  · exact w_c5
  · exact w_c6
  · exact w_c7
  · exact w_c8
  · exact w_c9
set_option maxRecDepth 65536 in
theorem w_t1 : (words1.take 24).all (fun c => isCode c || c.before args0 about1) = true := by decide +kernel
set_option maxRecDepth 65536 in
theorem w_t2 : ((words1.drop 24).take 24).all (fun c => isCode c || c.before args0 about1) = true := by decide +kernel
set_option maxRecDepth 65536 in
theorem w_t3 : ((words1.drop 24).drop 24).all (fun c => isCode c || c.before args0 about1) = true := by decide +kernel
theorem w_tables : (allAtoms (Jvm.Cond.code x code maxLocals ret :: tables_1)).before args0 about1 = true := by
  rw [allAtoms_all]
  show words1.all (fun c => c.before args0 about1) = true
  refine all_split ?_ w_codes
  rw [← List.take_append_drop 24 words1, List.all_append, w_t1, ← List.take_append_drop 24 (words1.drop 24), List.all_append, w_t2, w_t3]
  rfl
set_option maxRecDepth 65536 in
theorem w_case : (Jvm.Cond.and given_1 narrow_1).before args0 about1 = true := by decide +kernel
theorem w_applies : (headSpec (Jvm.Cond.code x code maxLocals ret :: tables_1) room_1).applies x e0.platform about1 = true :=
  (Spec.applies_iff w_frames).mpr ⟨w_running, w_runnable, w_alone, w_named, w_hears, w_ripe, w_room, w_tables⟩
theorem atStart : AtStart classFile x code maxLocals ret World_1 tables_1 room_1 Calls_1 rest_1 Pre_1 launch0 p0 e0 about1 theMethod args0 below0 :=
  ⟨lists_1, trivial, launch0.admits_env _ _ _, launch0.least_env, fairChoices_fair.cas, fairChoices_fair.clock, w_frames, w_args, w_heap, w_applies, trivial, trivial, w_case⟩
end start1
theorem witness_1 : WitnessClaimed_1 := ⟨start1.p0, start1.e0, start1.about1, start1.theMethod, start1.args0, start1.below0, start1.atStart⟩
end Jvm.Pilot.@@N@@
