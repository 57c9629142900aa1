import JvmDerived
import JvmDerived.Pilot.@@N@@Statement
import JvmDerived.Pilot.@@N@@Code
set_option linter.unusedVariables false
set_option linter.unusedSimpArgs false
namespace Jvm.OwnKit
open Jvm Jvm.ClassFile Sem Op Lib Jvm.Free Jvm.Stand Jvm.LawKit Jvm.RoadKit
/-- the run from here ends in a return that answers Q, having written new cells alone -/
def Ends (p : Program) (e : Env) (below : List Frame) (s : State) (n0 : Nat) (Q : Option Value → Heap → Prop) (k n : Nat) (T : State) (g : JFrame) : Prop :=
  ∃ s₂ o, Steps p.tables e below (T.setTop g) s₂ ∧ s₂.status = .running ∧ Ended s₂ below o ∧ ∃ v L, o = .returned v ∧ (Fr n0 L ∧ Q v s₂.heap) ∧ FrameEnd s o s₂ L k n
theorem Ends.step {p : Program} {e : Env} {below : List Frame} {s : State} {n0 : Nat} {Q : Option Value → Heap → Prop} {k n : Nat} {T T' : State} {g g' : JFrame} (K : Ends p e below s n0 Q k n T' g') (f : ∀ t, Steps p.tables e below (T'.setTop g') t → Steps p.tables e below (T.setTop g) t) : Ends p e below s n0 Q k n T g := by
  obtain ⟨s2, o, h, r⟩ := K
  exact ⟨s2, o, f _ h, r⟩
/-- what is the same through a whole body -/
def Cx (Z : State) (mn : MethodName) (code : ByteArray) (maxL : Nat) (ret : Option FieldType) (p : Program) (s : State) (m : MethodId) (meth : Method) (c : Code) : Prop :=
  p.tables.exec = Jvm.exec ∧ Z.Warmed39 s.vm ∧ c.code = code ∧ c.maxLocals = maxL ∧ s.vm.findClass mn.cls = some m.cls ∧ meth.sig.returnType = ret ∧ meth.locks = false ∧ meth.name = mn.name
/-- from this pc, these locals and this stack, over the heap h, at most k cells and n slots made so far, the body ends as Q says -/
def Go (l : Launch) (Z : State) (mn : MethodName) (code : ByteArray) (maxL : Nat) (ret : Option FieldType) (R : Room) (n0 : Nat) (Q : Option Value → Heap → Prop) (h : Heap) (k n : Nat) (pc : Nat) (Ls : Array Slot) (st : List Value) : Prop :=
  ∀ (p : Program) (e : Env) (s : State) (m : MethodId) (args : Array Value) (below : List Frame) (meth : Method) (c : Code) (T : State) (locs : List Loc) (k' n' : Nat),
    Cx Z mn code maxL ret p s m meth c → Stand p l e R s m args below meth c T locs k' n' → k' ≤ k → n' ≤ n → Fr n0 locs → T.heap = h → Ends p e below s n0 Q R.cells R.slots T (mkF m pc Ls st)
/-- the answer of a body that returns a value | nothing -/
def RV (P : Value → Heap → Prop) : Option Value → Heap → Prop := fun v h => ∃ w, v = some w ∧ P w h
def RN (P : Heap → Prop) : Option Value → Heap → Prop := fun v h => v = none ∧ P h
section Laws
variable {l : Launch} {Z : State} {mn : MethodName} {code : ByteArray} {maxL : Nat} {ret : Option FieldType} {R : Room} {n0 : Nat} {Q : Option Value → Heap → Prop} {h : Heap} {k n pc q : Nat} {Ls Ls' : Array Slot} {st st' : List Value} {a0 : Array Value}
theorem Go.plain (K : Go l Z mn code maxL ret R n0 Q h k n q Ls' st') (f : ∀ (p : Program) (e : Env) (s : State) (m : MethodId) (args : Array Value) (below : List Frame) (meth : Method) (c : Code) (T : State) (locs : List Loc) (k' n' : Nat), p.tables.exec = Jvm.exec → c.code = code → Stand p l e R s m args below meth c T locs k' n' → ∀ t, Steps p.tables e below (T.setTop (mkF m q Ls' st')) t → Steps p.tables e below (T.setTop (mkF m pc Ls st)) t) : Go l Z mn code maxL ret R n0 Q h k n pc Ls st :=
  fun p e s m args below meth c T locs k' n' C X hk hn N eT => (K p e s m args below meth c T locs k' n' C X hk hn N eT).step (f p e s m args below meth c T locs k' n' C.1 C.2.2.1 X)
theorem Go.mono {k1 n1 : Nat} (K : Go l Z mn code maxL ret R n0 Q h k n pc Ls st) (h1 : k1 ≤ k) (h2 : n1 ≤ n) : Go l Z mn code maxL ret R n0 Q h k1 n1 pc Ls st :=
  fun p e s m args below meth c T locs k' n' C X hk hn N eT => K p e s m args below meth c T locs k' n' C X (Nat.le_trans hk h1) (Nat.le_trans hn h2) N eT
theorem Go.imp {Q' : Option Value → Heap → Prop} (K : Go l Z mn code maxL ret R n0 Q h k n pc Ls st) (f : ∀ v h, Q v h → Q' v h) : Go l Z mn code maxL ret R n0 Q' h k n pc Ls st :=
  fun p e s m args below meth c T locs k' n' C X hk hn N eT => by
    obtain ⟨s2, o, h1, h2, h3, v, L, h4, h5, h6⟩ := K p e s m args below meth c T locs k' n' C X hk hn N eT
    exact ⟨s2, o, h1, h2, h3, v, L, h4, ⟨h5.1, f _ _ h5.2⟩, h6⟩
theorem Go.met {as : Array Value} (pn : plainFor mn = true) (hef : ∀ m, entryFrame m as maxL = mkF m 0 Ls []) (G : Go l Z mn code maxL ret R n0 Q h 0 0 0 Ls []) (ws : List Jvm.Cond) :
    MetFree l mn (head1 (Jvm.Cond.code mn code maxL ret :: ws) R) (fun a U => a = as ∧ Z.Warmed39 U.vm ∧ U.heap = h) (fun _ _ _ _ _ => True) (fun _ U o U' => ∃ v L, o = .returned v ∧ (Fr n0 L ∧ Q v U'.heap) ∧ FrameEnd U o U' L R.cells R.slots) := by
  refine MetFree.of_bodySF pn hisR ?_
  intro p e s m args below meth c s₁ Bd hml0 hP hK
  obtain ⟨rfl, hZ, hh⟩ := hP
  have e0 : s₁.heap = h := by rw [← hh, Bd.state]; rfl
  rw [hef]
  exact G p e s m _ below meth c s₁ [] 0 0 ⟨Bd.exec, hZ, Bd.bytes, hml0, findClass_of_methodNamed Bd.named, Bd.returns, BodyLoose.notSynchronized Bd, (name_of_methodNamed Bd.named Bd.method).1⟩ (Stand.of_body Bd) (Nat.le_refl _) (Nat.le_refl _) (Fr.nil n0) e0

theorem Go.iloadN {i : Fin 4} {v : Int32} (hd : decode code pc = .ok (.iload_n i, 1)) (hq : q = pc + 1) (hl : Ls[i.val]? = some (.val (.int v))) (K : Go l Z mn code maxL ret R n0 Q h k n q Ls (.int v :: st)) : Go l Z mn code maxL ret R n0 Q h k n pc Ls (st) := by
  subst hq
  exact K.plain fun p e s m args below meth c T locs k' n' hx hby X t r => XS.iloadN X.here hx rfl (hb hby hd) hl r
theorem Go.iload {i : Nat} {v : Int32} (hd : decode code pc = .ok (.iload i, 2)) (hq : q = pc + 2) (hl : Ls[i]? = some (.val (.int v))) (K : Go l Z mn code maxL ret R n0 Q h k n q Ls (.int v :: st)) : Go l Z mn code maxL ret R n0 Q h k n pc Ls (st) := by
  subst hq
  exact K.plain fun p e s m args below meth c T locs k' n' hx hby X t r => XS.iload X.here hx rfl (hb hby hd) hl r
theorem Go.lloadN {i : Fin 4} {v : Int64} (hd : decode code pc = .ok (.lload_n i, 1)) (hq : q = pc + 1) (hl : Ls[i.val]? = some (.val (.long v))) (K : Go l Z mn code maxL ret R n0 Q h k n q Ls (.long v :: st)) : Go l Z mn code maxL ret R n0 Q h k n pc Ls (st) := by
  subst hq
  exact K.plain fun p e s m args below meth c T locs k' n' hx hby X t r => XT.lloadN X.here hx rfl (hb hby hd) hl r
theorem Go.lload {i : Nat} {v : Int64} (hd : decode code pc = .ok (.lload i, 2)) (hq : q = pc + 2) (hl : Ls[i]? = some (.val (.long v))) (K : Go l Z mn code maxL ret R n0 Q h k n q Ls (.long v :: st)) : Go l Z mn code maxL ret R n0 Q h k n pc Ls (st) := by
  subst hq
  exact K.plain fun p e s m args below meth c T locs k' n' hx hby X t r => XT.lload X.here hx rfl (hb hby hd) hl r
theorem Go.aloadN {i : Fin 4} {v : Value} (hd : decode code pc = .ok (.aload_n i, 1)) (hq : q = pc + 1) (hl : Ls[i.val]? = some (.val v)) (hv : v.isRef = true) (K : Go l Z mn code maxL ret R n0 Q h k n q Ls (v :: st)) : Go l Z mn code maxL ret R n0 Q h k n pc Ls (st) := by
  subst hq
  exact K.plain fun p e s m args below meth c T locs k' n' hx hby X t r => XS.aloadN X.here hx rfl (hb hby hd) hl hv r
theorem Go.aload {i : Nat} {v : Value} (hd : decode code pc = .ok (.aload i, 2)) (hq : q = pc + 2) (hl : Ls[i]? = some (.val v)) (hv : v.isRef = true) (K : Go l Z mn code maxL ret R n0 Q h k n q Ls (v :: st)) : Go l Z mn code maxL ret R n0 Q h k n pc Ls (st) := by
  subst hq
  exact K.plain fun p e s m args below meth c T locs k' n' hx hby X t r => XS.aload X.here hx rfl (hb hby hd) hl hv r
theorem Go.istoreN {i : Fin 4} {v : Int32} (hd : decode code pc = .ok (.istore_n i, 1)) (hq : q = pc + 1) (hl : storeLocals Ls i.val (.int v) = some Ls') (K : Go l Z mn code maxL ret R n0 Q h k n q Ls' (st)) : Go l Z mn code maxL ret R n0 Q h k n pc Ls (.int v :: st) := by
  subst hq
  exact K.plain fun p e s m args below meth c T locs k' n' hx hby X t r => XS.istoreN X.here hx rfl (hb hby hd) rfl hl r
theorem Go.istore {i : Nat} {v : Int32} (hd : decode code pc = .ok (.istore i, 2)) (hq : q = pc + 2) (hl : storeLocals Ls i (.int v) = some Ls') (K : Go l Z mn code maxL ret R n0 Q h k n q Ls' (st)) : Go l Z mn code maxL ret R n0 Q h k n pc Ls (.int v :: st) := by
  subst hq
  exact K.plain fun p e s m args below meth c T locs k' n' hx hby X t r => XS.istore X.here hx rfl (hb hby hd) rfl hl r
theorem Go.lstoreN {i : Fin 4} {v : Int64} (hd : decode code pc = .ok (.lstore_n i, 1)) (hq : q = pc + 1) (hl : storeLocals Ls i.val (.long v) = some Ls') (K : Go l Z mn code maxL ret R n0 Q h k n q Ls' (st)) : Go l Z mn code maxL ret R n0 Q h k n pc Ls (.long v :: st) := by
  subst hq
  exact K.plain fun p e s m args below meth c T locs k' n' hx hby X t r => XT.lstoreN X.here hx rfl (hb hby hd) rfl hl r
theorem Go.lstore {i : Nat} {v : Int64} (hd : decode code pc = .ok (.lstore i, 2)) (hq : q = pc + 2) (hl : storeLocals Ls i (.long v) = some Ls') (K : Go l Z mn code maxL ret R n0 Q h k n q Ls' (st)) : Go l Z mn code maxL ret R n0 Q h k n pc Ls (.long v :: st) := by
  subst hq
  exact K.plain fun p e s m args below meth c T locs k' n' hx hby X t r => XT.lstore X.here hx rfl (hb hby hd) rfl hl r
theorem Go.astoreN {i : Fin 4} {v : Value} (hd : decode code pc = .ok (.astore_n i, 1)) (hq : q = pc + 1) (hv : v.isRef = true) (hl : storeLocals Ls i.val v = some Ls') (K : Go l Z mn code maxL ret R n0 Q h k n q Ls' (st)) : Go l Z mn code maxL ret R n0 Q h k n pc Ls (v :: st) := by
  subst hq
  exact K.plain fun p e s m args below meth c T locs k' n' hx hby X t r => XS.astoreN X.here hx rfl (hb hby hd) rfl hv hl r
theorem Go.astore {i : Nat} {v : Value} (hd : decode code pc = .ok (.astore i, 2)) (hq : q = pc + 2) (hv : v.isRef = true) (hl : storeLocals Ls i v = some Ls') (K : Go l Z mn code maxL ret R n0 Q h k n q Ls' (st)) : Go l Z mn code maxL ret R n0 Q h k n pc Ls (v :: st) := by
  subst hq
  exact K.plain fun p e s m args below meth c T locs k' n' hx hby X t r => XS.astore X.here hx rfl (hb hby hd) rfl hv hl r
theorem Go.iconst {i : Int} {x : Int32} (hd : decode code pc = .ok (.iconst i, 1)) (hq : q = pc + 1) (hi : Int32.ofInt i = x) (K : Go l Z mn code maxL ret R n0 Q h k n q Ls (.int x :: st)) : Go l Z mn code maxL ret R n0 Q h k n pc Ls (st) := by
  subst hq
  exact K.plain fun p e s m args below meth c T locs k' n' hx hby X t r => XS.iconst X.here hx rfl (hb hby hd) (by rw [hi]; exact r)
theorem Go.bipush {i : Int} {x : Int32} (hd : decode code pc = .ok (.bipush i, 2)) (hq : q = pc + 2) (hi : (Int8.ofInt i).toInt32 = x) (K : Go l Z mn code maxL ret R n0 Q h k n q Ls (.int x :: st)) : Go l Z mn code maxL ret R n0 Q h k n pc Ls (st) := by
  subst hq
  exact K.plain fun p e s m args below meth c T locs k' n' hx hby X t r => XS.bipush X.here hx rfl (hb hby hd) (by rw [hi]; exact r)
theorem Go.sipush {i : Int} {x : Int32} (hd : decode code pc = .ok (.sipush i, 3)) (hq : q = pc + 3) (hi : (Int16.ofInt i).toInt32 = x) (K : Go l Z mn code maxL ret R n0 Q h k n q Ls (.int x :: st)) : Go l Z mn code maxL ret R n0 Q h k n pc Ls (st) := by
  subst hq
  exact K.plain fun p e s m args below meth c T locs k' n' hx hby X t r => XS.sipush X.here hx rfl (hb hby hd) (by rw [hi]; exact r)
theorem Go.lconst {i : Fin 2} {x : Int64} (hd : decode code pc = .ok (.lconst i, 1)) (hq : q = pc + 1) (hi : Int64.ofNat i = x) (K : Go l Z mn code maxL ret R n0 Q h k n q Ls (.long x :: st)) : Go l Z mn code maxL ret R n0 Q h k n pc Ls (st) := by
  subst hq
  exact K.plain fun p e s m args below meth c T locs k' n' hx hby X t r => XT.lconst X.here hx rfl (hb hby hd) (by rw [hi]; exact r)
theorem Go.aconstNull (hd : decode code pc = .ok (.aconst_null, 1)) (hq : q = pc + 1) (K : Go l Z mn code maxL ret R n0 Q h k n q Ls (.null :: st)) : Go l Z mn code maxL ret R n0 Q h k n pc Ls (st) := by
  subst hq
  exact K.plain fun p e s m args below meth c T locs k' n' hx hby X t r => XS.aconstNull X.here hx rfl (hb hby hd) r
theorem Go.iadd {x y : Int32} (hd : decode code pc = .ok (.iadd, 1)) (hq : q = pc + 1) (K : Go l Z mn code maxL ret R n0 Q h k n q Ls (.int (x + y) :: st)) : Go l Z mn code maxL ret R n0 Q h k n pc Ls (.int y :: .int x :: st) := by
  subst hq
  exact K.plain fun p e s m args below meth c T locs k' n' hx hby X t r => XS.iadd X.here hx rfl (hb hby hd) rfl r
theorem Go.isub {x y : Int32} (hd : decode code pc = .ok (.isub, 1)) (hq : q = pc + 1) (K : Go l Z mn code maxL ret R n0 Q h k n q Ls (.int (x - y) :: st)) : Go l Z mn code maxL ret R n0 Q h k n pc Ls (.int y :: .int x :: st) := by
  subst hq
  exact K.plain fun p e s m args below meth c T locs k' n' hx hby X t r => XS.isub X.here hx rfl (hb hby hd) rfl r
theorem Go.iand {x y : Int32} (hd : decode code pc = .ok (.iand, 1)) (hq : q = pc + 1) (K : Go l Z mn code maxL ret R n0 Q h k n q Ls (.int (x &&& y) :: st)) : Go l Z mn code maxL ret R n0 Q h k n pc Ls (.int y :: .int x :: st) := by
  subst hq
  exact K.plain fun p e s m args below meth c T locs k' n' hx hby X t r => XS.iand X.here hx rfl (hb hby hd) rfl r
theorem Go.imul {x y : Int32} (hd : decode code pc = .ok (.imul, 1)) (hq : q = pc + 1) (K : Go l Z mn code maxL ret R n0 Q h k n q Ls (.int (x * y) :: st)) : Go l Z mn code maxL ret R n0 Q h k n pc Ls (.int y :: .int x :: st) := by
  subst hq
  exact K.plain fun p e s m args below meth c T locs k' n' hx hby X t r => XS.imul X.here hx rfl (hb hby hd) rfl r
theorem Go.ixor {x y : Int32} (hd : decode code pc = .ok (.ixor, 1)) (hq : q = pc + 1) (K : Go l Z mn code maxL ret R n0 Q h k n q Ls (.int (x ^^^ y) :: st)) : Go l Z mn code maxL ret R n0 Q h k n pc Ls (.int y :: .int x :: st) := by
  subst hq
  exact K.plain fun p e s m args below meth c T locs k' n' hx hby X t r => XT.ixor X.here hx rfl (hb hby hd) rfl r
theorem Go.ior {x y : Int32} (hd : decode code pc = .ok (.ior, 1)) (hq : q = pc + 1) (K : Go l Z mn code maxL ret R n0 Q h k n q Ls (.int (x ||| y) :: st)) : Go l Z mn code maxL ret R n0 Q h k n pc Ls (.int y :: .int x :: st) := by
  subst hq
  exact K.plain fun p e s m args below meth c T locs k' n' hx hby X t r => XT.ior X.here hx rfl (hb hby hd) rfl r
theorem Go.ishl {x y : Int32} (hd : decode code pc = .ok (.ishl, 1)) (hq : q = pc + 1) (K : Go l Z mn code maxL ret R n0 Q h k n q Ls (.int (x <<< (y &&& 31)) :: st)) : Go l Z mn code maxL ret R n0 Q h k n pc Ls (.int y :: .int x :: st) := by
  subst hq
  exact K.plain fun p e s m args below meth c T locs k' n' hx hby X t r => XT.ishl X.here hx rfl (hb hby hd) rfl r
theorem Go.ishr {x y : Int32} (hd : decode code pc = .ok (.ishr, 1)) (hq : q = pc + 1) (K : Go l Z mn code maxL ret R n0 Q h k n q Ls (.int (x >>> (y &&& 31)) :: st)) : Go l Z mn code maxL ret R n0 Q h k n pc Ls (.int y :: .int x :: st) := by
  subst hq
  exact K.plain fun p e s m args below meth c T locs k' n' hx hby X t r => XT.ishr X.here hx rfl (hb hby hd) rfl r
theorem Go.iushr {x y : Int32} (hd : decode code pc = .ok (.iushr, 1)) (hq : q = pc + 1) (K : Go l Z mn code maxL ret R n0 Q h k n q Ls (.int (XT.ushr x y) :: st)) : Go l Z mn code maxL ret R n0 Q h k n pc Ls (.int y :: .int x :: st) := by
  subst hq
  exact K.plain fun p e s m args below meth c T locs k' n' hx hby X t r => XT.iushr X.here hx rfl (hb hby hd) rfl r
theorem Go.ladd {x y : Int64} (hd : decode code pc = .ok (.ladd, 1)) (hq : q = pc + 1) (K : Go l Z mn code maxL ret R n0 Q h k n q Ls (.long (x + y) :: st)) : Go l Z mn code maxL ret R n0 Q h k n pc Ls (.long y :: .long x :: st) := by
  subst hq
  exact K.plain fun p e s m args below meth c T locs k' n' hx hby X t r => XT.ladd X.here hx rfl (hb hby hd) rfl r
theorem Go.lsub {x y : Int64} (hd : decode code pc = .ok (.lsub, 1)) (hq : q = pc + 1) (K : Go l Z mn code maxL ret R n0 Q h k n q Ls (.long (x - y) :: st)) : Go l Z mn code maxL ret R n0 Q h k n pc Ls (.long y :: .long x :: st) := by
  subst hq
  exact K.plain fun p e s m args below meth c T locs k' n' hx hby X t r => XT.lsub X.here hx rfl (hb hby hd) rfl r
theorem Go.lmul {x y : Int64} (hd : decode code pc = .ok (.lmul, 1)) (hq : q = pc + 1) (K : Go l Z mn code maxL ret R n0 Q h k n q Ls (.long (x * y) :: st)) : Go l Z mn code maxL ret R n0 Q h k n pc Ls (.long y :: .long x :: st) := by
  subst hq
  exact K.plain fun p e s m args below meth c T locs k' n' hx hby X t r => XT.lmul X.here hx rfl (hb hby hd) rfl r
theorem Go.land {x y : Int64} (hd : decode code pc = .ok (.land, 1)) (hq : q = pc + 1) (K : Go l Z mn code maxL ret R n0 Q h k n q Ls (.long (x &&& y) :: st)) : Go l Z mn code maxL ret R n0 Q h k n pc Ls (.long y :: .long x :: st) := by
  subst hq
  exact K.plain fun p e s m args below meth c T locs k' n' hx hby X t r => XT.land X.here hx rfl (hb hby hd) rfl r
theorem Go.lor {x y : Int64} (hd : decode code pc = .ok (.lor, 1)) (hq : q = pc + 1) (K : Go l Z mn code maxL ret R n0 Q h k n q Ls (.long (x ||| y) :: st)) : Go l Z mn code maxL ret R n0 Q h k n pc Ls (.long y :: .long x :: st) := by
  subst hq
  exact K.plain fun p e s m args below meth c T locs k' n' hx hby X t r => XT.lor X.here hx rfl (hb hby hd) rfl r
theorem Go.lxor {x y : Int64} (hd : decode code pc = .ok (.lxor, 1)) (hq : q = pc + 1) (K : Go l Z mn code maxL ret R n0 Q h k n q Ls (.long (x ^^^ y) :: st)) : Go l Z mn code maxL ret R n0 Q h k n pc Ls (.long y :: .long x :: st) := by
  subst hq
  exact K.plain fun p e s m args below meth c T locs k' n' hx hby X t r => XT.lxor X.here hx rfl (hb hby hd) rfl r
theorem Go.lshl {x : Int64} {y : Int32} (hd : decode code pc = .ok (.lshl, 1)) (hq : q = pc + 1) (K : Go l Z mn code maxL ret R n0 Q h k n q Ls (.long (x <<< (y.toInt64 &&& 63)) :: st)) : Go l Z mn code maxL ret R n0 Q h k n pc Ls (.int y :: .long x :: st) := by
  subst hq
  exact K.plain fun p e s m args below meth c T locs k' n' hx hby X t r => XT.lshl X.here hx rfl (hb hby hd) rfl r
theorem Go.lshr {x : Int64} {y : Int32} (hd : decode code pc = .ok (.lshr, 1)) (hq : q = pc + 1) (K : Go l Z mn code maxL ret R n0 Q h k n q Ls (.long (x >>> (y.toInt64 &&& 63)) :: st)) : Go l Z mn code maxL ret R n0 Q h k n pc Ls (.int y :: .long x :: st) := by
  subst hq
  exact K.plain fun p e s m args below meth c T locs k' n' hx hby X t r => XT.lshr X.here hx rfl (hb hby hd) rfl r
theorem Go.lushr {x : Int64} {y : Int32} (hd : decode code pc = .ok (.lushr, 1)) (hq : q = pc + 1) (K : Go l Z mn code maxL ret R n0 Q h k n q Ls (.long (XT.ushrL x y) :: st)) : Go l Z mn code maxL ret R n0 Q h k n pc Ls (.int y :: .long x :: st) := by
  subst hq
  exact K.plain fun p e s m args below meth c T locs k' n' hx hby X t r => XT.lushr X.here hx rfl (hb hby hd) rfl r
theorem Go.idiv {x y : Int32} (hd : decode code pc = .ok (.idiv, 1)) (hq : q = pc + 1) (hy : y ≠ 0) (K : Go l Z mn code maxL ret R n0 Q h k n q Ls (.int (x / y) :: st)) : Go l Z mn code maxL ret R n0 Q h k n pc Ls (.int y :: .int x :: st) := by
  subst hq
  exact K.plain fun p e s m args below meth c T locs k' n' hx hby X t r => XS.idiv X.here hx rfl (hb hby hd) rfl hy r
theorem Go.irem {x y : Int32} (hd : decode code pc = .ok (.irem, 1)) (hq : q = pc + 1) (hy : y ≠ 0) (K : Go l Z mn code maxL ret R n0 Q h k n q Ls (.int (x % y) :: st)) : Go l Z mn code maxL ret R n0 Q h k n pc Ls (.int y :: .int x :: st) := by
  subst hq
  exact K.plain fun p e s m args below meth c T locs k' n' hx hby X t r => XS.irem X.here hx rfl (hb hby hd) rfl hy (by rw [irem_eq_mod]; exact r)
theorem Go.lrem {x y : Int64} (hd : decode code pc = .ok (.lrem, 1)) (hq : q = pc + 1) (hy : y ≠ 0) (K : Go l Z mn code maxL ret R n0 Q h k n q Ls (.long (x % y) :: st)) : Go l Z mn code maxL ret R n0 Q h k n pc Ls (.long y :: .long x :: st) := by
  subst hq
  exact K.plain fun p e s m args below meth c T locs k' n' hx hby X t r => XT.lrem X.here hx rfl (hb hby hd) rfl hy (by rw [lrem_mod]; exact r)
theorem Go.ineg {x : Int32} (hd : decode code pc = .ok (.ineg, 1)) (hq : q = pc + 1) (K : Go l Z mn code maxL ret R n0 Q h k n q Ls (.int (-x) :: st)) : Go l Z mn code maxL ret R n0 Q h k n pc Ls (.int x :: st) := by
  subst hq
  exact K.plain fun p e s m args below meth c T locs k' n' hx hby X t r => XS.ineg X.here hx rfl (hb hby hd) rfl r
theorem Go.lneg {x : Int64} (hd : decode code pc = .ok (.lneg, 1)) (hq : q = pc + 1) (K : Go l Z mn code maxL ret R n0 Q h k n q Ls (.long (-x) :: st)) : Go l Z mn code maxL ret R n0 Q h k n pc Ls (.long x :: st) := by
  subst hq
  exact K.plain fun p e s m args below meth c T locs k' n' hx hby X t r => XT.lneg X.here hx rfl (hb hby hd) rfl r
theorem Go.i2l {x : Int32} (hd : decode code pc = .ok (.i2l, 1)) (hq : q = pc + 1) (K : Go l Z mn code maxL ret R n0 Q h k n q Ls (.long x.toInt64 :: st)) : Go l Z mn code maxL ret R n0 Q h k n pc Ls (.int x :: st) := by
  subst hq
  exact K.plain fun p e s m args below meth c T locs k' n' hx hby X t r => XT.i2l X.here hx rfl (hb hby hd) rfl r
theorem Go.l2i {x : Int64} (hd : decode code pc = .ok (.l2i, 1)) (hq : q = pc + 1) (K : Go l Z mn code maxL ret R n0 Q h k n q Ls (.int x.toInt32 :: st)) : Go l Z mn code maxL ret R n0 Q h k n pc Ls (.long x :: st) := by
  subst hq
  exact K.plain fun p e s m args below meth c T locs k' n' hx hby X t r => XT.l2i X.here hx rfl (hb hby hd) rfl r
theorem Go.i2b {x : Int32} (hd : decode code pc = .ok (.i2b, 1)) (hq : q = pc + 1) (K : Go l Z mn code maxL ret R n0 Q h k n q Ls (.int x.toInt8.toInt32 :: st)) : Go l Z mn code maxL ret R n0 Q h k n pc Ls (.int x :: st) := by
  subst hq
  exact K.plain fun p e s m args below meth c T locs k' n' hx hby X t r => XT.i2b X.here hx rfl (hb hby hd) rfl r
theorem Go.i2s {x : Int32} (hd : decode code pc = .ok (.i2s, 1)) (hq : q = pc + 1) (K : Go l Z mn code maxL ret R n0 Q h k n q Ls (.int x.toInt16.toInt32 :: st)) : Go l Z mn code maxL ret R n0 Q h k n pc Ls (.int x :: st) := by
  subst hq
  exact K.plain fun p e s m args below meth c T locs k' n' hx hby X t r => XT.i2s X.here hx rfl (hb hby hd) rfl r
theorem Go.i2c {x : Int32} (hd : decode code pc = .ok (.i2c, 1)) (hq : q = pc + 1) (K : Go l Z mn code maxL ret R n0 Q h k n q Ls (.int x.toUInt32.toUInt16.toUInt32.toInt32 :: st)) : Go l Z mn code maxL ret R n0 Q h k n pc Ls (.int x :: st) := by
  subst hq
  exact K.plain fun p e s m args below meth c T locs k' n' hx hby X t r => XT.i2c X.here hx rfl (hb hby hd) rfl r
theorem Go.lcmp {x y : Int64} (hd : decode code pc = .ok (.lcmp, 1)) (hq : q = pc + 1) (K : Go l Z mn code maxL ret R n0 Q h k n q Ls (.int (XT.cmpL x y) :: st)) : Go l Z mn code maxL ret R n0 Q h k n pc Ls (.long y :: .long x :: st) := by
  subst hq
  exact K.plain fun p e s m args below meth c T locs k' n' hx hby X t r => XT.lcmp X.here hx rfl (hb hby hd) rfl r
theorem Go.iinc {i : Nat} {cst : Int} {x w : Int32} (hd : decode code pc = .ok (.iinc i cst, 3)) (hq : q = pc + 3) (hl : Ls[i]? = some (.val (.int x))) (hw : x + Int32.ofInt cst = w) (hl' : storeLocals Ls i (.int w) = some Ls') (K : Go l Z mn code maxL ret R n0 Q h k n q Ls' (st)) : Go l Z mn code maxL ret R n0 Q h k n pc Ls (st) := by
  subst hq
  exact K.plain fun p e s m args below meth c T locs k' n' hx hby X t r => XS.iinc X.here hx rfl (hb hby hd) hl (by rw [hw]; exact hl') r
theorem Go.dup {v : Value} (hd : decode code pc = .ok (.dup, 1)) (hq : q = pc + 1) (hc : v.category = 1) (K : Go l Z mn code maxL ret R n0 Q h k n q Ls (v :: v :: st)) : Go l Z mn code maxL ret R n0 Q h k n pc Ls (v :: st) := by
  subst hq
  exact K.plain fun p e s m args below meth c T locs k' n' hx hby X t r => XS.dup X.here hx rfl (hb hby hd) rfl hc r
theorem Go.pop {v : Value} (hd : decode code pc = .ok (.pop, 1)) (hq : q = pc + 1) (hc : v.category = 1) (K : Go l Z mn code maxL ret R n0 Q h k n q Ls (st)) : Go l Z mn code maxL ret R n0 Q h k n pc Ls (v :: st) := by
  subst hq
  exact K.plain fun p e s m args below meth c T locs k' n' hx hby X t r => XT.pop X.here hx rfl (hb hby hd) rfl hc r
theorem Go.dupX1 {v w : Value} (hd : decode code pc = .ok (.dup_x1, 1)) (hq : q = pc + 1) (hc : v.category = 1) (hc' : w.category = 1) (K : Go l Z mn code maxL ret R n0 Q h k n q Ls (v :: w :: v :: st)) : Go l Z mn code maxL ret R n0 Q h k n pc Ls (v :: w :: st) := by
  subst hq
  exact K.plain fun p e s m args below meth c T locs k' n' hx hby X t r => XT.dupX1 X.here hx rfl (hb hby hd) rfl hc hc' r
theorem Go.dup2 {v w : Value} (hd : decode code pc = .ok (.dup2, 1)) (hq : q = pc + 1) (hc : v.category = 1) (hc' : w.category = 1) (K : Go l Z mn code maxL ret R n0 Q h k n q Ls (v :: w :: v :: w :: st)) : Go l Z mn code maxL ret R n0 Q h k n pc Ls (v :: w :: st) := by
  subst hq
  exact K.plain fun p e s m args below meth c T locs k' n' hx hby X t r => XT.dup2 X.here hx rfl (hb hby hd) rfl hc hc' r
theorem Go.dup2L {x : Int64} (hd : decode code pc = .ok (.dup2, 1)) (hq : q = pc + 1) (K : Go l Z mn code maxL ret R n0 Q h k n q Ls (.long x :: .long x :: st)) : Go l Z mn code maxL ret R n0 Q h k n pc Ls (.long x :: st) := by
  subst hq
  exact K.plain fun p e s m args below meth c T locs k' n' hx hby X t r => XT.dup2L X.here hx rfl (hb hby hd) rfl r
theorem Go.goto {o : Int} (hd : decode code pc = .ok (.goto o, 3)) (ho : 0 ≤ (pc : Int) + o) (hq : ((pc : Int) + o).toNat = q) (K : Go l Z mn code maxL ret R n0 Q h k n q Ls st) : Go l Z mn code maxL ret R n0 Q h k n pc Ls st :=
  K.plain fun p e s m args below meth c T locs k' n' hx hby X t r => XS.goto X.here hx rfl rfl (hb hby hd) ho hq r
theorem Go.icmp_eq {x y' : Int32} {o : Int} {q' : Nat} (hd : decode code pc = .ok (.if_icmp .eq o, 3)) (ho : 0 ≤ (pc : Int) + o) (hq : ((pc : Int) + o).toNat = q) (hq' : q' = pc + 3) (K1 : x = y' → Go l Z mn code maxL ret R n0 Q h k n q Ls st) (K2 : ¬ x = y' → Go l Z mn code maxL ret R n0 Q h k n q' Ls st) : Go l Z mn code maxL ret R n0 Q h k n pc Ls (.int y' :: .int x :: st) := by
  subst hq'
  by_cases hc : x = y'
  · exact (K1 hc).plain fun p e s m args below meth c T locs k' n' hx hby X t r => XS.icmpYes X.here hx rfl rfl (hb hby hd) rfl (teq hc).1 ho hq r
  · exact (K2 (hc)).plain fun p e s m args below meth c T locs k' n' hx hby X t r => XS.icmpNo X.here hx rfl (hb hby hd) rfl (feq (hc)).1 r
theorem Go.if_eq {x : Int32} {o : Int} {q' : Nat} (hd : decode code pc = .ok (.ifCond .eq o, 3)) (ho : 0 ≤ (pc : Int) + o) (hq : ((pc : Int) + o).toNat = q) (hq' : q' = pc + 3) (K1 : x = 0 → Go l Z mn code maxL ret R n0 Q h k n q Ls st) (K2 : ¬ x = 0 → Go l Z mn code maxL ret R n0 Q h k n q' Ls st) : Go l Z mn code maxL ret R n0 Q h k n pc Ls (.int x :: st) := by
  subst hq'
  by_cases hc : x = 0
  · exact (K1 hc).plain fun p e s m args below meth c T locs k' n' hx hby X t r => XS.ifYes X.here hx rfl rfl (hb hby hd) rfl ((if0 _ _).trans (teq hc).1) ho hq r
  · exact (K2 (hc)).plain fun p e s m args below meth c T locs k' n' hx hby X t r => XS.ifNo X.here hx rfl (hb hby hd) rfl ((if0 _ _).trans (feq (hc)).1) r
theorem Go.icmp_ne {x y' : Int32} {o : Int} {q' : Nat} (hd : decode code pc = .ok (.if_icmp .ne o, 3)) (ho : 0 ≤ (pc : Int) + o) (hq : ((pc : Int) + o).toNat = q) (hq' : q' = pc + 3) (K1 : ¬ x = y' → Go l Z mn code maxL ret R n0 Q h k n q Ls st) (K2 : x = y' → Go l Z mn code maxL ret R n0 Q h k n q' Ls st) : Go l Z mn code maxL ret R n0 Q h k n pc Ls (.int y' :: .int x :: st) := by
  subst hq'
  by_cases hc : ¬ x = y'
  · exact (K1 hc).plain fun p e s m args below meth c T locs k' n' hx hby X t r => XS.icmpYes X.here hx rfl rfl (hb hby hd) rfl (feq hc).2 ho hq r
  · exact (K2 (Decidable.not_not.mp hc)).plain fun p e s m args below meth c T locs k' n' hx hby X t r => XS.icmpNo X.here hx rfl (hb hby hd) rfl (teq (Decidable.not_not.mp hc)).2 r
theorem Go.if_ne {x : Int32} {o : Int} {q' : Nat} (hd : decode code pc = .ok (.ifCond .ne o, 3)) (ho : 0 ≤ (pc : Int) + o) (hq : ((pc : Int) + o).toNat = q) (hq' : q' = pc + 3) (K1 : ¬ x = 0 → Go l Z mn code maxL ret R n0 Q h k n q Ls st) (K2 : x = 0 → Go l Z mn code maxL ret R n0 Q h k n q' Ls st) : Go l Z mn code maxL ret R n0 Q h k n pc Ls (.int x :: st) := by
  subst hq'
  by_cases hc : ¬ x = 0
  · exact (K1 hc).plain fun p e s m args below meth c T locs k' n' hx hby X t r => XS.ifYes X.here hx rfl rfl (hb hby hd) rfl ((if0 _ _).trans (feq hc).2) ho hq r
  · exact (K2 (Decidable.not_not.mp hc)).plain fun p e s m args below meth c T locs k' n' hx hby X t r => XS.ifNo X.here hx rfl (hb hby hd) rfl ((if0 _ _).trans (teq (Decidable.not_not.mp hc)).2) r
theorem Go.icmp_lt {x y' : Int32} {o : Int} {q' : Nat} (hd : decode code pc = .ok (.if_icmp .lt o, 3)) (ho : 0 ≤ (pc : Int) + o) (hq : ((pc : Int) + o).toNat = q) (hq' : q' = pc + 3) (K1 : x < y' → Go l Z mn code maxL ret R n0 Q h k n q Ls st) (K2 : ¬ x < y' → Go l Z mn code maxL ret R n0 Q h k n q' Ls st) : Go l Z mn code maxL ret R n0 Q h k n pc Ls (.int y' :: .int x :: st) := by
  subst hq'
  by_cases hc : x < y'
  · exact (K1 hc).plain fun p e s m args below meth c T locs k' n' hx hby X t r => XS.icmpYes X.here hx rfl rfl (hb hby hd) rfl (tlt hc).1 ho hq r
  · exact (K2 (hc)).plain fun p e s m args below meth c T locs k' n' hx hby X t r => XS.icmpNo X.here hx rfl (hb hby hd) rfl (flt (hc)).1 r
theorem Go.if_lt {x : Int32} {o : Int} {q' : Nat} (hd : decode code pc = .ok (.ifCond .lt o, 3)) (ho : 0 ≤ (pc : Int) + o) (hq : ((pc : Int) + o).toNat = q) (hq' : q' = pc + 3) (K1 : x < 0 → Go l Z mn code maxL ret R n0 Q h k n q Ls st) (K2 : ¬ x < 0 → Go l Z mn code maxL ret R n0 Q h k n q' Ls st) : Go l Z mn code maxL ret R n0 Q h k n pc Ls (.int x :: st) := by
  subst hq'
  by_cases hc : x < 0
  · exact (K1 hc).plain fun p e s m args below meth c T locs k' n' hx hby X t r => XS.ifYes X.here hx rfl rfl (hb hby hd) rfl ((if0 _ _).trans (tlt hc).1) ho hq r
  · exact (K2 (hc)).plain fun p e s m args below meth c T locs k' n' hx hby X t r => XS.ifNo X.here hx rfl (hb hby hd) rfl ((if0 _ _).trans (flt (hc)).1) r
theorem Go.icmp_ge {x y' : Int32} {o : Int} {q' : Nat} (hd : decode code pc = .ok (.if_icmp .ge o, 3)) (ho : 0 ≤ (pc : Int) + o) (hq : ((pc : Int) + o).toNat = q) (hq' : q' = pc + 3) (K1 : ¬ x < y' → Go l Z mn code maxL ret R n0 Q h k n q Ls st) (K2 : x < y' → Go l Z mn code maxL ret R n0 Q h k n q' Ls st) : Go l Z mn code maxL ret R n0 Q h k n pc Ls (.int y' :: .int x :: st) := by
  subst hq'
  by_cases hc : ¬ x < y'
  · exact (K1 hc).plain fun p e s m args below meth c T locs k' n' hx hby X t r => XS.icmpYes X.here hx rfl rfl (hb hby hd) rfl (flt hc).2.1 ho hq r
  · exact (K2 (Decidable.not_not.mp hc)).plain fun p e s m args below meth c T locs k' n' hx hby X t r => XS.icmpNo X.here hx rfl (hb hby hd) rfl (tlt (Decidable.not_not.mp hc)).2.1 r
theorem Go.if_ge {x : Int32} {o : Int} {q' : Nat} (hd : decode code pc = .ok (.ifCond .ge o, 3)) (ho : 0 ≤ (pc : Int) + o) (hq : ((pc : Int) + o).toNat = q) (hq' : q' = pc + 3) (K1 : ¬ x < 0 → Go l Z mn code maxL ret R n0 Q h k n q Ls st) (K2 : x < 0 → Go l Z mn code maxL ret R n0 Q h k n q' Ls st) : Go l Z mn code maxL ret R n0 Q h k n pc Ls (.int x :: st) := by
  subst hq'
  by_cases hc : ¬ x < 0
  · exact (K1 hc).plain fun p e s m args below meth c T locs k' n' hx hby X t r => XS.ifYes X.here hx rfl rfl (hb hby hd) rfl ((if0 _ _).trans (flt hc).2.1) ho hq r
  · exact (K2 (Decidable.not_not.mp hc)).plain fun p e s m args below meth c T locs k' n' hx hby X t r => XS.ifNo X.here hx rfl (hb hby hd) rfl ((if0 _ _).trans (tlt (Decidable.not_not.mp hc)).2.1) r
theorem Go.icmp_gt {x y' : Int32} {o : Int} {q' : Nat} (hd : decode code pc = .ok (.if_icmp .gt o, 3)) (ho : 0 ≤ (pc : Int) + o) (hq : ((pc : Int) + o).toNat = q) (hq' : q' = pc + 3) (K1 : y' < x → Go l Z mn code maxL ret R n0 Q h k n q Ls st) (K2 : ¬ y' < x → Go l Z mn code maxL ret R n0 Q h k n q' Ls st) : Go l Z mn code maxL ret R n0 Q h k n pc Ls (.int y' :: .int x :: st) := by
  subst hq'
  by_cases hc : y' < x
  · exact (K1 hc).plain fun p e s m args below meth c T locs k' n' hx hby X t r => XS.icmpYes X.here hx rfl rfl (hb hby hd) rfl (tlt hc).2.2.1 ho hq r
  · exact (K2 (hc)).plain fun p e s m args below meth c T locs k' n' hx hby X t r => XS.icmpNo X.here hx rfl (hb hby hd) rfl (flt (hc)).2.2.1 r
theorem Go.if_gt {x : Int32} {o : Int} {q' : Nat} (hd : decode code pc = .ok (.ifCond .gt o, 3)) (ho : 0 ≤ (pc : Int) + o) (hq : ((pc : Int) + o).toNat = q) (hq' : q' = pc + 3) (K1 : 0 < x → Go l Z mn code maxL ret R n0 Q h k n q Ls st) (K2 : ¬ 0 < x → Go l Z mn code maxL ret R n0 Q h k n q' Ls st) : Go l Z mn code maxL ret R n0 Q h k n pc Ls (.int x :: st) := by
  subst hq'
  by_cases hc : 0 < x
  · exact (K1 hc).plain fun p e s m args below meth c T locs k' n' hx hby X t r => XS.ifYes X.here hx rfl rfl (hb hby hd) rfl ((if0 _ _).trans (tlt hc).2.2.1) ho hq r
  · exact (K2 (hc)).plain fun p e s m args below meth c T locs k' n' hx hby X t r => XS.ifNo X.here hx rfl (hb hby hd) rfl ((if0 _ _).trans (flt (hc)).2.2.1) r
theorem Go.icmp_le {x y' : Int32} {o : Int} {q' : Nat} (hd : decode code pc = .ok (.if_icmp .le o, 3)) (ho : 0 ≤ (pc : Int) + o) (hq : ((pc : Int) + o).toNat = q) (hq' : q' = pc + 3) (K1 : ¬ y' < x → Go l Z mn code maxL ret R n0 Q h k n q Ls st) (K2 : y' < x → Go l Z mn code maxL ret R n0 Q h k n q' Ls st) : Go l Z mn code maxL ret R n0 Q h k n pc Ls (.int y' :: .int x :: st) := by
  subst hq'
  by_cases hc : ¬ y' < x
  · exact (K1 hc).plain fun p e s m args below meth c T locs k' n' hx hby X t r => XS.icmpYes X.here hx rfl rfl (hb hby hd) rfl (flt hc).2.2.2 ho hq r
  · exact (K2 (Decidable.not_not.mp hc)).plain fun p e s m args below meth c T locs k' n' hx hby X t r => XS.icmpNo X.here hx rfl (hb hby hd) rfl (tlt (Decidable.not_not.mp hc)).2.2.2 r
theorem Go.if_le {x : Int32} {o : Int} {q' : Nat} (hd : decode code pc = .ok (.ifCond .le o, 3)) (ho : 0 ≤ (pc : Int) + o) (hq : ((pc : Int) + o).toNat = q) (hq' : q' = pc + 3) (K1 : ¬ 0 < x → Go l Z mn code maxL ret R n0 Q h k n q Ls st) (K2 : 0 < x → Go l Z mn code maxL ret R n0 Q h k n q' Ls st) : Go l Z mn code maxL ret R n0 Q h k n pc Ls (.int x :: st) := by
  subst hq'
  by_cases hc : ¬ 0 < x
  · exact (K1 hc).plain fun p e s m args below meth c T locs k' n' hx hby X t r => XS.ifYes X.here hx rfl rfl (hb hby hd) rfl ((if0 _ _).trans (flt hc).2.2.2) ho hq r
  · exact (K2 (Decidable.not_not.mp hc)).plain fun p e s m args below meth c T locs k' n' hx hby X t r => XS.ifNo X.here hx rfl (hb hby hd) rfl ((if0 _ _).trans (tlt (Decidable.not_not.mp hc)).2.2.2) r
theorem Go.ifnull {v : Value} {o : Int} {q' : Nat} (hd : decode code pc = .ok (.ifnull o, 3)) (ho : 0 ≤ (pc : Int) + o) (hq : ((pc : Int) + o).toNat = q) (hq' : q' = pc + 3) (hv : v.isRef = true) (K1 : v = .null → Go l Z mn code maxL ret R n0 Q h k n q Ls st) (K2 : ∀ a, v = .ref a → Go l Z mn code maxL ret R n0 Q h k n q' Ls st) : Go l Z mn code maxL ret R n0 Q h k n pc Ls (v :: st) := by
  subst hq'
  rcases ref_cases hv with rfl | ⟨a, rfl⟩
  · exact (K1 rfl).plain fun p e s m args below meth c T locs k' n' hx hby X t r => XS.ifnullYes X.here hx rfl rfl (hb hby hd) rfl ho hq r
  · exact (K2 a rfl).plain fun p e s m args below meth c T locs k' n' hx hby X t r => XS.ifnullNo X.here hx rfl (hb hby hd) rfl r
theorem Go.ifnonnull {v : Value} {o : Int} {q' : Nat} (hd : decode code pc = .ok (.ifnonnull o, 3)) (ho : 0 ≤ (pc : Int) + o) (hq : ((pc : Int) + o).toNat = q) (hq' : q' = pc + 3) (hv : v.isRef = true) (K1 : ∀ a, v = .ref a → Go l Z mn code maxL ret R n0 Q h k n q Ls st) (K2 : v = .null → Go l Z mn code maxL ret R n0 Q h k n q' Ls st) : Go l Z mn code maxL ret R n0 Q h k n pc Ls (v :: st) := by
  subst hq'
  rcases ref_cases hv with rfl | ⟨a, rfl⟩
  · exact (K2 rfl).plain fun p e s m args below meth c T locs k' n' hx hby X t r => XT.ifnonnullNo X.here hx rfl (hb hby hd) rfl r
  · exact (K1 a rfl).plain fun p e s m args below meth c T locs k' n' hx hby X t r => XT.ifnonnullYes X.here hx rfl rfl (hb hby hd) rfl ho hq r
theorem Go.acmp_eq {v w : Value} {o : Int} {q' : Nat} (hd : decode code pc = .ok (.if_acmp .eq o, 3)) (ho : 0 ≤ (pc : Int) + o) (hq : ((pc : Int) + o).toNat = q) (hq' : q' = pc + 3) (hv : v.isRef = true) (hw : w.isRef = true) (K1 : v = w → Go l Z mn code maxL ret R n0 Q h k n q Ls st) (K2 : ¬ v = w → Go l Z mn code maxL ret R n0 Q h k n q' Ls st) : Go l Z mn code maxL ret R n0 Q h k n pc Ls (w :: v :: st) := by
  subst hq'
  by_cases hc : v = w
  · exact (K1 hc).plain fun p e s m args below meth c T locs k' n' hx hby X t r => RoadKit.acmp X hx rfl hv hw rfl (hb hby hd) rfl (same := true) (by simp [hc]) ho (by simp [acV, hq]) r
  · exact (K2 hc).plain fun p e s m args below meth c T locs k' n' hx hby X t r => RoadKit.acmp X hx rfl hv hw rfl (hb hby hd) rfl (same := false) (by simp [hc]) ho (by simp [acV]) r
theorem Go.acmp_ne {v w : Value} {o : Int} {q' : Nat} (hd : decode code pc = .ok (.if_acmp .ne o, 3)) (ho : 0 ≤ (pc : Int) + o) (hq : ((pc : Int) + o).toNat = q) (hq' : q' = pc + 3) (hv : v.isRef = true) (hw : w.isRef = true) (K1 : ¬ v = w → Go l Z mn code maxL ret R n0 Q h k n q Ls st) (K2 : v = w → Go l Z mn code maxL ret R n0 Q h k n q' Ls st) : Go l Z mn code maxL ret R n0 Q h k n pc Ls (w :: v :: st) := by
  subst hq'
  by_cases hc : v = w
  · exact (K2 hc).plain fun p e s m args below meth c T locs k' n' hx hby X t r => RoadKit.acmp X hx rfl hv hw rfl (hb hby hd) rfl (same := true) (by simp [hc]) ho (by simp [acV]) r
  · exact (K1 hc).plain fun p e s m args below meth c T locs k' n' hx hby X t r => RoadKit.acmp X hx rfl hv hw rfl (hb hby hd) rfl (same := false) (by simp [hc]) ho (by simp [acV, hq]) r
/-! constants of the pool -/
theorem Go.ldc {i : Nat} {v : Int32} (hd : decode code pc = .ok (.ldc i, 2)) (hq : q = pc + 2) (w : (Jvm.Cond.constant mn.cls i v).before a0 Z = true) (K : Go l Z mn code maxL ret R n0 Q h k n q Ls (.int v :: st)) : Go l Z mn code maxL ret R n0 Q h k n pc Ls st := by
  subst hq
  exact fun p e s m args below meth c T locs k' n' C X hk hn N eT => (K p e s m args below meth c T locs k' n' C X hk hn N eT).step fun t r => X.ldcI C.1 C.2.2.2.2.1 (mvT C.2.1 w) rfl (hb C.2.2.1 hd) r
theorem Go.ldcW {i : Nat} {v : Int32} (hd : decode code pc = .ok (.ldc_w i, 3)) (hq : q = pc + 3) (w : (Jvm.Cond.constant mn.cls i v).before a0 Z = true) (K : Go l Z mn code maxL ret R n0 Q h k n q Ls (.int v :: st)) : Go l Z mn code maxL ret R n0 Q h k n pc Ls st := by
  subst hq
  exact fun p e s m args below meth c T locs k' n' C X hk hn N eT => (K p e s m args below meth c T locs k' n' C X hk hn N eT).step fun t r => X.ldcWI C.1 C.2.2.2.2.1 (mvT C.2.1 w) rfl (hb C.2.2.1 hd) r
theorem Go.ldc2 {i : Nat} {v : Int64} (hd : decode code pc = .ok (.ldc2_w i, 3)) (hq : q = pc + 3) (w : (Jvm.Cond.constantLong mn.cls i v).before a0 Z = true) (K : Go l Z mn code maxL ret R n0 Q h k n q Ls (.long v :: st)) : Go l Z mn code maxL ret R n0 Q h k n pc Ls st := by
  subst hq
  exact fun p e s m args below meth c T locs k' n' C X hk hn N eT => (K p e s m args below meth c T locs k' n' C X hk hn N eT).step fun t r => X.ldc2J C.1 C.2.2.2.2.1 (mvT C.2.1 w) rfl (hb C.2.2.1 hd) r
/-! statics and fields -/
theorem Go.getS {i : Nat} {O nm d : String} {v : Value} (hd : decode code pc = .ok (.getstatic i, 3)) (hq : q = pc + 3) (w : (Jvm.Cond.fieldLink mn.cls i O nm d).before a0 Z = true) (F : Sta Z h O nm d v) (K : Go l Z mn code maxL ret R n0 Q h k n q Ls (v :: st)) : Go l Z mn code maxL ret R n0 Q h k n pc Ls st := by
  subst hq
  intro p e s m args below meth c T locs k' n' C X hk hn N eT
  obtain ⟨T', X', e', f⟩ := RoadKit.getS (host := "") X C.1 C.2.1 C.2.2.2.2.1 w Via.refl eT F (g := mkF m pc Ls st) rfl (hb C.2.2.1 hd)
  exact (K p e s m args below meth c T' locs k' n' C X' hk hn N e').step f
theorem Go.getF {i : Nat} {R0 O nm d host : String} {a : Addr} {v : Value} (hd : decode code pc = .ok (.getfield i, 3)) (hq : q = pc + 3) (w : (Jvm.Cond.fieldLink mn.cls i R0 nm d).before a0 Z = true ∨ (Jvm.Cond.fieldLinkNest mn.cls i R0 nm d host).before a0 Z = true) (via : Via Z R0 O nm d) (F : Fld Z h a O nm d v) (K : Go l Z mn code maxL ret R n0 Q h k n q Ls (v :: st)) : Go l Z mn code maxL ret R n0 Q h k n pc Ls (.ref a :: st) := by
  subst hq
  intro p e s m args below meth c T locs k' n' C X hk hn N eT
  obtain ⟨T', X', e', f⟩ := RoadKit.getF X C.1 C.2.1 C.2.2.2.2.1 w via eT F (g := mkF m pc Ls (.ref a :: st)) rfl rfl (hb C.2.2.1 hd)
  exact (K p e s m args below meth c T' locs k' n' C X' hk hn N e').step f
theorem Go.putF {i kk : Nat} {R0 O nm d host C : String} {a : Addr} {v old : Value} {ty : FieldType} (hd : decode code pc = .ok (.putfield i, 3)) (hq : q = pc + 3) (w : (Jvm.Cond.fieldLink mn.cls i R0 nm d).before a0 Z = true ∨ (Jvm.Cond.fieldLinkNest mn.cls i R0 nm d host).before a0 Z = true) (via : Via Z R0 O nm d) (F : Fld Z h a O nm d old) (E : Exa Z h a C) (L : (Jvm.Cond.lays C O nm d).before a0 Z = true ∨ ((Jvm.Cond.laysFinal C O nm d).before a0 Z = true ∧ mn.cls = O ∧ mn.name = "<init>")) (wi : (Jvm.Cond.instantiable C kk).before a0 Z = true)
    (hty : parseFieldDescriptor d = some ty) (hna : narrow ty v = v) (hf : fits ty v = true) (ha : n0 ≤ a) (K : ∀ h', Wr h h' a (RoadKit.slotOf Z O nm d) v → Go l Z mn code maxL ret R n0 Q h' k n q Ls st) : Go l Z mn code maxL ret R n0 Q h k n pc Ls (v :: .ref a :: st) := by
  subst hq
  intro p e s m args below meth c T locs k' n' Cc X hk hn N eT
  obtain ⟨T', h', X', e', W, f⟩ := RoadKit.putF X Cc.1 Cc.2.1 Cc.2.2.2.2.1 w via eT F E (L.imp id fun q => ⟨q.1, q.2.1, Cc.2.2.2.2.2.2.2.trans q.2.2⟩) wi hty hna hf (g := mkF m pc Ls (v :: .ref a :: st)) rfl rfl (hb Cc.2.2.1 hd)
  exact (K h' W p e s m args below meth c T' _ k' n' Cc X' hk hn (Fr.snoc X' N ha) e').step f
theorem Go.cast {i : Nat} {Kc : String} {a : Addr} (hd : decode code pc = .ok (.checkcast i, 3)) (hq : q = pc + 3) (w : (Jvm.Cond.classLink mn.cls i Kc).before a0 Z = true) (F : Ins Z h a Kc true) (K : Go l Z mn code maxL ret R n0 Q h k n q Ls (.ref a :: st)) : Go l Z mn code maxL ret R n0 Q h k n pc Ls (.ref a :: st) := by
  subst hq
  intro p e s m args below meth c T locs k' n' C X hk hn N eT
  obtain ⟨T', X', e', f⟩ := castY X C.1 C.2.1 C.2.2.2.2.1 w eT F (g := mkF m pc Ls (.ref a :: st)) rfl rfl (hb C.2.2.1 hd)
  exact (K p e s m args below meth c T' locs k' n' C X' hk hn N e').step f
/-! new, arrays -/
theorem Go.new {i kk : Nat} {C : String} (hd : decode code pc = .ok (.new i, 3)) (hq : q = pc + 3) (w : (Jvm.Cond.classLink mn.cls i C).before a0 Z = true) (wi : (Jvm.Cond.instantiable C kk).before a0 Z = true) (wz : (Jvm.Cond.initialized C).before a0 Z = true) (hc : k + 1 ≤ R.cells) (hs : n + kk ≤ R.slots)
    (K : ∀ h' a, a = h.size → Ext h h' → Exa Z h' a C → (∀ {O nm d : String} {ty : FieldType}, Laid Z a0 C O nm d → parseFieldDescriptor d = some ty → Fld Z h' a O nm d (defaultValue ty)) → Go l Z mn code maxL ret R n0 Q h' (k + 1) (n + kk) q Ls (.ref a :: st)) : Go l Z mn code maxL ret R n0 Q h k n pc Ls st := by
  subst hq
  intro p e s m args below meth c T locs k' n' Cc X hk hn N eT
  obtain ⟨T', h', X', e', E, A, D, -, f⟩ := newO X Cc.1 Cc.2.1 Cc.2.2.2.2.1 w wi wz eT (g := mkF m pc Ls st) rfl (hb Cc.2.2.1 hd) (by omega) (by omega)
  exact (K h' h.size rfl E A (fun L t => D L t) p e s m args below meth c T' locs _ _ Cc X' (by omega) (by omega) N e').step f
theorem Go.initObj {i wd : Nat} {a : Addr} (hd : decode code pc = .ok (.invokespecial i, 3)) (hq : q = pc + 3) (w1 : (Jvm.Cond.methodLink mn.cls i Lib.objectInit).before a0 Z = true) (w2 : (Jvm.Cond.instanceMethod Lib.objectInit).before a0 Z = true) (w3 : (Jvm.Cond.code Lib.objectInit ⟨#[0xb1]⟩ 1 none).before a0 Z = true) (hsz : Ls.size = maxL) (hf : 1 ≤ R.frames) (hW : (st.map fun v => v.category).sum = wd) (hl : wd + 12 ≤ R.locals) (K : Go l Z mn code maxL ret R n0 Q h k n q Ls st) : Go l Z mn code maxL ret R n0 Q h k n pc Ls (.ref a :: st) := by
  subst hq
  intro p e s m args below meth c T locs k' n' C X hk hn N eT
  obtain ⟨T', X', e', f⟩ := initO X C.1 C.2.1 C.2.2.2.2.1 w1 w2 w3 eT (g := mkF m pc Ls (.ref a :: st)) rfl (by rw [C.2.2.2.1]; exact hsz) rfl (hb C.2.2.1 hd) hf (W := wd) (by simp [hW]) hl
  exact (K p e s m args below meth c T' locs k' n' C X' hk hn N e').step f

end Laws
theorem cmpL_eq (x y : Int64) : XT.cmpL x y = 0 ↔ x = y := by
  unfold XT.cmpL
  by_cases h1 : y < x
  · rw [if_pos h1]; constructor
    · intro e; exact absurd e (by decide)
    · rintro rfl; exact absurd h1 Int64.lt_irrefl
  · rw [if_neg h1]
    by_cases h2 : x = y
    · simp [h2]
    · rw [if_neg h2]; constructor
      · intro e; exact absurd e (by decide)
      · intro e; exact absurd e h2
theorem cmpL_lt (x y : Int64) : XT.cmpL x y < 0 ↔ x < y := by
  unfold XT.cmpL
  by_cases h1 : y < x
  · rw [if_pos h1]; constructor
    · intro e; exact absurd e (by decide)
    · intro e; rw [Int64.lt_iff_toInt_lt] at e h1; omega
  · rw [if_neg h1]
    by_cases h2 : x = y
    · rw [if_pos h2]; constructor
      · intro e; exact absurd e (by decide)
      · intro e; rw [h2] at e; exact absurd e Int64.lt_irrefl
    · rw [if_neg h2]; constructor
      · intro _; rw [Int64.lt_iff_toInt_lt] at h1 ⊢; rw [← Int64.toInt_inj] at h2; omega
      · intro _; decide
theorem cmpL_gt (x y : Int64) : 0 < XT.cmpL x y ↔ y < x := by
  unfold XT.cmpL
  by_cases h1 : y < x
  · rw [if_pos h1]; constructor
    · intro _; exact h1
    · intro _; decide
  · rw [if_neg h1]
    by_cases h2 : x = y
    · rw [if_pos h2]; constructor
      · intro e; exact absurd e (by decide)
      · intro e; exact absurd e h1
    · rw [if_neg h2]; constructor
      · intro e; exact absurd e (by decide)
      · intro e; exact absurd e h1
section Laws2
variable {l : Launch} {Z : State} {mn : MethodName} {code : ByteArray} {maxL : Nat} {ret : Option FieldType} {R : Room} {n0 : Nat} {Q : Option Value → Heap → Prop} {h : Heap} {k n pc q : Nat} {Ls Ls' : Array Slot} {st st' : List Value} {a0 : Array Value}
theorem Go.lif_eq {x y' : Int64} {o : Int} {q' : Nat} (hd : decode code pc = .ok (.ifCond .eq o, 3)) (ho : 0 ≤ (pc : Int) + o) (hq : ((pc : Int) + o).toNat = q) (hq' : q' = pc + 3) (K1 : x = y' → Go l Z mn code maxL ret R n0 Q h k n q Ls st) (K2 : ¬ x = y' → Go l Z mn code maxL ret R n0 Q h k n q' Ls st) : Go l Z mn code maxL ret R n0 Q h k n pc Ls (.int (XT.cmpL x y') :: st) :=
  Go.if_eq hd ho hq hq' (fun c => K1 ((cmpL_eq _ _).mp c)) (fun c => K2 fun e => c ((cmpL_eq _ _).mpr e))
theorem Go.lif_ne {x y' : Int64} {o : Int} {q' : Nat} (hd : decode code pc = .ok (.ifCond .ne o, 3)) (ho : 0 ≤ (pc : Int) + o) (hq : ((pc : Int) + o).toNat = q) (hq' : q' = pc + 3) (K1 : ¬ x = y' → Go l Z mn code maxL ret R n0 Q h k n q Ls st) (K2 : x = y' → Go l Z mn code maxL ret R n0 Q h k n q' Ls st) : Go l Z mn code maxL ret R n0 Q h k n pc Ls (.int (XT.cmpL x y') :: st) :=
  Go.if_ne hd ho hq hq' (fun c => K1 fun e => c ((cmpL_eq _ _).mpr e)) (fun c => K2 ((cmpL_eq _ _).mp c))
theorem Go.lif_lt {x y' : Int64} {o : Int} {q' : Nat} (hd : decode code pc = .ok (.ifCond .lt o, 3)) (ho : 0 ≤ (pc : Int) + o) (hq : ((pc : Int) + o).toNat = q) (hq' : q' = pc + 3) (K1 : x < y' → Go l Z mn code maxL ret R n0 Q h k n q Ls st) (K2 : ¬ x < y' → Go l Z mn code maxL ret R n0 Q h k n q' Ls st) : Go l Z mn code maxL ret R n0 Q h k n pc Ls (.int (XT.cmpL x y') :: st) :=
  Go.if_lt hd ho hq hq' (fun c => K1 ((cmpL_lt _ _).mp c)) (fun c => K2 fun e => c ((cmpL_lt _ _).mpr e))
theorem Go.lif_ge {x y' : Int64} {o : Int} {q' : Nat} (hd : decode code pc = .ok (.ifCond .ge o, 3)) (ho : 0 ≤ (pc : Int) + o) (hq : ((pc : Int) + o).toNat = q) (hq' : q' = pc + 3) (K1 : ¬ x < y' → Go l Z mn code maxL ret R n0 Q h k n q Ls st) (K2 : x < y' → Go l Z mn code maxL ret R n0 Q h k n q' Ls st) : Go l Z mn code maxL ret R n0 Q h k n pc Ls (.int (XT.cmpL x y') :: st) :=
  Go.if_ge hd ho hq hq' (fun c => K1 fun e => c ((cmpL_lt _ _).mpr e)) (fun c => K2 ((cmpL_lt _ _).mp c))
theorem Go.lif_gt {x y' : Int64} {o : Int} {q' : Nat} (hd : decode code pc = .ok (.ifCond .gt o, 3)) (ho : 0 ≤ (pc : Int) + o) (hq : ((pc : Int) + o).toNat = q) (hq' : q' = pc + 3) (K1 : y' < x → Go l Z mn code maxL ret R n0 Q h k n q Ls st) (K2 : ¬ y' < x → Go l Z mn code maxL ret R n0 Q h k n q' Ls st) : Go l Z mn code maxL ret R n0 Q h k n pc Ls (.int (XT.cmpL x y') :: st) :=
  Go.if_gt hd ho hq hq' (fun c => K1 ((cmpL_gt _ _).mp c)) (fun c => K2 fun e => c ((cmpL_gt _ _).mpr e))
theorem Go.lif_le {x y' : Int64} {o : Int} {q' : Nat} (hd : decode code pc = .ok (.ifCond .le o, 3)) (ho : 0 ≤ (pc : Int) + o) (hq : ((pc : Int) + o).toNat = q) (hq' : q' = pc + 3) (K1 : ¬ y' < x → Go l Z mn code maxL ret R n0 Q h k n q Ls st) (K2 : y' < x → Go l Z mn code maxL ret R n0 Q h k n q' Ls st) : Go l Z mn code maxL ret R n0 Q h k n pc Ls (.int (XT.cmpL x y') :: st) :=
  Go.if_le hd ho hq hq' (fun c => K1 fun e => c ((cmpL_gt _ _).mpr e)) (fun c => K2 ((cmpL_gt _ _).mp c))
end Laws2
end Jvm.OwnKit

namespace Jvm.OwnKit
open Jvm Jvm.ClassFile Sem Op Lib Jvm.Free Jvm.Stand Jvm.LawKit Jvm.RoadKit
section Calls
variable {l : Launch} {Z : State} {mn : MethodName} {code : ByteArray} {maxL : Nat} {ret : Option FieldType} {R : Room} {n0 : Nat} {Q : Option Value → Heap → Prop} {h : Heap} {k n pc q : Nat} {Ls Ls' : Array Slot} {st st' : List Value} {a0 : Array Value}
  {y' : MethodName} {code' : ByteArray} {maxL' : Nat} {ret' : Option FieldType} {R' : Room} {Q' : Option Value → Heap → Prop} {argsL rest : List Value} {Ls1 : Array Slot} {ps : List FieldType} {r : Option FieldType} {i wd : Nat}
theorem Go.callS (hd : decode code pc = .ok (.invokestatic i, 3)) (hq : q = pc + 3) (w1 : (Jvm.Cond.methodLink mn.cls i y').before a0 Z = true) (w2 : (Jvm.Cond.static y').before a0 Z = true) (w3 : (Jvm.Cond.initialized y'.cls).before a0 Z = true) (w4 : (Jvm.Cond.code y' code' maxL' ret').before a0 Z = true)
    (hy : y'.cls ≠ "java/lang/invoke/MethodHandle" ∧ y'.cls ≠ "java/lang/invoke/VarHandle") (pn : plainFor y' = true) (pd : parseMethodDescriptor y'.desc = some ⟨ps, r⟩) (hl : argsL.length = ps.length) (hst : st = argsL.reverse ++ rest) (hef : ∀ m, entryFrame m argsL.toArray maxL' = mkF m 0 Ls1 []) (hsz : Ls.size = maxL)
    (hR1 : R'.frames + 1 ≤ R.frames) (hW : (rest.map fun v => v.category).sum = wd) (hR2 : wd + (maxL' + 11) + R'.locals ≤ R.locals) (hc : k + R'.cells ≤ R.cells) (hs : n + R'.slots ≤ R.slots)
    (G : Go l Z y' code' maxL' ret' R' n0 Q' h 0 0 0 Ls1 []) (K : ∀ v h', Q' v h' → Go l Z mn code maxL ret R n0 Q h' (k + R'.cells) (n + R'.slots) q Ls (v.toList ++ rest)) : Go l Z mn code maxL ret R n0 Q h k n pc Ls st := by
  subst hq hst hW
  intro p e s m args below meth c T locs k' n' C X hk hn N eT
  obtain ⟨v, vm1, ⟨T1, L1, k1, n1⟩, -, X1, ⟨Lc, hQ, e1, e2, e3⟩, f⟩ := Jvm.LawKit.callS X C.1 (y := y') C.2.2.2.2.1 (mvT C.2.1 w1) (mvT C.2.1 w2) (mvT C.2.1 w3) (mvT C.2.1 w4) hy (backOf (W := (rest.map fun v => v.category).sum) (Q := fun v h L => Fr n0 L ∧ Q' v h) (G.met pn hef []) C.2.1 w4 w3 hR1 hR2) (g := mkF m pc Ls (argsL.reverse ++ rest)) rfl (by rw [C.2.2.2.1]; exact hsz) (argsL := argsL) (rest := rest) (lenOf pd hl) rfl (by simp) (hb C.2.2.1 hd) (fun _ _ => ⟨rfl, eT, by show k' + _ ≤ _; omega, by show n' + _ ≤ _; omega⟩)
  dsimp only [Pt.U, Pt.locs, Pt.cells, Pt.slots] at X1 e1 e2 e3 f hQ
  subst e1 e2 e3
  exact (K v T1.heap hQ.2 p e s m args below meth c T1 _ _ _ C X1 (by omega) (by omega) (Fr.app N hQ.1) rfl).step f
theorem Go.callV {C : String} {a : Addr} (hd : decode code pc = .ok (.invokevirtual i, 3)) (hq : q = pc + 3) (w1 : (Jvm.Cond.methodLink mn.cls i y').before a0 Z = true) (w2 : (Jvm.Cond.declares y').before a0 Z = true) (w3 : (Jvm.Cond.selects C y' y').before a0 Z = true) (w4 : (Jvm.Cond.instanceMethod y').before a0 Z = true) (w5 : (Jvm.Cond.code y' code' maxL' ret').before a0 Z = true) (w6 : (Jvm.Cond.initialized y'.cls).before a0 Z = true)
    (hy : y'.cls ≠ "java/lang/invoke/MethodHandle" ∧ y'.cls ≠ "java/lang/invoke/VarHandle") (pn : plainFor y' = true) (pd : parseMethodDescriptor y'.desc = some ⟨ps, r⟩) (hl : argsL.length = ps.length) (hst : st = argsL.reverse ++ .ref a :: rest) (E : Exa Z h a C) (hef : ∀ m, entryFrame m (.ref a :: argsL).toArray maxL' = mkF m 0 Ls1 []) (hsz : Ls.size = maxL)
    (hR1 : R'.frames + 1 ≤ R.frames) (hW : (rest.map fun v => v.category).sum = wd) (hR2 : wd + (maxL' + 11) + R'.locals ≤ R.locals) (hc : k + R'.cells ≤ R.cells) (hs : n + R'.slots ≤ R.slots)
    (G : Go l Z y' code' maxL' ret' R' n0 Q' h 0 0 0 Ls1 []) (K : ∀ v h', Q' v h' → Go l Z mn code maxL ret R n0 Q h' (k + R'.cells) (n + R'.slots) q Ls (v.toList ++ rest)) : Go l Z mn code maxL ret R n0 Q h k n pc Ls st := by
  subst hq hst hW
  intro p e s m args below meth c T locs k' n' Cc X hk hn N eT
  obtain ⟨cq, kq, qa, qb, qc⟩ := isOf Cc.2.1 eT E
  obtain ⟨v, vm1, ⟨T1, L1, k1, n1⟩, -, X1, ⟨Lc, hQ, e1, e2, e3⟩, f⟩ := X.virtualBack Cc.1 (y := y') (z := y') Cc.2.2.2.2.1 (mvT Cc.2.1 w1) (mvT Cc.2.1 w2) (notFace_of_selects (args := #[]) (mvT Cc.2.1 w3)) (mvT Cc.2.1 w3) (mvT Cc.2.1 w4) hy (backOf (W := (rest.map fun v => v.category).sum) (Q := fun v h L => Fr n0 L ∧ Q' v h) (G.met pn hef []) Cc.2.1 w5 w6 hR1 hR2) qa qc (g := mkF m pc Ls (argsL.reverse ++ .ref a :: rest)) rfl (by rw [Cc.2.2.2.1]; exact hsz) (Steps.refl _) (argsL := argsL) (rest := rest) (lenOf pd hl) rfl (by simp) (hb Cc.2.2.1 hd) (fun _ _ => ⟨rfl, eT, by show k' + _ ≤ _; omega, by show n' + _ ≤ _; omega⟩)
  dsimp only [Pt.U, Pt.locs, Pt.cells, Pt.slots] at X1 e1 e2 e3 f hQ
  subst e1 e2 e3
  exact (K v T1.heap hQ.2 p e s m args below meth c T1 _ _ _ Cc X1 (by omega) (by omega) (Fr.app N hQ.1) rfl).step fun t r => f.trans r
theorem Go.callI {a : Addr} (hd : decode code pc = .ok (.invokespecial i, 3)) (hq : q = pc + 3) (hn1 : y'.name = "<init>") (w1 : (Jvm.Cond.methodLink mn.cls i y').before a0 Z = true) (w2 : (Jvm.Cond.instanceMethod y').before a0 Z = true) (w3 : (Jvm.Cond.initialized y'.cls).before a0 Z = true) (w4 : (Jvm.Cond.code y' code' maxL' none).before a0 Z = true)
    (hy : y'.cls ≠ "java/lang/invoke/MethodHandle" ∧ y'.cls ≠ "java/lang/invoke/VarHandle") (pn : plainFor y' = true) (pd : parseMethodDescriptor y'.desc = some ⟨ps, r⟩) (hl : argsL.length = ps.length) (hst : st = argsL.reverse ++ .ref a :: rest) (hef : ∀ m, entryFrame m (.ref a :: argsL).toArray maxL' = mkF m 0 Ls1 []) (hsz : Ls.size = maxL)
    (hR1 : R'.frames + 1 ≤ R.frames) (hW : (rest.map fun v => v.category).sum = wd) (hR2 : wd + (maxL' + 11) + R'.locals ≤ R.locals) (hc : k + R'.cells ≤ R.cells) (hs : n + R'.slots ≤ R.slots)
    (G : Go l Z y' code' maxL' none R' n0 Q' h 0 0 0 Ls1 []) (K : ∀ v h', Q' v h' → Go l Z mn code maxL ret R n0 Q h' (k + R'.cells) (n + R'.slots) q Ls (v.toList ++ rest)) : Go l Z mn code maxL ret R n0 Q h k n pc Ls st := by
  subst hq hst hW
  intro p e s m args below meth c T locs k' n' Cc X hk hn N eT
  obtain ⟨v, vm1, ⟨T1, L1, k1, n1⟩, -, X1, ⟨Lc, hQ, e1, e2, e3⟩, f⟩ := X.specialBack Cc.1 (y := y') hn1 Cc.2.2.2.2.1 (mvT Cc.2.1 w1) (mvT Cc.2.1 w2) (mvT Cc.2.1 w4) hy (backOf (W := (rest.map fun v => v.category).sum) (Q := fun v h L => Fr n0 L ∧ Q' v h) (G.met pn hef []) Cc.2.1 w4 w3 hR1 hR2) (g := mkF m pc Ls (argsL.reverse ++ .ref a :: rest)) rfl (by rw [Cc.2.2.2.1]; exact hsz) (Steps.refl _) (a := a) (argsL := argsL) (rest := rest) (lenOf pd hl) rfl (by simp) (hb Cc.2.2.1 hd) (fun _ _ => ⟨rfl, eT, by show k' + _ ≤ _; omega, by show n' + _ ≤ _; omega⟩)
  dsimp only [Pt.U, Pt.locs, Pt.cells, Pt.slots] at X1 e1 e2 e3 f hQ
  subst e1 e2 e3
  exact (K v T1.heap hQ.2 p e s m args below meth c T1 _ _ _ Cc X1 (by omega) (by omega) (Fr.app N hQ.1) rfl).step fun t r => f.trans r
theorem Go.callSV {P : Value → Heap → Prop} (hd : decode code pc = .ok (.invokestatic i, 3)) (hq : q = pc + 3) (w1 : (Jvm.Cond.methodLink mn.cls i y').before a0 Z = true) (w2 : (Jvm.Cond.static y').before a0 Z = true) (w3 : (Jvm.Cond.initialized y'.cls).before a0 Z = true) (w4 : (Jvm.Cond.code y' code' maxL' ret').before a0 Z = true)
    (hy : y'.cls ≠ "java/lang/invoke/MethodHandle" ∧ y'.cls ≠ "java/lang/invoke/VarHandle") (pn : plainFor y' = true) (pd : parseMethodDescriptor y'.desc = some ⟨ps, r⟩) (hl : argsL.length = ps.length) (hst : st = argsL.reverse ++ rest) (hef : ∀ m, entryFrame m argsL.toArray maxL' = mkF m 0 Ls1 []) (hsz : Ls.size = maxL)
    (hR1 : R'.frames + 1 ≤ R.frames) (hW : (rest.map fun v => v.category).sum = wd) (hR2 : wd + (maxL' + 11) + R'.locals ≤ R.locals) (hc : k + R'.cells ≤ R.cells) (hs : n + R'.slots ≤ R.slots)
    (G : Go l Z y' code' maxL' ret' R' n0 (RV P) h 0 0 0 Ls1 []) (K : ∀ w h', P w h' → Go l Z mn code maxL ret R n0 Q h' (k + R'.cells) (n + R'.slots) q Ls (w :: rest)) : Go l Z mn code maxL ret R n0 Q h k n pc Ls st :=
  Go.callS hd hq w1 w2 w3 w4 hy pn pd hl hst hef hsz hR1 hW hR2 hc hs G fun v h' ⟨w, e, q⟩ => by subst e; exact K w h' q
theorem Go.callSN {P : Heap → Prop} (hd : decode code pc = .ok (.invokestatic i, 3)) (hq : q = pc + 3) (w1 : (Jvm.Cond.methodLink mn.cls i y').before a0 Z = true) (w2 : (Jvm.Cond.static y').before a0 Z = true) (w3 : (Jvm.Cond.initialized y'.cls).before a0 Z = true) (w4 : (Jvm.Cond.code y' code' maxL' ret').before a0 Z = true)
    (hy : y'.cls ≠ "java/lang/invoke/MethodHandle" ∧ y'.cls ≠ "java/lang/invoke/VarHandle") (pn : plainFor y' = true) (pd : parseMethodDescriptor y'.desc = some ⟨ps, r⟩) (hl : argsL.length = ps.length) (hst : st = argsL.reverse ++ rest) (hef : ∀ m, entryFrame m argsL.toArray maxL' = mkF m 0 Ls1 []) (hsz : Ls.size = maxL)
    (hR1 : R'.frames + 1 ≤ R.frames) (hW : (rest.map fun v => v.category).sum = wd) (hR2 : wd + (maxL' + 11) + R'.locals ≤ R.locals) (hc : k + R'.cells ≤ R.cells) (hs : n + R'.slots ≤ R.slots)
    (G : Go l Z y' code' maxL' ret' R' n0 (RN P) h 0 0 0 Ls1 []) (K : ∀ h', P h' → Go l Z mn code maxL ret R n0 Q h' (k + R'.cells) (n + R'.slots) q Ls rest) : Go l Z mn code maxL ret R n0 Q h k n pc Ls st :=
  Go.callS hd hq w1 w2 w3 w4 hy pn pd hl hst hef hsz hR1 hW hR2 hc hs G fun v h' ⟨e, q⟩ => by subst e; exact K h' q
theorem Go.callVV {P : Value → Heap → Prop} {C : String} {a : Addr} (hd : decode code pc = .ok (.invokevirtual i, 3)) (hq : q = pc + 3) (w1 : (Jvm.Cond.methodLink mn.cls i y').before a0 Z = true) (w2 : (Jvm.Cond.declares y').before a0 Z = true) (w3 : (Jvm.Cond.selects C y' y').before a0 Z = true) (w4 : (Jvm.Cond.instanceMethod y').before a0 Z = true) (w5 : (Jvm.Cond.code y' code' maxL' ret').before a0 Z = true) (w6 : (Jvm.Cond.initialized y'.cls).before a0 Z = true)
    (hy : y'.cls ≠ "java/lang/invoke/MethodHandle" ∧ y'.cls ≠ "java/lang/invoke/VarHandle") (pn : plainFor y' = true) (pd : parseMethodDescriptor y'.desc = some ⟨ps, r⟩) (hl : argsL.length = ps.length) (hst : st = argsL.reverse ++ .ref a :: rest) (E : Exa Z h a C) (hef : ∀ m, entryFrame m (.ref a :: argsL).toArray maxL' = mkF m 0 Ls1 []) (hsz : Ls.size = maxL)
    (hR1 : R'.frames + 1 ≤ R.frames) (hW : (rest.map fun v => v.category).sum = wd) (hR2 : wd + (maxL' + 11) + R'.locals ≤ R.locals) (hc : k + R'.cells ≤ R.cells) (hs : n + R'.slots ≤ R.slots)
    (G : Go l Z y' code' maxL' ret' R' n0 (RV P) h 0 0 0 Ls1 []) (K : ∀ w h', P w h' → Go l Z mn code maxL ret R n0 Q h' (k + R'.cells) (n + R'.slots) q Ls (w :: rest)) : Go l Z mn code maxL ret R n0 Q h k n pc Ls st :=
  Go.callV hd hq w1 w2 w3 w4 w5 w6 hy pn pd hl hst E hef hsz hR1 hW hR2 hc hs G fun v h' ⟨w, e, q⟩ => by subst e; exact K w h' q
theorem Go.callVN {P : Heap → Prop} {C : String} {a : Addr} (hd : decode code pc = .ok (.invokevirtual i, 3)) (hq : q = pc + 3) (w1 : (Jvm.Cond.methodLink mn.cls i y').before a0 Z = true) (w2 : (Jvm.Cond.declares y').before a0 Z = true) (w3 : (Jvm.Cond.selects C y' y').before a0 Z = true) (w4 : (Jvm.Cond.instanceMethod y').before a0 Z = true) (w5 : (Jvm.Cond.code y' code' maxL' ret').before a0 Z = true) (w6 : (Jvm.Cond.initialized y'.cls).before a0 Z = true)
    (hy : y'.cls ≠ "java/lang/invoke/MethodHandle" ∧ y'.cls ≠ "java/lang/invoke/VarHandle") (pn : plainFor y' = true) (pd : parseMethodDescriptor y'.desc = some ⟨ps, r⟩) (hl : argsL.length = ps.length) (hst : st = argsL.reverse ++ .ref a :: rest) (E : Exa Z h a C) (hef : ∀ m, entryFrame m (.ref a :: argsL).toArray maxL' = mkF m 0 Ls1 []) (hsz : Ls.size = maxL)
    (hR1 : R'.frames + 1 ≤ R.frames) (hW : (rest.map fun v => v.category).sum = wd) (hR2 : wd + (maxL' + 11) + R'.locals ≤ R.locals) (hc : k + R'.cells ≤ R.cells) (hs : n + R'.slots ≤ R.slots)
    (G : Go l Z y' code' maxL' ret' R' n0 (RN P) h 0 0 0 Ls1 []) (K : ∀ h', P h' → Go l Z mn code maxL ret R n0 Q h' (k + R'.cells) (n + R'.slots) q Ls rest) : Go l Z mn code maxL ret R n0 Q h k n pc Ls st :=
  Go.callV hd hq w1 w2 w3 w4 w5 w6 hy pn pd hl hst E hef hsz hR1 hW hR2 hc hs G fun v h' ⟨e, q⟩ => by subst e; exact K h' q
theorem Go.callIN {P : Heap → Prop} {a : Addr} (hd : decode code pc = .ok (.invokespecial i, 3)) (hq : q = pc + 3) (hn1 : y'.name = "<init>") (w1 : (Jvm.Cond.methodLink mn.cls i y').before a0 Z = true) (w2 : (Jvm.Cond.instanceMethod y').before a0 Z = true) (w3 : (Jvm.Cond.initialized y'.cls).before a0 Z = true) (w4 : (Jvm.Cond.code y' code' maxL' none).before a0 Z = true)
    (hy : y'.cls ≠ "java/lang/invoke/MethodHandle" ∧ y'.cls ≠ "java/lang/invoke/VarHandle") (pn : plainFor y' = true) (pd : parseMethodDescriptor y'.desc = some ⟨ps, r⟩) (hl : argsL.length = ps.length) (hst : st = argsL.reverse ++ .ref a :: rest) (hef : ∀ m, entryFrame m (.ref a :: argsL).toArray maxL' = mkF m 0 Ls1 []) (hsz : Ls.size = maxL)
    (hR1 : R'.frames + 1 ≤ R.frames) (hW : (rest.map fun v => v.category).sum = wd) (hR2 : wd + (maxL' + 11) + R'.locals ≤ R.locals) (hc : k + R'.cells ≤ R.cells) (hs : n + R'.slots ≤ R.slots)
    (G : Go l Z y' code' maxL' none R' n0 (RN P) h 0 0 0 Ls1 []) (K : ∀ h', P h' → Go l Z mn code maxL ret R n0 Q h' (k + R'.cells) (n + R'.slots) q Ls rest) : Go l Z mn code maxL ret R n0 Q h k n pc Ls st :=
  Go.callI hd hq hn1 w1 w2 w3 w4 hy pn pd hl hst hef hsz hR1 hW hR2 hc hs G fun v h' ⟨e, q⟩ => by subst e; exact K h' q
end Calls
section Rets
variable {l : Launch} {Z : State} {mn : MethodName} {code : ByteArray} {maxL : Nat} {R : Room} {n0 : Nat} {Q : Option Value → Heap → Prop} {h : Heap} {k n pc q : Nat} {Ls : Array Slot} {st : List Value}
theorem Go.retOut {w : Value} {t : FieldType} {i : Instr} (hd : decode code pc = .ok (i, 1)) (hna : narrow t w = w)
    (hi : (i = .ireturn ∧ (t = .int ∨ t = .boolean ∨ t = .byte ∨ t = .char ∨ t = .short) ∧ ∃ z, w = .int z) ∨ (i = .lreturn ∧ t = .long ∧ ∃ z, w = .long z) ∨ (i = .dreturn ∧ t = .double ∧ ∃ z, w = .double z) ∨ (i = .freturn ∧ t = .float ∧ ∃ z, w = .float z) ∨ (i = .areturn ∧ t.isReference = true ∧ w.isRef = true))
    (hk : k ≤ R.cells) (hn : n ≤ R.slots) (hQ : Q (some w) h) : Go l Z mn code maxL (some t) R n0 Q h k n pc Ls (w :: st) := by
  intro p e s m args below meth c T locs k' n' C X hk' hn' N eT
  obtain ⟨fs, hr, hrun, hended, hW, hsame⟩ := X.leave (v := some w) (fun hh => by rw [C.2.2.2.2.2.1] at hh; cases hh) C.2.2.2.2.2.2.1
  exact ⟨_, _, RoadKit.retOut X C.1 C.2.2.2.2.2.1 hna hi (hb C.2.2.1 hd) hr, hrun, hended, _, locs, rfl, ⟨N, by show Q _ T.heap; rw [eT]; exact hQ⟩, ⟨_, rfl⟩, hW, hsame.mono (by omega) (by omega)⟩
theorem Go.ireturn {z : Int32} (hd : decode code pc = .ok (.ireturn, 1)) (hk : k ≤ R.cells) (hn : n ≤ R.slots) (hQ : Q (some (.int z)) h) : Go l Z mn code maxL (some .int) R n0 Q h k n pc Ls (.int z :: st) :=
  Go.retOut hd rfl (Or.inl ⟨rfl, Or.inl rfl, z, rfl⟩) hk hn hQ
theorem Go.zreturn {z : Int32} (hd : decode code pc = .ok (.ireturn, 1)) (hk : k ≤ R.cells) (hn : n ≤ R.slots) (hz : z = 0 ∨ z = 1) (hQ : Q (some (.int z)) h) : Go l Z mn code maxL (some .boolean) R n0 Q h k n pc Ls (.int z :: st) :=
  Go.retOut hd (by rcases hz with rfl | rfl <;> rfl) (Or.inl ⟨rfl, Or.inr (Or.inl rfl), z, rfl⟩) hk hn hQ
theorem Go.creturn {z : Int32} (hd : decode code pc = .ok (.ireturn, 1)) (hk : k ≤ R.cells) (hn : n ≤ R.slots) (hz : narrow .char (.int z) = .int z) (hQ : Q (some (.int z)) h) : Go l Z mn code maxL (some .char) R n0 Q h k n pc Ls (.int z :: st) :=
  Go.retOut hd hz (Or.inl ⟨rfl, Or.inr (Or.inr (Or.inr (Or.inl rfl))), z, rfl⟩) hk hn hQ
theorem Go.lreturn {z : Int64} (hd : decode code pc = .ok (.lreturn, 1)) (hk : k ≤ R.cells) (hn : n ≤ R.slots) (hQ : Q (some (.long z)) h) : Go l Z mn code maxL (some .long) R n0 Q h k n pc Ls (.long z :: st) :=
  Go.retOut hd rfl (Or.inr (Or.inl ⟨rfl, rfl, z, rfl⟩)) hk hn hQ
theorem Go.areturn {w : Value} {t : FieldType} (hd : decode code pc = .ok (.areturn, 1)) (hk : k ≤ R.cells) (hn : n ≤ R.slots) (ht : t.isReference = true) (hw : w.isRef = true) (hQ : Q (some w) h) : Go l Z mn code maxL (some t) R n0 Q h k n pc Ls (w :: st) :=
  Go.retOut hd (by rcases ref_cases hw with rfl | ⟨a, rfl⟩ <;> cases t <;> first | exact absurd ht (by decide) | rfl) (Or.inr (Or.inr (Or.inr (Or.inr ⟨rfl, ht, hw⟩)))) hk hn hQ
theorem Go.vreturn (hd : decode code pc = .ok (.return_, 1)) (hk : k ≤ R.cells) (hn : n ≤ R.slots) (hQ : Q none h) : Go l Z mn code maxL none R n0 Q h k n pc Ls [] := by
  intro p e s m args below meth c T locs k' n' C X hk' hn' N eT
  obtain ⟨fs, hr, hrun, hended, hW, hsame⟩ := X.leave (v := none) (fun _ => rfl) C.2.2.2.2.2.2.1
  exact ⟨_, _, X.returnOut C.1 C.2.2.2.2.2.1 (hb C.2.2.1 hd) hr, hrun, hended, _, locs, rfl, ⟨N, by show Q _ T.heap; rw [eT]; exact hQ⟩, ⟨_, rfl⟩, hW, hsame.mono (by omega) (by omega)⟩
end Rets
/-- an array's whole content -/
def Ar (Z : State) (h : Heap) (a : Addr) (ty : FieldType) (cA : ClassId) (vs : List Value) : Prop := ∃ c : Cell, Arr Z h a c ty ∧ c.cls = cA ∧ c.slots.toList = vs
section Arrs
variable {Z : State} {h h' : Heap} {a b : Addr} {ty : FieldType} {cA : ClassId} {vs : List Value} {sl : Nat} {v : Value} {ws : List Addr}
theorem Ar.lt (F : Ar Z h a ty cA vs) : a < h.size := by obtain ⟨c, A, -⟩ := F; exact A.lt
theorem Ar.ext (F : Ar Z h a ty cA vs) (E : Ext h h') : Ar Z h' a ty cA vs := by obtain ⟨c, A, r⟩ := F; exact ⟨c, A.ext E, r⟩
theorem Ar.other (F : Ar Z h b ty cA vs) (W : Wr h h' a sl v) (q : b ≠ a) : Ar Z h' b ty cA vs := by obtain ⟨c, A, r⟩ := F; exact ⟨c, A.other W q, r⟩
theorem Ar.keep (F : Ar Z h a ty cA vs) (K : Keep h h' ws) (q : a ∉ ws) : Ar Z h' a ty cA vs := by obtain ⟨c, A, r⟩ := F; exact ⟨c, ⟨K.2.1 a c A.1 q, A.2⟩, r⟩
theorem Ar.set (F : Ar Z h a ty cA vs) (W : Wr h h' a sl v) : Ar Z h' a ty cA (vs.set sl v) := by
  obtain ⟨c, A, r1, r2⟩ := F
  exact ⟨_, A.same W, r1, by simp [Cell.setSlot, r2]⟩
theorem Ar.size (F : Ar Z h a ty cA vs) {c : Cell} (hc : h[a]? = some c) : c.slots.size = vs.length := by
  obtain ⟨c', A, -, r⟩ := F
  cases hc.symm.trans A.1
  rw [← r]; simp
theorem Ar.ne {C : String} {k : Nat} {a0 : Array Value} (F : Exa Z h b C) (wi : (Jvm.Cond.instantiable C k).before a0 Z = true) (G : Ar Z h a ty cA vs) : b ≠ a := by
  obtain ⟨c, A, -⟩ := G; exact ne_arr F wi A
end Arrs
section ArrSteps
variable {l : Launch} {Z : State} {mn : MethodName} {code : ByteArray} {maxL : Nat} {ret : Option FieldType} {R : Room} {n0 : Nat} {Q : Option Value → Heap → Prop} {h : Heap} {k n pc q : Nat} {Ls : Array Slot} {st : List Value} {a0 : Array Value} {a : Addr} {ty : FieldType} {cA : ClassId} {vs : List Value} {v : Value} {j x : Int32}
theorem inb {c : Cell} (hj : ¬ j < 0) (r : c.slots.toList = vs) (hv : j.toNatClampNeg < vs.length) : ¬ (j < 0 ∨ c.slots.size ≤ j.toNatClampNeg) := by
  rintro (q | q)
  · exact hj q
  · rw [← r] at hv; simp at hv; omega
theorem at_l {c : Cell} {i : Nat} (r : c.slots.toList = vs) (hv : vs[i]? = some v) : c.slots[i]? = some v := by rw [← r] at hv; simpa using hv
theorem Go.arraylength (hd : decode code pc = .ok (.arraylength, 1)) (hq : q = pc + 1) (A : Ar Z h a ty cA vs) {z : Int32} (hz : vs.length.toInt32 = z) (K : Go l Z mn code maxL ret R n0 Q h k n q Ls (.int z :: st)) : Go l Z mn code maxL ret R n0 Q h k n pc Ls (.ref a :: st) := by
  subst hq hz
  intro p e s m args below meth c T locs k' n' C X hk hn N eT
  obtain ⟨cl, A, r1, r2⟩ := A
  exact (K p e s m args below meth c T locs k' n' C X hk hn N eT).step fun t r => X.arraylength (g := mkF m pc Ls (.ref a :: st)) C.1 (by rw [eT]; exact A.1) (State.isArrayOf_alike C.2.1.alike A.2.1) rfl rfl (hb C.2.2.1 hd) t (by rw [show cl.slots.size = vs.length by rw [← r2]; simp]; exact r)
theorem Go.iaload (hd : decode code pc = .ok (.iaload, 1)) (hq : q = pc + 1) (A : Ar Z h a .int cA vs) (hj : ¬ j < 0) (hv : vs[j.toNatClampNeg]? = some v) (K : Go l Z mn code maxL ret R n0 Q h k n q Ls (v :: st)) : Go l Z mn code maxL ret R n0 Q h k n pc Ls (.int j :: .ref a :: st) := by
  subst hq
  intro p e s m args below meth c T locs k' n' C X hk hn N eT
  obtain ⟨cl, A, r1, r2⟩ := A
  exact (K p e s m args below meth c T locs k' n' C X hk hn N eT).step fun t r => X.iaload (g := mkF m pc Ls (.int j :: .ref a :: st)) C.1 (by rw [eT]; exact A.1) (State.isArrayOf_alike C.2.1.alike A.2.1) A.2.2 (inb hj r2 (List.getElem?_eq_some_iff.mp hv).1) (at_l r2 hv) rfl rfl (hb C.2.2.1 hd) t r
theorem Go.laload (hd : decode code pc = .ok (.laload, 1)) (hq : q = pc + 1) (A : Ar Z h a .long cA vs) (hj : ¬ j < 0) (hv : vs[j.toNatClampNeg]? = some v) (K : Go l Z mn code maxL ret R n0 Q h k n q Ls (v :: st)) : Go l Z mn code maxL ret R n0 Q h k n pc Ls (.int j :: .ref a :: st) := by
  subst hq
  intro p e s m args below meth c T locs k' n' C X hk hn N eT
  obtain ⟨cl, A, r1, r2⟩ := A
  exact (K p e s m args below meth c T locs k' n' C X hk hn N eT).step fun t r => X.laload (g := mkF m pc Ls (.int j :: .ref a :: st)) C.1 (by rw [eT]; exact A.1) (State.isArrayOf_alike C.2.1.alike A.2.1) A.2.2 (inb hj r2 (List.getElem?_eq_some_iff.mp hv).1) (at_l r2 hv) rfl rfl (hb C.2.2.1 hd) t r
theorem Go.caload (hd : decode code pc = .ok (.caload, 1)) (hq : q = pc + 1) (A : Ar Z h a .char cA vs) (hj : ¬ j < 0) (hv : vs[j.toNatClampNeg]? = some v) (K : Go l Z mn code maxL ret R n0 Q h k n q Ls (v :: st)) : Go l Z mn code maxL ret R n0 Q h k n pc Ls (.int j :: .ref a :: st) := by
  subst hq
  intro p e s m args below meth c T locs k' n' C X hk hn N eT
  obtain ⟨cl, A, r1, r2⟩ := A
  exact (K p e s m args below meth c T locs k' n' C X hk hn N eT).step fun t r => X.caload (g := mkF m pc Ls (.int j :: .ref a :: st)) C.1 (by rw [eT]; exact A.1) (State.isArrayOf_alike C.2.1.alike A.2.1) A.2.2 (inb hj r2 (List.getElem?_eq_some_iff.mp hv).1) (at_l r2 hv) rfl rfl (hb C.2.2.1 hd) t r
theorem Go.zaload (hd : decode code pc = .ok (.baload, 1)) (hq : q = pc + 1) (A : Ar Z h a .boolean cA vs) (hj : ¬ j < 0) (hv : vs[j.toNatClampNeg]? = some v) (K : Go l Z mn code maxL ret R n0 Q h k n q Ls (v :: st)) : Go l Z mn code maxL ret R n0 Q h k n pc Ls (.int j :: .ref a :: st) := by
  subst hq
  intro p e s m args below meth c T locs k' n' C X hk hn N eT
  obtain ⟨cl, A, r1, r2⟩ := A
  exact (K p e s m args below meth c T locs k' n' C X hk hn N eT).step fun t r => X.baloadBooleans (g := mkF m pc Ls (.int j :: .ref a :: st)) C.1 (by rw [eT]; exact A.1) (State.isArrayOf_alike C.2.1.alike A.2.1) A.2.2 (inb hj r2 (List.getElem?_eq_some_iff.mp hv).1) (at_l r2 hv) rfl rfl (hb C.2.2.1 hd) t r
theorem Go.baload (hd : decode code pc = .ok (.baload, 1)) (hq : q = pc + 1) (A : Ar Z h a .byte cA vs) (hj : ¬ j < 0) (hv : vs[j.toNatClampNeg]? = some v) (K : Go l Z mn code maxL ret R n0 Q h k n q Ls (v :: st)) : Go l Z mn code maxL ret R n0 Q h k n pc Ls (.int j :: .ref a :: st) := by
  subst hq
  intro p e s m args below meth c T locs k' n' C X hk hn N eT
  obtain ⟨cl, A, r1, r2⟩ := A
  exact (K p e s m args below meth c T locs k' n' C X hk hn N eT).step fun t r => X.baloadBytes (g := mkF m pc Ls (.int j :: .ref a :: st)) C.1 (by rw [eT]; exact A.1) (State.isArrayOf_alike C.2.1.alike A.2.1) A.2.2 (inb hj r2 (List.getElem?_eq_some_iff.mp hv).1) (at_l r2 hv) rfl rfl (hb C.2.2.1 hd) t r
theorem Go.aaload (hd : decode code pc = .ok (.aaload, 1)) (hq : q = pc + 1) (A : Ar Z h a ty cA vs) (ht : ty.isReference = true) (hj : ¬ j < 0) (hv : vs[j.toNatClampNeg]? = some v) (K : Go l Z mn code maxL ret R n0 Q h k n q Ls (v :: st)) : Go l Z mn code maxL ret R n0 Q h k n pc Ls (.int j :: .ref a :: st) := by
  subst hq
  intro p e s m args below meth c T locs k' n' C X hk hn N eT
  obtain ⟨cl, A, r1, r2⟩ := A
  exact (K p e s m args below meth c T locs k' n' C X hk hn N eT).step fun t r => X.aaload (g := mkF m pc Ls (.int j :: .ref a :: st)) C.1 (by rw [eT]; exact A.1) (State.isArrayOf_alike C.2.1.alike A.2.1) ht A.2.2 (inb hj r2 (List.getElem?_eq_some_iff.mp hv).1) (at_l r2 hv) rfl rfl (hb C.2.2.1 hd) t r
theorem Go.iastore (hd : decode code pc = .ok (.iastore, 1)) (hq : q = pc + 1) (A : Ar Z h a .int cA vs) (hj : ¬ j < 0) (hv : j.toNatClampNeg < vs.length) (ha : n0 ≤ a) (K : ∀ h', Wr h h' a j.toNatClampNeg (.int x) → Go l Z mn code maxL ret R n0 Q h' k n q Ls st) : Go l Z mn code maxL ret R n0 Q h k n pc Ls (.int x :: .int j :: .ref a :: st) := by
  subst hq
  intro p e s m args below meth c T locs k' n' C X hk hn N eT
  obtain ⟨cl, A, r1, r2⟩ := A
  obtain ⟨T', h', X', e', W, f⟩ := stI X C.1 C.2.1 eT A (inb hj r2 hv) (g := mkF m pc Ls (.int x :: .int j :: .ref a :: st)) rfl rfl (hb C.2.2.1 hd)
  exact (K h' W p e s m args below meth c T' _ k' n' C X' hk hn (Fr.snoc X' N ha) e').step f
theorem Go.lastore {x : Int64} (hd : decode code pc = .ok (.lastore, 1)) (hq : q = pc + 1) (A : Ar Z h a .long cA vs) (hj : ¬ j < 0) (hv : j.toNatClampNeg < vs.length) (ha : n0 ≤ a) (K : ∀ h', Wr h h' a j.toNatClampNeg (.long x) → Go l Z mn code maxL ret R n0 Q h' k n q Ls st) : Go l Z mn code maxL ret R n0 Q h k n pc Ls (.long x :: .int j :: .ref a :: st) := by
  subst hq
  intro p e s m args below meth c T locs k' n' C X hk hn N eT
  obtain ⟨cl, A, r1, r2⟩ := A
  obtain ⟨T', h', X', e', W, f⟩ := stJ X C.1 C.2.1 eT A (inb hj r2 hv) (g := mkF m pc Ls (.long x :: .int j :: .ref a :: st)) rfl rfl (hb C.2.2.1 hd)
  exact (K h' W p e s m args below meth c T' _ k' n' C X' hk hn (Fr.snoc X' N ha) e').step f
theorem Go.castore (hd : decode code pc = .ok (.castore, 1)) (hq : q = pc + 1) (A : Ar Z h a .char cA vs) (hj : ¬ j < 0) (hv : j.toNatClampNeg < vs.length) (ha : n0 ≤ a) (K : ∀ h', Wr h h' a j.toNatClampNeg (.int (nar .char x)) → Go l Z mn code maxL ret R n0 Q h' k n q Ls st) : Go l Z mn code maxL ret R n0 Q h k n pc Ls (.int x :: .int j :: .ref a :: st) := by
  subst hq
  intro p e s m args below meth c T locs k' n' C X hk hn N eT
  obtain ⟨cl, A, r1, r2⟩ := A
  obtain ⟨T', h', X', e', W, f⟩ := stC X C.1 C.2.1 eT A (inb hj r2 hv) (g := mkF m pc Ls (.int x :: .int j :: .ref a :: st)) rfl rfl (hb C.2.2.1 hd)
  exact (K h' W p e s m args below meth c T' _ k' n' C X' hk hn (Fr.snoc X' N ha) e').step f
theorem Go.zastore (hd : decode code pc = .ok (.bastore, 1)) (hq : q = pc + 1) (A : Ar Z h a .boolean cA vs) (hj : ¬ j < 0) (hv : j.toNatClampNeg < vs.length) (ha : n0 ≤ a) (K : ∀ h', Wr h h' a j.toNatClampNeg (.int (nar .boolean x)) → Go l Z mn code maxL ret R n0 Q h' k n q Ls st) : Go l Z mn code maxL ret R n0 Q h k n pc Ls (.int x :: .int j :: .ref a :: st) := by
  subst hq
  intro p e s m args below meth c T locs k' n' C X hk hn N eT
  obtain ⟨cl, A, r1, r2⟩ := A
  obtain ⟨T', h', X', e', W, f⟩ := stZ X C.1 C.2.1 eT A (inb hj r2 hv) (g := mkF m pc Ls (.int x :: .int j :: .ref a :: st)) rfl rfl (hb C.2.2.1 hd)
  exact (K h' W p e s m args below meth c T' _ k' n' C X' hk hn (Fr.snoc X' N ha) e').step f
theorem Go.aastore (hd : decode code pc = .ok (.aastore, 1)) (hq : q = pc + 1) (A : Ar Z h a ty cA vs) (ht : ty.isReference = true) (hj : ¬ j < 0) (hv : j.toNatClampNeg < vs.length) (S : Sto Z h a v) (ha : n0 ≤ a) (K : ∀ h', Wr h h' a j.toNatClampNeg v → Go l Z mn code maxL ret R n0 Q h' k n q Ls st) : Go l Z mn code maxL ret R n0 Q h k n pc Ls (v :: .int j :: .ref a :: st) := by
  subst hq
  intro p e s m args below meth c T locs k' n' C X hk hn N eT
  obtain ⟨cl, A, r1, r2⟩ := A
  obtain ⟨T', h', X', e', W, f⟩ := stR X C.1 C.2.1 eT A (inb hj r2 hv) ht S (g := mkF m pc Ls (v :: .int j :: .ref a :: st)) rfl rfl (hb C.2.2.1 hd)
  exact (K h' W p e s m args below meth c T' _ k' n' C X' hk hn (Fr.snoc X' N ha) e').step f
theorem Go.newarray {aty : ArrayType} {z : Int32} {cap : Nat} (hd : decode code pc = .ok (.newarray aty, 2)) (hq : q = pc + 2) (w : (Jvm.Cond.arrayClass (newarray.typeOf aty)).before a0 Z = true) (hz : ¬ z < 0) (hcap : z.toNatClampNeg ≤ cap) (hb8 : cap * 8 ≤ 536870912) (hc : k + 1 ≤ R.cells) (hs : n + cap ≤ R.slots)
    (K : ∀ h' a cA, a = h.size → Ext h h' → Ar Z h' a (newarray.typeOf aty) cA (List.replicate z.toNatClampNeg (defaultValue (newarray.typeOf aty))) → Go l Z mn code maxL ret R n0 Q h' (k + 1) (n + cap) q Ls (.ref a :: st)) : Go l Z mn code maxL ret R n0 Q h k n pc Ls (.int z :: st) := by
  subst hq
  intro p e s m args below meth c T locs k' n' C X hk hn N eT
  obtain ⟨T', h', cA, X', e', E, A, f⟩ := newP X C.1 C.2.1 w eT (g := mkF m pc Ls (.int z :: st)) rfl (hb C.2.2.1 hd) rfl hz hcap hb8 (by omega) (by omega)
  exact (K h' h.size cA rfl E ⟨_, A, rfl, by simp [newA]⟩ p e s m args below meth c T' locs _ _ C X' (by omega) (by omega) N e').step f
theorem Go.anewarray {C : String} {i : Nat} {z : Int32} {cap : Nat} (hd : decode code pc = .ok (.anewarray i, 3)) (hq : q = pc + 3) (w1 : (Jvm.Cond.classLink mn.cls i C).before a0 Z = true) (w2 : (Jvm.Cond.arrayOver (.object C)).before a0 Z = true) (hz : ¬ z < 0) (hcap : z.toNatClampNeg ≤ cap) (hb8 : cap * 8 ≤ 536870912) (hc : k + 1 ≤ R.cells) (hs : n + cap ≤ R.slots)
    (K : ∀ h' a cA, a = h.size → Ext h h' → Ar Z h' a (.object C) cA (List.replicate z.toNatClampNeg .null) → Ovr Z cA C → Go l Z mn code maxL ret R n0 Q h' (k + 1) (n + cap) q Ls (.ref a :: st)) : Go l Z mn code maxL ret R n0 Q h k n pc Ls (.int z :: st) := by
  subst hq
  intro p e s m args below meth c T locs k' n' Cc X hk hn N eT
  obtain ⟨T', h', cA, X', e', E, A, O, f⟩ := newR X Cc.1 Cc.2.1 Cc.2.2.2.2.1 w1 w2 eT (g := mkF m pc Ls (.int z :: st)) rfl (hb Cc.2.2.1 hd) rfl hz hcap hb8 (by omega) (by omega)
  exact (K h' h.size cA rfl E ⟨_, A, rfl, by simp [newA, defaultValue]⟩ O p e s m args below meth c T' locs _ _ Cc X' (by omega) (by omega) N e').step f
theorem sto_of {C : String} {b : Addr} (A : Ar Z h a ty cA vs) (O : Ovr Z cA C) (I : Ins Z h b C true) : Sto Z h a (.ref b) := by
  obtain ⟨c, A, q, -⟩ := A
  exact Sto.ofV A q O I
end ArrSteps
end Jvm.OwnKit
namespace Jvm.OwnKit
open Jvm Jvm.ClassFile Sem Op Lib Jvm.Free Jvm.Stand Jvm.LawKit Jvm.RoadKit
section Case
variable {args : Array Value} {s : State} {idx : List Nat} {t u : Term} {a b : Addr} {ty : FieldType} {cA : ClassId} {vs : List Value} {O nm d C K : String}
theorem eq_int {v : Int32} (h : (Jvm.Cond.eq t (.int v)).value args s none s idx = some true) : t.eval args s none idx s = some (.int v) := by
  cases ha : t.eval args s none idx s with
  | none => simp [Jvm.Cond.value, ha] at h
  | some x => cases x <;> simp [Jvm.Cond.value, Term.eval, ha] at h ⊢ <;> exact h
theorem eq_long {v : Int64} (h : (Jvm.Cond.eq t (.long v)).value args s none s idx = some true) : t.eval args s none idx s = some (.long v) := by
  cases ha : t.eval args s none idx s with
  | none => simp [Jvm.Cond.value, ha] at h
  | some x => cases x <;> simp [Jvm.Cond.value, Term.eval, ha] at h ⊢ <;> exact h
theorem eq_ref (h : (Jvm.Cond.eq t u).value args s none s idx = some true) (hu : u.eval args s none idx s = some (.ref b)) : t.eval args s none idx s = some (.ref b) := by
  cases ha : t.eval args s none idx s with
  | none => simp [Jvm.Cond.value, ha] at h
  | some x => cases x <;> simp [Jvm.Cond.value, ha, hu] at h ⊢ <;> exact h
theorem sta_ref (h : (Jvm.Cond.exactly (.static C nm d) K).value args s none s [] = some true) (h1 : (Jvm.Cond.initialized C).before args s = true) (h2 : (Jvm.Cond.laysStatic C nm d).before args s = true) : ∃ a, (Term.static C nm d).eval args s none [] s = some (.ref a) ∧ Sta s s.heap C nm d (.ref a) ∧ Exa s s.heap a K := by
  obtain ⟨a, ea⟩ := exa_v h
  exact ⟨a, ea, Sta.start ea (Or.inr ⟨h1, h2⟩), Exa.start ea h⟩
theorem sta_arr (h : (Jvm.Cond.arrayOf (.static C nm d) ty).value args s none s [] = some true) (h1 : (Jvm.Cond.initialized C).before args s = true) (h2 : (Jvm.Cond.laysStatic C nm d).before args s = true) : ∃ a cA vs, (Term.static C nm d).eval args s none [] s = some (.ref a) ∧ Sta s s.heap C nm d (.ref a) ∧ Ar s s.heap a ty cA vs := by
  obtain ⟨a, ea⟩ := arr_v h
  obtain ⟨c, A⟩ := Arr.start ea h
  exact ⟨a, c.cls, c.slots.toList, ea, Sta.start ea (Or.inr ⟨h1, h2⟩), c, A, rfl, rfl⟩
theorem fld_int {v : Int32} (ev : t.eval args s none [] s = some (.ref a)) (h : (Jvm.Cond.eq (.field t O nm d) (.int v)).value args s none s [] = some true) : Fld s s.heap a O nm d (.int v) := Fld.start ((fld_at ev).symm.trans (eq_int h))
theorem fld_long {v : Int64} (ev : t.eval args s none [] s = some (.ref a)) (h : (Jvm.Cond.eq (.field t O nm d) (.long v)).value args s none s [] = some true) : Fld s s.heap a O nm d (.long v) := Fld.start ((fld_at ev).symm.trans (eq_long h))
theorem nat_small {m : Nat} (h : m < 2 ^ 31) : m.toInt32.toNatClampNeg = m := by
  show m.toInt32.toInt.toNat = m
  rw [len_toInt h]; rfl
theorem Ar.at_start (A : Ar s s.heap a ty cA vs) : ∃ c : Cell, s.arrayAt? a = some c ∧ c.slots.toList = vs ∧ c.slots.size = vs.length := by
  obtain ⟨c, A, -, r⟩ := A
  exact ⟨c, A.fin (Vm.Alike.refl _), r, by rw [← r]; simp⟩
theorem arr_len {z : Int32} (ev : t.eval args s none [] s = some (.ref a)) (A : Ar s s.heap a ty cA vs) (h : (Jvm.Cond.eq (.length t) (.int z)).value args s none s [] = some true) : vs.length = z.toNatClampNeg := by
  obtain ⟨c, hc, -, r⟩ := A.at_start
  have e := eq_int h
  simp only [Term.eval, ev, hc, Option.bind_eq_bind, Option.bind_some] at e
  split at e
  · rename_i q
    have e2 : c.slots.size.toInt32 = z := by simpa using e
    rw [← e2, nat_small q, r]
  · simp at e
theorem arr_elem {j : Int32} {v : Int32} (ev : t.eval args s none [] s = some (.ref a)) (A : Ar s s.heap a ty cA vs) (h : (Jvm.Cond.eq (.elem t (.int j)) (.int v)).value args s none s [] = some true) : vs[j.toNatClampNeg]? = some (.int v) := by
  obtain ⟨c, hc, r, -⟩ := A.at_start
  have e := eq_int h
  simp only [Term.eval, ev, hc, Option.bind_eq_bind, Option.bind_some] at e
  split at e
  · simp at e
  · rw [← r]; simpa using e
theorem arr_elemR {j : Int32} {u : Term} {b : Addr} (ev : t.eval args s none [] s = some (.ref a)) (A : Ar s s.heap a ty cA vs) (h : (Jvm.Cond.eq (.elem t (.int j)) u).value args s none s [] = some true) (hu : u.eval args s none [] s = some (.ref b)) : vs[j.toNatClampNeg]? = some (.ref b) := by
  obtain ⟨c, hc, r, -⟩ := A.at_start
  have e := eq_ref h hu
  simp only [Term.eval, ev, hc, Option.bind_eq_bind, Option.bind_some] at e
  split at e
  · simp at e
  · rw [← r]; simpa using e
theorem fold_no {f : Nat → Option Bool} {x : Option Bool} (hx : x ≠ some true) : ∀ L : List Nat, L.foldl (fun acc i => match acc with | some true => f i | x => x) x = x
  | [] => rfl
  | i :: L => by
    rw [List.foldl_cons]
    rcases x with _ | _ | _
    · exact fold_no hx L
    · exact fold_no hx L
    · exact absurd rfl hx
theorem fold_all {f : Nat → Option Bool} : ∀ L : List Nat, L.foldl (fun acc i => match acc with | some true => f i | x => x) (some true) = some true → ∀ i ∈ L, f i = some true
  | [], _, i, hi => nomatch hi
  | j :: L, h, i, hi => by
    rw [List.foldl_cons] at h
    by_cases hj : f j = some true
    · have h' : L.foldl (fun acc i => match acc with | some true => f i | x => x) (f j) = some true := h
      rw [hj] at h'
      rcases List.mem_cons.mp hi with rfl | hi
      · exact hj
      · exact fold_all L h' i hi
    · have h' : L.foldl (fun acc i => match acc with | some true => f i | x => x) (f j) = some true := h
      rw [fold_no hj L] at h'
      exact absurd h' hj
theorem arr_all {c : Jvm.Cond} (ev : t.eval args s none [] s = some (.ref a)) (A : Ar s s.heap a ty cA vs) (h : (Jvm.Cond.all t c).value args s none s [] = some true) : ∀ i, i < vs.length → c.value args s none s [i] = some true := by
  obtain ⟨cl, hc, -, r⟩ := A.at_start
  intro i hi
  simp only [Jvm.Cond.value, ev, hc] at h
  exact fold_all _ h i (List.mem_range.mpr (by omega))
theorem all_elem {i : Nat} {v : Int32} (ev : t.eval args s none [i] s = some (.ref a)) (A : Ar s s.heap a ty cA vs) (hi : i < 2 ^ 31) (h : (Jvm.Cond.eq (.elem t (.index 0)) (.int v)).value args s none s [i] = some true) : vs[i]? = some (.int v) := by
  obtain ⟨c, hc, r, -⟩ := A.at_start
  have e := eq_int h
  simp only [Term.eval, ev, hc, Option.bind_eq_bind, Option.bind_some, List.getElem?_cons_zero, Option.map_some] at e
  split at e
  · simp at e
  · rw [← r]; rw [nat_small hi] at e; simpa using e
theorem all_le {i : Nat} {v : Int32} {c : Jvm.Cond} (hi : i < 2 ^ 31) (h : (Jvm.Cond.or (.le (.int v) (.index 0)) c).value args s none s [i] = some true) : v.toInt ≤ i ∨ c.value args s none s [i] = some true := by
  simp only [Jvm.Cond.value, Term.eval, List.getElem?_cons_zero, Option.map_some] at h
  by_cases q : v ≤ i.toInt32
  · left; rw [Int32.le_iff_toInt_le, len_toInt hi] at q; exact q
  · right; simpa [q] using h
theorem all_lt {i : Nat} {v : Int32} {c : Jvm.Cond} (hi : i < 2 ^ 31) (h : (Jvm.Cond.or (.lt (.index 0) (.int v)) c).value args s none s [i] = some true) : (i : Int) < v.toInt ∨ c.value args s none s [i] = some true := by
  simp only [Jvm.Cond.value, Term.eval, List.getElem?_cons_zero, Option.map_some] at h
  by_cases q : i.toInt32 < v
  · left; rw [Int32.lt_iff_toInt_lt, len_toInt hi] at q; exact q
  · right; simpa [q] using h
theorem sta_idx {C nm d : String} {idx : List Nat} {v : Value} (ev : (Term.static C nm d).eval args s none [] s = some v) : (Term.static C nm d).eval args s none idx s = some v := ev
end Case
end Jvm.OwnKit
namespace Jvm.RoadKit
open ClassFile
theorem Fld.nxt {Z : State} {h : Heap} {a0 : Array Value} {o : Addr} {h' : Heap} {C nm d nm' d' : String} {v w : Value} {t t' : FieldType} (F : Fld Z h o C nm d v) (W : Wr h h' o (slotOf Z C nm' d') w) (L : Laid Z a0 C C nm d) (L' : Laid Z a0 C C nm' d') (hn : nm ≠ nm') (ht : parseFieldDescriptor d = some t) (ht' : parseFieldDescriptor d' = some t') : Fld Z h' o C nm d v :=
  F.other W (Or.inr (slot_ne L L' hn ht ht'))
end Jvm.RoadKit
namespace Jvm.OwnKit
open Jvm Jvm.ClassFile Sem Op Lib Jvm.Free Jvm.Stand Jvm.LawKit Jvm.RoadKit
section More
variable {l : Launch} {Z : State} {mn : MethodName} {code : ByteArray} {maxL : Nat} {ret : Option FieldType} {R : Room} {n0 : Nat} {Q : Option Value → Heap → Prop} {h : Heap} {k n pc q : Nat} {Ls : Array Slot} {st : List Value} {a0 : Array Value}
theorem Go.anewarrayA {C ad : String} {ty : FieldType} {i : Nat} {z : Int32} {cap : Nat} (hd : decode code pc = .ok (.anewarray i, 3)) (hq : q = pc + 3) (hC : (FieldType.array ty).toString = C) (had : "[" ++ C = ad) (w1 : (Jvm.Cond.classLink mn.cls i C).before a0 Z = true) (w2 : (Jvm.Cond.arrayOver (.array ty)).before a0 Z = true) (hz : ¬ z < 0) (hcap : z.toNatClampNeg ≤ cap) (hb8 : cap * 8 ≤ 536870912) (hc : k + 1 ≤ R.cells) (hs : n + cap ≤ R.slots)
    (K : ∀ h' a cA, a = h.size → Ext h h' → Ar Z h' a (.array ty) cA (List.replicate z.toNatClampNeg .null) → OvrA Z cA ty C → Exa Z h' a ad → Go l Z mn code maxL ret R n0 Q h' (k + 1) (n + cap) q Ls (.ref a :: st)) : Go l Z mn code maxL ret R n0 Q h k n pc Ls (.int z :: st) := by
  subst hq
  intro p e s m args below meth c T locs k' n' Cc X hk hn N eT
  obtain ⟨T', h', cA, X', e', E, A, E2, O, f⟩ := newRA X Cc.1 Cc.2.1 Cc.2.2.2.2.1 hC w1 w2 eT (g := mkF m pc Ls (.int z :: st)) rfl (hb Cc.2.2.1 hd) rfl hz hcap hb8 (by omega) (by omega) had
  exact (K h' h.size cA rfl E ⟨_, A, rfl, by simp [newA, defaultValue]⟩ O E2 p e s m args below meth c T' locs _ _ Cc X' (by omega) (by omega) N e').step f
theorem Go.newarrayE {aty : ArrayType} {z : Int32} {cap : Nat} {ad : String} (hd : decode code pc = .ok (.newarray aty, 2)) (hq : q = pc + 2) (had : "[" ++ (newarray.typeOf aty).toString = ad) (w : (Jvm.Cond.arrayClass (newarray.typeOf aty)).before a0 Z = true) (hz : ¬ z < 0) (hcap : z.toNatClampNeg ≤ cap) (hb8 : cap * 8 ≤ 536870912) (hc : k + 1 ≤ R.cells) (hs : n + cap ≤ R.slots)
    (K : ∀ h' a cA, a = h.size → Ext h h' → Ar Z h' a (newarray.typeOf aty) cA (List.replicate z.toNatClampNeg (defaultValue (newarray.typeOf aty))) → Exa Z h' a ad → Go l Z mn code maxL ret R n0 Q h' (k + 1) (n + cap) q Ls (.ref a :: st)) : Go l Z mn code maxL ret R n0 Q h k n pc Ls (.int z :: st) := by
  subst hq
  intro p e s m args below meth c T locs k' n' C X hk hn N eT
  obtain ⟨T', h', cA, X', e', E, A, E2, f⟩ := newPE X C.1 C.2.1 w eT (g := mkF m pc Ls (.int z :: st)) rfl (hb C.2.2.1 hd) rfl hz hcap hb8 (by omega) (by omega) had
  exact (K h' h.size cA rfl E ⟨_, A, rfl, by simp [newA]⟩ E2 p e s m args below meth c T' locs _ _ C X' (by omega) (by omega) N e').step f
theorem sto_ofA {a b : Addr} {t0 ty : FieldType} {cA : ClassId} {vs : List Value} {C : String} (A : Ar Z h a t0 cA vs) (O : OvrA Z cA ty C) (I : Ins Z h b C true) : Sto Z h a (.ref b) := by
  obtain ⟨c, A, q, -⟩ := A
  exact Sto.ofVA A q O I
theorem Ar.nel {a b : Addr} {ty : FieldType} {cA : ClassId} {vs : List Value} (F : Ar Z h a ty cA vs) (e : b = h.size) : a ≠ b := fun q => Nat.ne_of_lt F.lt (q.trans e)
theorem Ins.ofExa {a : Addr} {C : String} (E : Exa Z h a C) : Ins Z h a C true := Ins.self E
end More
theorem cat_ref {v : Value} (h : v.isRef = true) : v.category = 1 := by rcases ref_cases h with rfl | ⟨a, rfl⟩ <;> rfl
section Addrs
variable {h : Heap} {x b o : Addr} {n0 : Nat}
theorem new_ne (l : x < h.size) (e : b = h.size) : x ≠ b := fun q => Nat.ne_of_lt l (q.trans e)
theorem new_le (l : n0 ≤ h.size) (e : b = h.size) : n0 ≤ b := Nat.le_trans l (Nat.le_of_eq e.symm)
theorem le_size (l : o < h.size) (n : n0 ≤ o) : n0 ≤ h.size := Nat.le_trans n (Nat.le_of_lt l)
end Addrs
section Nums
theorem idiv_nat {x y : Int32} {d : Nat} (h0 : ¬ x < 0) (hy : y.toInt = d) (hd : 1 < d) : ¬ (x / y) < 0 ∧ (x / y).toNatClampNeg = x.toNatClampNeg / d := by
  have z : (0 : Int32).toInt = 0 := rfl
  have z1 : (-1 : Int32).toInt = -1 := rfl
  have p : 0 ≤ x.toInt := by rw [Int32.lt_iff_toInt_lt] at h0; omega
  have ny : y ≠ -1 := by
    intro q
    rw [q, z1] at hy
    omega
  have e := (c_idiv x y d hy ny).1 p
  have p' : 0 ≤ x.toInt / (d : Int) := Int.ediv_nonneg p (by omega)
  refine ⟨by rw [Int32.lt_iff_toInt_lt]; omega, ?_⟩
  show (x / y).toInt.toNat = x.toInt.toNat / d
  rw [e]
  obtain ⟨m, hm⟩ := Int.eq_ofNat_of_zero_le p
  rw [hm]; rfl
theorem irem_nat {x y : Int32} {d : Nat} (h0 : ¬ x < 0) (hy : y.toInt = d) (hd : 1 < d) : ¬ (x % y) < 0 ∧ (x % y).toNatClampNeg = x.toNatClampNeg % d := by
  have z : (0 : Int32).toInt = 0 := rfl
  have p : 0 ≤ x.toInt := by rw [Int32.lt_iff_toInt_lt] at h0; omega
  have e := (c_irem x y d hy).1 p
  have p' : 0 ≤ x.toInt % (d : Int) := Int.emod_nonneg _ (by omega)
  refine ⟨by rw [Int32.lt_iff_toInt_lt]; omega, ?_⟩
  show (x % y).toInt.toNat = x.toInt.toNat % d
  rw [e]
  obtain ⟨m, hm⟩ := Int.eq_ofNat_of_zero_le p
  rw [hm]; rfl
theorem nonneg_iff {x : Int32} : ¬ x < 0 ↔ 0 ≤ x.toInt := by
  rw [Int32.lt_iff_toInt_lt]; have : (0 : Int32).toInt = 0 := rfl; omega
end Nums
end Jvm.OwnKit
namespace Jvm.OwnKit
open Jvm Jvm.ClassFile Sem Op Lib Jvm.Free Jvm.Stand Jvm.LawKit Jvm.RoadKit
section Calls5
variable {l : Launch} {Z : State} {mn : MethodName} {code : ByteArray} {maxL : Nat} {ret : Option FieldType} {R : Room} {n0 : Nat} {Q : Option Value → Heap → Prop} {h : Heap} {k n pc q : Nat} {Ls Ls' : Array Slot} {st st' : List Value} {a0 : Array Value}
  {y' : MethodName} {code' : ByteArray} {maxL' : Nat} {ret' : Option FieldType} {R' : Room} {Q' : Option Value → Heap → Prop} {argsL rest : List Value} {Ls1 : Array Slot} {ps : List FieldType} {r : Option FieldType} {i wd : Nat}

theorem Go.callU {z : MethodName} {C owner : String} {a : Addr} (hd : decode code pc = .ok (.invokevirtual i, 3)) (hq : q = pc + 3) (w1 : (Jvm.Cond.methodLink mn.cls i y').before a0 Z = true) (ws : (Jvm.Cond.sameMethod y'.cls owner y'.name y'.desc).before a0 Z = true) (w2 : (Jvm.Cond.declares ⟨owner, y'.name, y'.desc⟩).before a0 Z = true) (w3 : (Jvm.Cond.selects C y' z).before a0 Z = true) (w4 : (Jvm.Cond.instanceMethod z).before a0 Z = true) (w5 : (Jvm.Cond.code z code' maxL' ret').before a0 Z = true) (w6 : (Jvm.Cond.initialized z.cls).before a0 Z = true) (hy : owner ≠ "java/lang/invoke/MethodHandle" ∧ owner ≠ "java/lang/invoke/VarHandle") (pn : plainFor z = true) (pd : parseMethodDescriptor y'.desc = some ⟨ps, r⟩) (hl : argsL.length = ps.length) (hst : st = argsL.reverse ++ .ref a :: rest) (E : Exa Z h a C) (hef : ∀ m, entryFrame m (.ref a :: argsL).toArray maxL' = mkF m 0 Ls1 []) (hsz : Ls.size = maxL) (hR1 : R'.frames + 1 ≤ R.frames) (hW : (rest.map fun v => v.category).sum = wd) (hR2 : wd + (maxL' + 11) + R'.locals ≤ R.locals) (hc : k + R'.cells ≤ R.cells) (hs : n + R'.slots ≤ R.slots) (G : Go l Z z code' maxL' ret' R' n0 Q' h 0 0 0 Ls1 []) (K : ∀ v h', Q' v h' → Go l Z mn code maxL ret R n0 Q h' (k + R'.cells) (n + R'.slots) q Ls (v.toList ++ rest)) : Go l Z mn code maxL ret R n0 Q h k n pc Ls st := by
  subst hq hst hW
  intro p e s m args below meth c T locs k' n' Cc X hk hn N eT
  obtain ⟨cq, kq, qa, qb, qc⟩ := isOf Cc.2.1 eT E
  obtain ⟨v, vm1, ⟨T1, L1, k1, n1⟩, -, X1, ⟨Lc, hQ, e1, e2, e3⟩, f⟩ := X.virtualBackUp Cc.1 (x := y') (y := z) (owner := owner) Cc.2.2.2.2.1 (mvT Cc.2.1 w1) (mvT Cc.2.1 ws) (mvT Cc.2.1 w2) hy (mvT Cc.2.1 w3) (mvT Cc.2.1 w4) (backOf (W := (rest.map fun v => v.category).sum) (Q := fun v h L => Fr n0 L ∧ Q' v h) (G.met pn hef []) Cc.2.1 w5 w6 hR1 hR2) qa qc (g := mkF m pc Ls (argsL.reverse ++ .ref a :: rest)) rfl (by rw [Cc.2.2.2.1]; exact hsz) (Steps.refl _) (argsL := argsL) (rest := rest) (lenOf pd hl) rfl (by simp) (hb Cc.2.2.1 hd) (fun _ _ => ⟨rfl, eT, by show k' + _ ≤ _; omega, by show n' + _ ≤ _; omega⟩)
  dsimp only [Pt.U, Pt.locs, Pt.cells, Pt.slots] at X1 e1 e2 e3 f hQ
  subst e1 e2 e3
  exact (K v T1.heap hQ.2 p e s m args below meth c T1 _ _ _ Cc X1 (by omega) (by omega) (Fr.app N hQ.1) rfl).step fun t r => f.trans r
theorem Go.callP {a : Addr} {C C2 : String} {y2 z2 : MethodName} (hd : decode code pc = .ok (.invokevirtual i, 3)) (hq : q = pc + 3) (w1 : (Jvm.Cond.methodLink mn.cls i y').before a0 Z = true) (w2 : (Jvm.Cond.privateMethod y').before a0 Z = true) (w3 : (Jvm.Cond.selects C2 y2 z2).before a0 Z = true) (hz2 : z2.cls = y'.cls) (w4 : (Jvm.Cond.instanceMethod y').before a0 Z = true) (w5 : (Jvm.Cond.code y' code' maxL' ret').before a0 Z = true) (w6 : (Jvm.Cond.initialized y'.cls).before a0 Z = true) (hy : y'.cls ≠ "java/lang/invoke/MethodHandle" ∧ y'.cls ≠ "java/lang/invoke/VarHandle") (pn : plainFor y' = true) (pd : parseMethodDescriptor y'.desc = some ⟨ps, r⟩) (hl : argsL.length = ps.length) (hst : st = argsL.reverse ++ .ref a :: rest) (E : Exa Z h a C) (hef : ∀ m, entryFrame m (.ref a :: argsL).toArray maxL' = mkF m 0 Ls1 []) (hsz : Ls.size = maxL) (hR1 : R'.frames + 1 ≤ R.frames) (hW : (rest.map fun v => v.category).sum = wd) (hR2 : wd + (maxL' + 11) + R'.locals ≤ R.locals) (hc : k + R'.cells ≤ R.cells) (hs : n + R'.slots ≤ R.slots) (G : Go l Z y' code' maxL' ret' R' n0 Q' h 0 0 0 Ls1 []) (K : ∀ v h', Q' v h' → Go l Z mn code maxL ret R n0 Q h' (k + R'.cells) (n + R'.slots) q Ls (v.toList ++ rest)) : Go l Z mn code maxL ret R n0 Q h k n pc Ls st := by
  subst hq hst hW
  intro p e s m args below meth c T locs k' n' Cc X hk hn N eT
  obtain ⟨cq, qa, qb⟩ := E.cell
  have hpr : s.PrivateAt y' := Jvm.Cond.privateMethod_at (mvP Cc.2.1 w2 (args := #[]))
  have hse : (Jvm.Cond.selects y'.cls y' y').before args s = true := by
    obtain ⟨c2, r2, m2, -, -, q3, -, kk, q5, q6⟩ := Jvm.Cond.selects_spec (mvT (args := args) Cc.2.1 w3)
    exact Jvm.Stand.selects_self_of_private (hz2 ▸ findClass_of_methodNamed q3) q5 q6 hpr (mvT Cc.2.1 w4) hy
  obtain ⟨v, vm1, ⟨T1, L1, k1, n1⟩, -, X1, ⟨Lc, hQ, e1, e2, e3⟩, f⟩ := X.privateBack Cc.1 (y := y') Cc.2.2.2.2.1 (mvT Cc.2.1 w1) (mvT Cc.2.1 w4) hse hpr (mvT Cc.2.1 w5) hy (backOf (W := (rest.map fun v => v.category).sum) (Q := fun v h L => Fr n0 L ∧ Q' v h) (G.met pn hef []) Cc.2.1 w5 w6 hR1 hR2) (g := mkF m pc Ls (argsL.reverse ++ .ref a :: rest)) rfl (by rw [Cc.2.2.2.1]; exact hsz) (Steps.refl _) (a := a) (by rw [eT]; exact qa) qb (argsL := argsL) (rest := rest) (lenOf pd hl) rfl (by simp) (hb Cc.2.2.1 hd) (fun _ _ => ⟨rfl, eT, by show k' + _ ≤ _; omega, by show n' + _ ≤ _; omega⟩)
  dsimp only [Pt.U, Pt.locs, Pt.cells, Pt.slots] at X1 e1 e2 e3 f hQ
  subst e1 e2 e3
  exact (K v T1.heap hQ.2 p e s m args below meth c T1 _ _ _ Cc X1 (by omega) (by omega) (Fr.app N hQ.1) rfl).step fun t r => f.trans r
theorem Go.callUV {P : Value → Heap → Prop} {z : MethodName} {C owner : String} {a : Addr} (hd : decode code pc = .ok (.invokevirtual i, 3)) (hq : q = pc + 3) (w1 : (Jvm.Cond.methodLink mn.cls i y').before a0 Z = true) (ws : (Jvm.Cond.sameMethod y'.cls owner y'.name y'.desc).before a0 Z = true) (w2 : (Jvm.Cond.declares ⟨owner, y'.name, y'.desc⟩).before a0 Z = true) (w3 : (Jvm.Cond.selects C y' z).before a0 Z = true) (w4 : (Jvm.Cond.instanceMethod z).before a0 Z = true) (w5 : (Jvm.Cond.code z code' maxL' ret').before a0 Z = true) (w6 : (Jvm.Cond.initialized z.cls).before a0 Z = true) (hy : owner ≠ "java/lang/invoke/MethodHandle" ∧ owner ≠ "java/lang/invoke/VarHandle") (pn : plainFor z = true) (pd : parseMethodDescriptor y'.desc = some ⟨ps, r⟩) (hl : argsL.length = ps.length) (hst : st = argsL.reverse ++ .ref a :: rest) (E : Exa Z h a C) (hef : ∀ m, entryFrame m (.ref a :: argsL).toArray maxL' = mkF m 0 Ls1 []) (hsz : Ls.size = maxL) (hR1 : R'.frames + 1 ≤ R.frames) (hW : (rest.map fun v => v.category).sum = wd) (hR2 : wd + (maxL' + 11) + R'.locals ≤ R.locals) (hc : k + R'.cells ≤ R.cells) (hs : n + R'.slots ≤ R.slots) (G : Go l Z z code' maxL' ret' R' n0 (RV P) h 0 0 0 Ls1 []) (K : ∀ w h', P w h' → Go l Z mn code maxL ret R n0 Q h' (k + R'.cells) (n + R'.slots) q Ls (w :: rest)) : Go l Z mn code maxL ret R n0 Q h k n pc Ls st :=
  Go.callU hd hq w1 ws w2 w3 w4 w5 w6 hy pn pd hl hst E hef hsz hR1 hW hR2 hc hs G fun v h' ⟨w, e, q⟩ => by subst e; exact K w h' q
theorem Go.callUN {P : Heap → Prop} {z : MethodName} {C owner : String} {a : Addr} (hd : decode code pc = .ok (.invokevirtual i, 3)) (hq : q = pc + 3) (w1 : (Jvm.Cond.methodLink mn.cls i y').before a0 Z = true) (ws : (Jvm.Cond.sameMethod y'.cls owner y'.name y'.desc).before a0 Z = true) (w2 : (Jvm.Cond.declares ⟨owner, y'.name, y'.desc⟩).before a0 Z = true) (w3 : (Jvm.Cond.selects C y' z).before a0 Z = true) (w4 : (Jvm.Cond.instanceMethod z).before a0 Z = true) (w5 : (Jvm.Cond.code z code' maxL' ret').before a0 Z = true) (w6 : (Jvm.Cond.initialized z.cls).before a0 Z = true) (hy : owner ≠ "java/lang/invoke/MethodHandle" ∧ owner ≠ "java/lang/invoke/VarHandle") (pn : plainFor z = true) (pd : parseMethodDescriptor y'.desc = some ⟨ps, r⟩) (hl : argsL.length = ps.length) (hst : st = argsL.reverse ++ .ref a :: rest) (E : Exa Z h a C) (hef : ∀ m, entryFrame m (.ref a :: argsL).toArray maxL' = mkF m 0 Ls1 []) (hsz : Ls.size = maxL) (hR1 : R'.frames + 1 ≤ R.frames) (hW : (rest.map fun v => v.category).sum = wd) (hR2 : wd + (maxL' + 11) + R'.locals ≤ R.locals) (hc : k + R'.cells ≤ R.cells) (hs : n + R'.slots ≤ R.slots) (G : Go l Z z code' maxL' ret' R' n0 (RN P) h 0 0 0 Ls1 []) (K : ∀ h', P h' → Go l Z mn code maxL ret R n0 Q h' (k + R'.cells) (n + R'.slots) q Ls rest) : Go l Z mn code maxL ret R n0 Q h k n pc Ls st :=
  Go.callU hd hq w1 ws w2 w3 w4 w5 w6 hy pn pd hl hst E hef hsz hR1 hW hR2 hc hs G fun v h' ⟨e, q⟩ => by subst e; exact K h' q
theorem Go.callPV {P : Value → Heap → Prop} {a : Addr} {C C2 : String} {y2 z2 : MethodName} (hd : decode code pc = .ok (.invokevirtual i, 3)) (hq : q = pc + 3) (w1 : (Jvm.Cond.methodLink mn.cls i y').before a0 Z = true) (w2 : (Jvm.Cond.privateMethod y').before a0 Z = true) (w3 : (Jvm.Cond.selects C2 y2 z2).before a0 Z = true) (hz2 : z2.cls = y'.cls) (w4 : (Jvm.Cond.instanceMethod y').before a0 Z = true) (w5 : (Jvm.Cond.code y' code' maxL' ret').before a0 Z = true) (w6 : (Jvm.Cond.initialized y'.cls).before a0 Z = true) (hy : y'.cls ≠ "java/lang/invoke/MethodHandle" ∧ y'.cls ≠ "java/lang/invoke/VarHandle") (pn : plainFor y' = true) (pd : parseMethodDescriptor y'.desc = some ⟨ps, r⟩) (hl : argsL.length = ps.length) (hst : st = argsL.reverse ++ .ref a :: rest) (E : Exa Z h a C) (hef : ∀ m, entryFrame m (.ref a :: argsL).toArray maxL' = mkF m 0 Ls1 []) (hsz : Ls.size = maxL) (hR1 : R'.frames + 1 ≤ R.frames) (hW : (rest.map fun v => v.category).sum = wd) (hR2 : wd + (maxL' + 11) + R'.locals ≤ R.locals) (hc : k + R'.cells ≤ R.cells) (hs : n + R'.slots ≤ R.slots) (G : Go l Z y' code' maxL' ret' R' n0 (RV P) h 0 0 0 Ls1 []) (K : ∀ w h', P w h' → Go l Z mn code maxL ret R n0 Q h' (k + R'.cells) (n + R'.slots) q Ls (w :: rest)) : Go l Z mn code maxL ret R n0 Q h k n pc Ls st :=
  Go.callP hd hq w1 w2 w3 hz2 w4 w5 w6 hy pn pd hl hst E hef hsz hR1 hW hR2 hc hs G fun v h' ⟨w, e, q⟩ => by subst e; exact K w h' q
theorem Go.callPN {P : Heap → Prop} {a : Addr} {C C2 : String} {y2 z2 : MethodName} (hd : decode code pc = .ok (.invokevirtual i, 3)) (hq : q = pc + 3) (w1 : (Jvm.Cond.methodLink mn.cls i y').before a0 Z = true) (w2 : (Jvm.Cond.privateMethod y').before a0 Z = true) (w3 : (Jvm.Cond.selects C2 y2 z2).before a0 Z = true) (hz2 : z2.cls = y'.cls) (w4 : (Jvm.Cond.instanceMethod y').before a0 Z = true) (w5 : (Jvm.Cond.code y' code' maxL' ret').before a0 Z = true) (w6 : (Jvm.Cond.initialized y'.cls).before a0 Z = true) (hy : y'.cls ≠ "java/lang/invoke/MethodHandle" ∧ y'.cls ≠ "java/lang/invoke/VarHandle") (pn : plainFor y' = true) (pd : parseMethodDescriptor y'.desc = some ⟨ps, r⟩) (hl : argsL.length = ps.length) (hst : st = argsL.reverse ++ .ref a :: rest) (E : Exa Z h a C) (hef : ∀ m, entryFrame m (.ref a :: argsL).toArray maxL' = mkF m 0 Ls1 []) (hsz : Ls.size = maxL) (hR1 : R'.frames + 1 ≤ R.frames) (hW : (rest.map fun v => v.category).sum = wd) (hR2 : wd + (maxL' + 11) + R'.locals ≤ R.locals) (hc : k + R'.cells ≤ R.cells) (hs : n + R'.slots ≤ R.slots) (G : Go l Z y' code' maxL' ret' R' n0 (RN P) h 0 0 0 Ls1 []) (K : ∀ h', P h' → Go l Z mn code maxL ret R n0 Q h' (k + R'.cells) (n + R'.slots) q Ls rest) : Go l Z mn code maxL ret R n0 Q h k n pc Ls st :=
  Go.callP hd hq w1 w2 w3 hz2 w4 w5 w6 hy pn pd hl hst E hef hsz hR1 hW hR2 hc hs G fun v h' ⟨e, q⟩ => by subst e; exact K h' q
/-- an array whose elements are of its type -/
def ArF (Z : State) (h : Heap) (a : Addr) (ty : FieldType) (cA : ClassId) (vs : List Value) : Prop := ∃ c : Cell, Arr Z h a c ty ∧ c.cls = cA ∧ c.slots.toList = vs ∧ FitC Z c
theorem ArF.ext {a : Addr} {ty : FieldType} {cA : ClassId} {vs : List Value} {h' : Heap} (F : ArF Z h a ty cA vs) (E : Ext h h') : ArF Z h' a ty cA vs := by obtain ⟨c, A, r⟩ := F; exact ⟨c, A.ext E, r⟩
theorem ArF.start {s : State} {a : Addr} {ty : FieldType} {cA : ClassId} {vs : List Value} (hf : Fit s) (A : Ar s s.heap a ty cA vs) : ArF s s.heap a ty cA vs := by
  obtain ⟨c, A, r1, r2⟩ := A; exact ⟨c, A, r1, r2, FitC.start hf A⟩
theorem Go.clone {ad : String} {a : Addr} {ty : FieldType} {cA : ClassId} {vs : List Value} {cap : Nat} (hd : decode code pc = .ok (.invokevirtual i, 3)) (hq : q = pc + 3) (w1 : (Jvm.Cond.methodLink mn.cls i ⟨ad, "clone", "()Ljava/lang/Object;"⟩).before a0 Z = true) (w2 : (Jvm.Cond.sameMethod ad "java/lang/Object" "clone" "()Ljava/lang/Object;").before a0 Z = true) (w3 : (Jvm.Cond.native ⟨"java/lang/Object", "clone", "()Ljava/lang/Object;"⟩).before a0 Z = true)
    (w4 : (Jvm.Cond.instanceMethod ⟨"java/lang/Object", "clone", "()Ljava/lang/Object;"⟩).before a0 Z = true) (w5 : (Jvm.Cond.selects ad ⟨ad, "clone", "()Ljava/lang/Object;"⟩ ⟨"java/lang/Object", "clone", "()Ljava/lang/Object;"⟩).before a0 Z = true) (w6 : (Jvm.Cond.castable ad "java/lang/Cloneable").before a0 Z = true)
    (A : ArF Z h a ty cA vs) (E : Exa Z h a ad) (hsz : Ls.size = maxL) (hf : 1 ≤ R.frames) (hW : (st.map fun v => v.category).sum = wd) (hl : wd + 14 ≤ R.locals) (hcap : vs.length ≤ cap) (hc : k + 1 ≤ R.cells) (hs : n + cap ≤ R.slots)
    (K : ∀ h' b, b = h.size → Ext h h' → Ar Z h' b ty cA vs → Exa Z h' b ad → Go l Z mn code maxL ret R n0 Q h' (k + 1) (n + cap) q Ls (.ref b :: st)) : Go l Z mn code maxL ret R n0 Q h k n pc Ls (.ref a :: st) := by
  subst hq
  intro p e s m args below meth c T locs k' n' C X hk hn N eT
  obtain ⟨cl, A, r1, r2, r3⟩ := A
  obtain ⟨T', h', X', e', X2, A2, E2, f⟩ := cloneA X C.1 C.2.1 C.2.2.2.2.1 w1 w2 w3 w4 w5 w6 eT A E r3 (g := mkF m pc Ls (.ref a :: st)) rfl (by rw [C.2.2.2.1]; exact hsz) rfl (hb C.2.2.1 hd) hf (W := wd) (cap := cap) (by simp [hW]) hl (by rw [← r2] at hcap; simpa using hcap) (by omega) (by omega)
  exact (K h' h.size rfl X2 ⟨_, A2, r1, r2⟩ E2 p e s m args below meth c T' locs _ _ C X' (by omega) (by omega) N e').step f
end Calls5
end Jvm.OwnKit
namespace Jvm.OwnKit
open Jvm Jvm.ClassFile Sem Op Lib Jvm.Free Jvm.Stand Jvm.LawKit Jvm.RoadKit
section Copy
variable {l : Launch} {Z : State} {mn : MethodName} {code : ByteArray} {maxL : Nat} {ret : Option FieldType} {R : Room} {n0 : Nat} {Q : Option Value → Heap → Prop} {h : Heap} {k n pc q : Nat} {Ls : Array Slot} {st : List Value} {a0 : Array Value} {i wd : Nat}
theorem arv_of {a : Addr} {cA : ClassId} {vs : List Value} {z : Int32} {dv : Value} (A : Ar Z h a .int cA vs) (hz : vs.length = z.toNatClampNeg) (h0 : ¬ z < 0) (hf : ∀ v ∈ vs, fits .int v = true) : Arv Z h a cA .int z vs dv := by
  obtain ⟨c, A, r1, r2⟩ := A
  have e : c.slots.size = vs.length := by rw [← r2]; simp
  refine ⟨c, A, r1, by omega, h0, fun j hj => ?_, fun j hj => ?_⟩
  · have q : vs[j]? = some (vs[j]'(by omega)) := List.getElem?_eq_getElem _
    rw [List.getD_eq_getElem?_getD, q]
    rw [← Array.getElem?_toList, r2, q]; rfl
  · have q : vs[j]? = some (vs[j]'(by omega)) := List.getElem?_eq_getElem _
    rw [List.getD_eq_getElem?_getD, q]
    exact hf _ (List.getElem_mem _)
theorem ar_of {a : Addr} {cA : ClassId} {vs : List Value} {z : Int32} {dv : Value} (A : Arv Z h a cA .int z vs dv) : ∃ ws, Ar Z h a .int cA ws ∧ ws.length = z.toNatClampNeg := by
  obtain ⟨c, A, r1, r2, -⟩ := A
  exact ⟨c.slots.toList, ⟨c, A, r1, rfl⟩, by simpa using r2⟩
/-- System.arraycopy of no element into a new int[8] -/
theorem Go.acopy0 {a b : Addr} {kA kB : ClassId} (hd : decode code pc = .ok (.invokestatic i, 3)) (hq : q = pc + 3) (w1 : (Jvm.Cond.methodLink mn.cls i Jvm.Stand.acN).before a0 Z = true) (w2 : (Jvm.Cond.native Jvm.Stand.acN).before a0 Z = true) (w3 : (Jvm.Cond.static Jvm.Stand.acN).before a0 Z = true) (w4 : (Jvm.Cond.initialized "java/lang/System").before a0 Z = true)
    (A : Ar Z h a .int kA []) (B : Ar Z h b .int kB (List.replicate 8 (.int 0))) (ge : n0 ≤ b) (hsz : Ls.size = maxL) (hf : 1 ≤ R.frames) (hW : (st.map fun v => v.category).sum = wd) (hl : wd + 18 ≤ R.locals)
    (K : ∀ h' ws, Keep h h' [b] → Ar Z h' b .int kB ws → ws.length = 8 → Go l Z mn code maxL ret R n0 Q h' k n q Ls st) : Go l Z mn code maxL ret R n0 Q h k n pc Ls (.int 0 :: .int 0 :: .ref b :: .int 0 :: .ref a :: st) := by
  subst hq
  intro p e s m args below meth c T locs k' n' C X hk hn N eT
  have A' : Arv Z h a kA .int 0 [] (.int 0) := arv_of A rfl (by decide) (fun v hv => by cases hv)
  have B' : Arv Z h b kB .int 8 (List.replicate 8 (.int 0)) (.int 0) := arv_of B rfl (by decide) (fun v hv => by rw [List.eq_of_mem_replicate hv]; rfl)
  obtain ⟨T', h', L, X', e', N', K', D, f⟩ := cpA X C.1 C.2.1 C.2.2.2.2.1 w1 w2 w3 w4 eT A' B' (Or.inl ⟨rfl, rfl⟩) (sp := 0) (dp := 0) (nn := 0) (by decide) (by decide) (by decide) (by decide) (by decide) (us := []) rfl (by decide) N ge (g := mkF m pc Ls (.int 0 :: .int 0 :: .ref b :: .int 0 :: .ref a :: st)) rfl (by rw [C.2.2.2.1]; exact hsz) (rest := st) rfl (hb C.2.2.1 hd) hf (W := wd) (by simp [hW]) (by simpa [nativeFrameWords] using hl)
  obtain ⟨ws, D2, D3⟩ := ar_of D
  exact (K h' ws K' D2 D3 p e s m args below meth c T' L _ _ C X' hk hn N' e').step f
end Copy
end Jvm.OwnKit
namespace Jvm.OwnKit
open Jvm Jvm.ClassFile Sem Op Lib Jvm.Free Jvm.Stand Jvm.LawKit Jvm.RoadKit
section Face
variable {l : Launch} {Z : State} {mn : MethodName} {code : ByteArray} {maxL : Nat} {ret : Option FieldType} {R : Room} {n0 : Nat} {Q : Option Value → Heap → Prop} {h : Heap} {k n pc q : Nat} {Ls Ls' : Array Slot} {st st' : List Value} {a0 : Array Value}
  {y' : MethodName} {code' : ByteArray} {maxL' : Nat} {ret' : Option FieldType} {R' : Room} {Q' : Option Value → Heap → Prop} {argsL rest : List Value} {Ls1 : Array Slot} {ps : List FieldType} {r : Option FieldType} {i wd cnt : Nat}
theorem Go.callF {xi : MethodName} {C : String} {a : Addr} (hd : decode code pc = .ok (.invokeinterface i cnt, 5)) (hq : q = pc + 5) (w1 : (Jvm.Cond.methodLink mn.cls i xi).before a0 Z = true) (w2 : (Jvm.Cond.declares xi).before a0 Z = true) (wf : (Jvm.Cond.interfaceMethod xi.cls xi.cls xi.name xi.desc).before a0 Z = true) (wx : ((Jvm.Cond.interfaceMethod xi.cls xi.cls xi.name xi.desc).onTables && (Jvm.Cond.interfaceMethod xi.cls xi.cls xi.name xi.desc).keepsFace) = true) (w3 : (Jvm.Cond.selects C xi y').before a0 Z = true) (w4 : (Jvm.Cond.instanceMethod y').before a0 Z = true) (wp : (Jvm.Cond.publicMethod y').before a0 Z = true) (wu : (Jvm.Cond.unhidden C xi.name xi.desc).before a0 Z = true) (wc : (Jvm.Cond.castable C xi.cls).before a0 Z = true) (w5 : (Jvm.Cond.code y' code' maxL' ret').before a0 Z = true) (w6 : (Jvm.Cond.initialized y'.cls).before a0 Z = true)
    (hy : xi.cls ≠ "java/lang/invoke/MethodHandle" ∧ xi.cls ≠ "java/lang/invoke/VarHandle") (pn : plainFor y' = true) (pd : parseMethodDescriptor xi.desc = some ⟨ps, r⟩) (hl : argsL.length = ps.length) (hst : st = argsL.reverse ++ .ref a :: rest) (E : Exa Z h a C) (hef : ∀ m, entryFrame m (.ref a :: argsL).toArray maxL' = mkF m 0 Ls1 []) (hsz : Ls.size = maxL)
    (hR1 : R'.frames + 1 ≤ R.frames) (hW : (rest.map fun v => v.category).sum = wd) (hR2 : wd + (maxL' + 11) + R'.locals ≤ R.locals) (hc : k + R'.cells ≤ R.cells) (hs : n + R'.slots ≤ R.slots)
    (G : Go l Z y' code' maxL' ret' R' n0 Q' h 0 0 0 Ls1 []) (K : ∀ v h', Q' v h' → Go l Z mn code maxL ret R n0 Q h' (k + R'.cells) (n + R'.slots) q Ls (v.toList ++ rest)) : Go l Z mn code maxL ret R n0 Q h k n pc Ls st := by
  subst hq hst hW
  intro p e s m args below meth c T locs k' n' Cc X hk hn N eT
  obtain ⟨cq, kq, qa, qb, qc⟩ := isOf Cc.2.1 eT E
  obtain ⟨v, vm1, ⟨T1, L1, k1, n1⟩, -, X1, ⟨Lc, hQ, e1, e2, e3⟩, f⟩ := X.interfaceBack Cc.1 (xi := xi) (y := y') Cc.2.2.2.2.1 (mvT Cc.2.1 w1) (mvT Cc.2.1 w2) (mvT Cc.2.1 wf wx) (mvT Cc.2.1 w3) (mvT Cc.2.1 w4) (mvT Cc.2.1 wp) (mvT Cc.2.1 wu) (mvT Cc.2.1 wc) hy (backOf (W := (rest.map fun v => v.category).sum) (Q := fun v h L => Fr n0 L ∧ Q' v h) (G.met pn hef []) Cc.2.1 w5 w6 hR1 hR2) qa qb qc (g := mkF m pc Ls (argsL.reverse ++ .ref a :: rest)) rfl (by rw [Cc.2.2.2.1]; exact hsz) (Steps.refl _) (argsL := argsL) (rest := rest) (lenOf pd hl) rfl (by simp) (hb Cc.2.2.1 hd) (fun _ _ => ⟨rfl, eT, by show k' + _ ≤ _; omega, by show n' + _ ≤ _; omega⟩)
  dsimp only [Pt.U, Pt.locs, Pt.cells, Pt.slots] at X1 e1 e2 e3 f hQ
  subst e1 e2 e3
  exact (K v T1.heap hQ.2 p e s m args below meth c T1 _ _ _ Cc X1 (by omega) (by omega) (Fr.app N hQ.1) rfl).step fun t r => f.trans r
theorem Go.callFV {P : Value → Heap → Prop} {xi : MethodName} {C : String} {a : Addr} (hd : decode code pc = .ok (.invokeinterface i cnt, 5)) (hq : q = pc + 5) (w1 : (Jvm.Cond.methodLink mn.cls i xi).before a0 Z = true) (w2 : (Jvm.Cond.declares xi).before a0 Z = true) (wf : (Jvm.Cond.interfaceMethod xi.cls xi.cls xi.name xi.desc).before a0 Z = true) (wx : ((Jvm.Cond.interfaceMethod xi.cls xi.cls xi.name xi.desc).onTables && (Jvm.Cond.interfaceMethod xi.cls xi.cls xi.name xi.desc).keepsFace) = true) (w3 : (Jvm.Cond.selects C xi y').before a0 Z = true) (w4 : (Jvm.Cond.instanceMethod y').before a0 Z = true) (wp : (Jvm.Cond.publicMethod y').before a0 Z = true) (wu : (Jvm.Cond.unhidden C xi.name xi.desc).before a0 Z = true) (wc : (Jvm.Cond.castable C xi.cls).before a0 Z = true) (w5 : (Jvm.Cond.code y' code' maxL' ret').before a0 Z = true) (w6 : (Jvm.Cond.initialized y'.cls).before a0 Z = true)
    (hy : xi.cls ≠ "java/lang/invoke/MethodHandle" ∧ xi.cls ≠ "java/lang/invoke/VarHandle") (pn : plainFor y' = true) (pd : parseMethodDescriptor xi.desc = some ⟨ps, r⟩) (hl : argsL.length = ps.length) (hst : st = argsL.reverse ++ .ref a :: rest) (E : Exa Z h a C) (hef : ∀ m, entryFrame m (.ref a :: argsL).toArray maxL' = mkF m 0 Ls1 []) (hsz : Ls.size = maxL)
    (hR1 : R'.frames + 1 ≤ R.frames) (hW : (rest.map fun v => v.category).sum = wd) (hR2 : wd + (maxL' + 11) + R'.locals ≤ R.locals) (hc : k + R'.cells ≤ R.cells) (hs : n + R'.slots ≤ R.slots)
    (G : Go l Z y' code' maxL' ret' R' n0 (RV P) h 0 0 0 Ls1 []) (K : ∀ w h', P w h' → Go l Z mn code maxL ret R n0 Q h' (k + R'.cells) (n + R'.slots) q Ls (w :: rest)) : Go l Z mn code maxL ret R n0 Q h k n pc Ls st :=
  Go.callF hd hq w1 w2 wf wx w3 w4 wp wu wc w5 w6 hy pn pd hl hst E hef hsz hR1 hW hR2 hc hs G fun v h' ⟨w, e, q⟩ => by subst e; exact K w h' q
theorem Go.bastore {a : Addr} {cA : ClassId} {vs : List Value} {j x : Int32} (hd : decode code pc = .ok (.bastore, 1)) (hq : q = pc + 1) (A : Ar Z h a .byte cA vs) (hj : ¬ j < 0) (hv : j.toNatClampNeg < vs.length) (ha : n0 ≤ a) (K : ∀ h', Wr h h' a j.toNatClampNeg (.int (nar .byte x)) → Go l Z mn code maxL ret R n0 Q h' k n q Ls st) : Go l Z mn code maxL ret R n0 Q h k n pc Ls (.int x :: .int j :: .ref a :: st) := by
  subst hq
  intro p e s m args below meth c T locs k' n' C X hk hn N eT
  obtain ⟨cl, A, r1, r2⟩ := A
  obtain ⟨T', h', X', e', W, f⟩ := stB X C.1 C.2.1 eT A (inb hj r2 hv) (g := mkF m pc Ls (.int x :: .int j :: .ref a :: st)) rfl rfl (hb C.2.2.1 hd)
  exact (K h' W p e s m args below meth c T' _ k' n' C X' hk hn (Fr.snoc X' N ha) e').step f
theorem Go.breturn {z : Int32} (hd : decode code pc = .ok (.ireturn, 1)) (hk : k ≤ R.cells) (hn : n ≤ R.slots) (hz : narrow .byte (.int z) = .int z) (hQ : Q (some (.int z)) h) : Go l Z mn code maxL (some .byte) R n0 Q h k n pc Ls (.int z :: st) :=
  Go.retOut hd hz (Or.inl ⟨rfl, Or.inr (Or.inr (Or.inl rfl)), z, rfl⟩) hk hn hQ
end Face
end Jvm.OwnKit
namespace Jvm.OwnKit
open Jvm Jvm.ClassFile Sem Op Lib Jvm.FP Jvm.FP.Core Jvm.Free.Fl
/-- five binary digits up -/
def up5 : Datum → Datum
  | .fin s c q => .fin s c (q + 5)
  | .inf s => .inf s
  | .nan => .nan
/-- the double is the whole number i of thirty-seconds -/
def Sx (i : Int) (a : UInt64) : Prop := Whole i (up5 (val64 a))
theorem up5_sum (s t : Bool) (c d : Nat) (q r : Int) : up5 (exactSum (.fin s c q) (.fin t d r)) = exactSum (up5 (.fin s c q)) (up5 (.fin t d r)) := by
  have e : min (q + 5) (r + 5) = min q r + 5 := by omega
  have e1 : inUnits c (q + 5) (min q r + 5) = inUnits c q (min q r) := by
    unfold inUnits; congr 2; omega
  have e2 : inUnits d (r + 5) (min q r + 5) = inUnits d r (min q r) := by
    unfold inUnits; congr 2; omega
  show Datum.fin _ _ _ = Datum.fin (sumSign s t (sumUnits s c (q + 5) t d (r + 5) (min (q + 5) (r + 5)))) (sumUnits s c (q + 5) t d (r + 5) (min (q + 5) (r + 5))).natAbs (min (q + 5) (r + 5))
  have e3 : sumUnits s c (q + 5) t d (r + 5) (min (q + 5) (r + 5)) = sumUnits s c q t d r (min q r) := by
    unfold sumUnits; rw [e, e1, e2]
  rw [e3, e]
theorem sx_round {i : Int} {d : Datum} (hi : i.natAbs < 2 ^ 53) (h : Whole i (up5 d)) : Whole i (up5 (round b64 d)) := by
  cases d with
  | nan => exact h.elim
  | inf s => exact h.elim
  | fin s c q =>
    have h : Whole i (.fin s c (q + 5)) := h
    have e : round b64 (.fin s c q) = round b64 (.fin s i.natAbs (-5)) := by
      refine roundRatio_congr (by decide) (by decide) ?_
      have := whole_natAbs h
      rw [show (q - -5).toNat = (q + 5).toNat by omega, show (-5 - q).toNat = (-(q + 5)).toNat by omega]
      simpa using this
    rw [e]
    obtain ⟨c', q', e1, e2⟩ := round_exact good_b64 s (c := i.natAbs) (q := -5) hi (by decide) (by decide)
    have f := round_fits good_b64 (.fin s i.natAbs (-5))
    rw [e1] at f
    rw [e1]
    have f1 : b64.qmin ≤ q' := f.2.1
    have eq : b64.qmin = -1074 := by decide
    unfold inUnits at e2
    rw [eq] at e2 f1
    show signed s (c' * 2 ^ (q' + 5).toNat) = i * ((2 ^ (-(q' + 5)).toNat : Nat) : Int)
    have hab : (q' + 5).toNat + (-5 - -1074 : Int).toNat = (q' - -1074).toNat + (-(q' + 5)).toNat := by omega
    have N : c' * 2 ^ (q' + 5).toNat = i.natAbs * 2 ^ (-(q' + 5)).toNat := by
      apply Nat.eq_of_mul_eq_mul_right (Nat.two_pow_pos (-5 - -1074 : Int).toNat)
      rw [Nat.mul_assoc, ← Nat.pow_add, hab, Nat.pow_add, ← Nat.mul_assoc, e2, Nat.mul_right_comm]
    rw [N, signed_mul]
    congr 1
    by_cases hi0 : i = 0
    · rw [hi0]; exact signed_zero s
    · rw [whole_sign h hi0]
      unfold signed
      by_cases h : i < 0 <;> simp [h] <;> omega
theorem sx_fin {i : Int} {a : UInt64} (h : Sx i a) : Fin64 a := by
  rw [fin64_core]
  unfold Sx at h
  cases e : val64 a with
  | nan => rw [e] at h; exact h.elim
  | inf s => rw [e] at h; exact h.elim
  | fin s c q => exact ⟨s, c, q, e⟩
theorem sx_nn {i : Int} {a : UInt64} (h : Sx i a) : NoNaN64 a := (sx_fin h).noNaN
theorem sx_add {i j : Int} {a b : UInt64} (ha : Sx i a) (hb : Sx j b) (h : (i + j).natAbs < 2 ^ 53) : Sx (i + j) (FP.dadd a b) := by
  show Whole (i + j) (up5 (val64 (Core.dadd a b)))
  obtain ⟨s, c, q, e⟩ := fin64_core.mp (sx_fin ha)
  obtain ⟨t, d, r, e'⟩ := fin64_core.mp (sx_fin hb)
  unfold Sx at ha hb
  rw [val64_dadd]
  refine sx_round h ?_
  rw [e] at ha ⊢
  rw [e'] at hb ⊢
  rw [up5_sum]
  exact whole_sum ha hb
theorem sx_neg {i : Int} {a : UInt64} (ha : Sx i a) : Sx (-i) (FP.dneg a) := by
  show Whole (-i) (up5 (val64 (FP.dneg a)))
  obtain ⟨s, c, q, e⟩ := fin64_core.mp (sx_fin ha)
  unfold Sx at ha
  rw [FP.val64_dneg]
  rw [e] at ha ⊢
  exact whole_negate ha
theorem sx_negC {i : Int} {a : UInt64} (ha : Sx i a) : Sx (-i) (Core.dneg a) := by
  show Whole (-i) (up5 (val64 (Core.dneg a)))
  obtain ⟨s, c, q, e⟩ := fin64_core.mp (sx_fin ha)
  unfold Sx at ha
  rw [Core.val64_dneg]
  rw [e] at ha ⊢
  exact whole_negate ha
theorem sx_sub {i j : Int} {a b : UInt64} (ha : Sx i a) (hb : Sx j b) (h : (i - j).natAbs < 2 ^ 53) : Sx (i - j) (FP.dsub a b) := by
  have e : FP.dsub a b = FP.dadd a (Core.dneg b) := Core.dsub_eq a b
  rw [e]
  exact sx_add ha (sx_negC hb) h
theorem sx_mul {i j : Int} {a b : UInt64} (ha : Sx i a) (hb : DInt j b) (h : (i * j).natAbs < 2 ^ 53) : Sx (i * j) (FP.dmul a b) := by
  show Whole (i * j) (up5 (val64 (Core.dmul a b)))
  obtain ⟨s, c, q, e⟩ := fin64_core.mp (sx_fin ha)
  unfold Sx at ha
  unfold DInt at hb
  rw [val64_dmul]
  refine sx_round h ?_
  rw [e] at ha ⊢
  cases e' : val64 b with
  | nan => rw [e'] at hb; exact hb.elim
  | inf t => rw [e'] at hb; exact hb.elim
  | fin t d r =>
    rw [e'] at hb
    have w := whole_product ha hb
    have e2 : up5 (exactProduct (.fin s c q) (.fin t d r)) = exactProduct (up5 (.fin s c q)) (.fin t d r) := by
      show Datum.fin _ _ _ = Datum.fin _ _ _
      congr 1; omega
    rw [e2]; exact w
theorem sx_whole {i : Int} {a : UInt64} (ha : DInt i a) : Sx (32 * i) a := by
  unfold DInt at ha
  show Whole (32 * i) (up5 (val64 a))
  cases e : val64 a with
  | nan => rw [e] at ha; exact ha.elim
  | inf t => rw [e] at ha; exact ha.elim
  | fin s c q =>
    rw [e] at ha
    have h1 : signed s (c * 2 ^ q.toNat) = i * ((2 ^ (-q).toNat : Nat) : Int) := ha
    show signed s (c * 2 ^ (q + 5).toNat) = 32 * i * ((2 ^ (-(q + 5)).toNat : Nat) : Int)
    have p2 : ((2 ^ (-q).toNat : Nat) : Int) ≠ 0 := by
      have := Nat.two_pow_pos (-q).toNat; omega
    refine Int.eq_of_mul_eq_mul_right p2 ?_
    have hx : (q + 5).toNat + (-q).toNat = q.toNat + (5 + (-(q + 5)).toNat) := by omega
    rw [← signed_mul, Nat.mul_assoc, ← Nat.pow_add, hx, Nat.pow_add, ← Nat.mul_assoc, signed_mul, h1, Nat.pow_add, Int.natCast_mul]
    have e5 : ((2 ^ 5 : Nat) : Int) = 32 := rfl
    rw [e5]
    generalize ((2 ^ (-q).toNat : Nat) : Int) = A
    generalize ((2 ^ (-(q + 5)).toNat : Nat) : Int) = B
    ac_rfl
def cmpI (i j : Int) : Int32 := if i < j then -1 else if i = j then 0 else 1
theorem sx_cmp {i j : Int} {a b : UInt64} (ha : Sx i a) (hb : Sx j b) : FP.dcmp a b = some (compare i j) := by
  show order (val64 a) (val64 b) = _
  obtain ⟨s, c, q, e⟩ := fin64_core.mp (sx_fin ha)
  obtain ⟨t, d, r, e'⟩ := fin64_core.mp (sx_fin hb)
  unfold Sx at ha hb
  rw [e] at ha ⊢
  rw [e'] at hb ⊢
  rw [← order_whole ha hb]
  show some (compare _ _) = some (compare _ _)
  have h : min (q + 5) (r + 5) = min q r + 5 := by omega
  have e1 : inUnits c (q + 5) (min (q + 5) (r + 5)) = inUnits c q (min q r) := by
    unfold inUnits; congr 2; omega
  have e2 : inUnits d (r + 5) (min (q + 5) (r + 5)) = inUnits d r (min q r) := by
    unfold inUnits; congr 2; omega
  rw [e1, e2]
theorem sx_cmpV {i j : Int} {a b : UInt64} (ha : Sx i a) (hb : Sx j b) (o : CmpOp) : cmpValue (FP.dcmp a b) o = cmpI i j := by
  rw [sx_cmp ha hb, Core.compare_ite]
  unfold cmpI
  by_cases h1 : i < j
  · simp only [if_pos h1]; rfl
  · simp only [if_neg h1]
    by_cases h2 : i = j
    · simp only [if_pos h2]; rfl
    · simp only [if_neg h2]; rfl
def sxb (i : Int) (a : UInt64) : Bool :=
  match val64 a with
  | .fin s c q => decide (signed s (c * 2 ^ (q + 5).toNat) = i * ((2 ^ (-(q + 5)).toNat : Nat) : Int))
  | _ => false
theorem sx_of {i : Int} {a : UInt64} (h : sxb i a = true) : Sx i a := by
  unfold sxb at h
  show Whole i (up5 (val64 a))
  cases e : val64 a with
  | nan => rw [e] at h; cases h
  | inf t => rw [e] at h; cases h
  | fin s c q =>
    rw [e] at h
    simp only [decide_eq_true_eq] at h
    exact h
theorem sx_zero : Sx 0 0 := sx_of (by decide +kernel)
theorem sx_abs {i : Int} {a : UInt64} (ha : Sx i a) : Sx i.natAbs (a &&& 0x7fffffffffffffff) := by
  have c : Core.dcmp a 0 = some (compare i 0) := sx_cmp ha sx_zero
  rw [Core.compare_ite] at c
  by_cases h1 : i < 0
  · rw [if_pos h1] at c
    rw [Core.abs_neg c, show ((i.natAbs : Nat) : Int) = -i by omega]
    exact sx_negC ha
  · rw [if_neg h1] at c
    by_cases h2 : i = 0
    · rw [if_pos h2] at c
      rw [Core.abs_zero c, h2]
      exact sx_zero
    · rw [if_neg h2] at c
      rw [Core.abs_pos c, show ((i.natAbs : Nat) : Int) = i by omega]
      exact ha
open Jvm.Native.java_lang_Math.nans in
theorem sx_max {i j g : Int} {a b : UInt64} (ha : Sx i a) (hb : Sx j b) (hg : (i ≤ j ∧ g = j) ∨ (j ≤ i ∧ g = i)) : Sx g (pick64 true a b) := by
  unfold pick64
  rw [sx_cmp ha hb, Core.compare_ite]
  by_cases h1 : i < j
  · rw [if_pos h1]
    have : g = j := by omega
    rw [this]; exact hb
  · rw [if_neg h1]
    by_cases h2 : i = j
    · rw [if_pos h2]
      have e : g = i := by omega
      have e' : g = j := by omega
      show Sx g (if _ then b else a)
      split
      · rw [e']; exact hb
      · rw [e]; exact ha
    · rw [if_neg h2]
      have : g = i := by omega
      rw [this]; exact ha
end Jvm.OwnKit

namespace Jvm.OwnKit
open Jvm Jvm.ClassFile Sem Op Lib Jvm.Free Jvm.Stand Jvm.LawKit Jvm.RoadKit Jvm.Free.Fl
section Dbl
variable {l : Launch} {Z : State} {mn : MethodName} {code : ByteArray} {maxL : Nat} {ret : Option FieldType} {R : Room} {n0 : Nat} {Q : Option Value → Heap → Prop} {h : Heap} {k n pc q : Nat} {Ls Ls' : Array Slot} {st st' : List Value} {a0 : Array Value}

theorem Go.dloadN {i : Fin 4} {v : UInt64} (hd : decode code pc = .ok (.dload_n i, 1)) (hq : q = pc + 1) (hl : Ls[i.val]? = some (.val (.double v))) (K : Go l Z mn code maxL ret R n0 Q h k n q Ls (.double v :: st)) : Go l Z mn code maxL ret R n0 Q h k n pc Ls (st) := by
  subst hq
  exact K.plain fun p e s m args below meth c T locs k' n' hx hby X t r => XS.dloadN X.here hx rfl (hb hby hd) hl r
theorem Go.dload {i : Nat} {v : UInt64} (hd : decode code pc = .ok (.dload i, 2)) (hq : q = pc + 2) (hl : Ls[i]? = some (.val (.double v))) (K : Go l Z mn code maxL ret R n0 Q h k n q Ls (.double v :: st)) : Go l Z mn code maxL ret R n0 Q h k n pc Ls (st) := by
  subst hq
  exact K.plain fun p e s m args below meth c T locs k' n' hx hby X t r => XS.dload X.here hx rfl (hb hby hd) hl r
theorem Go.dstoreN {i : Fin 4} {v : UInt64} (hd : decode code pc = .ok (.dstore_n i, 1)) (hq : q = pc + 1) (hl : storeLocals Ls i.val (.double v) = some Ls') (K : Go l Z mn code maxL ret R n0 Q h k n q Ls' (st)) : Go l Z mn code maxL ret R n0 Q h k n pc Ls (.double v :: st) := by
  subst hq
  exact K.plain fun p e s m args below meth c T locs k' n' hx hby X t r => XS.dstoreN X.here hx rfl (hb hby hd) rfl hl r
theorem Go.dstore {i : Nat} {v : UInt64} (hd : decode code pc = .ok (.dstore i, 2)) (hq : q = pc + 2) (hl : storeLocals Ls i (.double v) = some Ls') (K : Go l Z mn code maxL ret R n0 Q h k n q Ls' (st)) : Go l Z mn code maxL ret R n0 Q h k n pc Ls (.double v :: st) := by
  subst hq
  exact K.plain fun p e s m args below meth c T locs k' n' hx hby X t r => XS.dstore X.here hx rfl (hb hby hd) rfl hl r
theorem Go.dconst0 (hd : decode code pc = .ok (.dconst 0, 1)) (hq : q = pc + 1) (K : Go l Z mn code maxL ret R n0 Q h k n q Ls (.double 0 :: st)) : Go l Z mn code maxL ret R n0 Q h k n pc Ls (st) := by
  subst hq
  exact K.plain fun p e s m args below meth c T locs k' n' hx hby X t r => XS.dconst0 X.here hx rfl (hb hby hd) rfl r
theorem Go.dconst1 (hd : decode code pc = .ok (.dconst 1, 1)) (hq : q = pc + 1) (K : Go l Z mn code maxL ret R n0 Q h k n q Ls (.double FP.dconst1 :: st)) : Go l Z mn code maxL ret R n0 Q h k n pc Ls (st) := by
  subst hq
  exact K.plain fun p e s m args below meth c T locs k' n' hx hby X t r => XS.dconst1 X.here hx rfl (hb hby hd) rfl r
theorem Go.i2d {x : Int32} (hd : decode code pc = .ok (.i2d, 1)) (hq : q = pc + 1) (K : Go l Z mn code maxL ret R n0 Q h k n q Ls (.double (FP.i2d x) :: st)) : Go l Z mn code maxL ret R n0 Q h k n pc Ls (.int x :: st) := by
  subst hq
  exact K.plain fun p e s m args below meth c T locs k' n' hx hby X t r => XS.i2dS X.here hx rfl (hb hby hd) rfl rfl r
theorem Go.dneg {x : UInt64} (hd : decode code pc = .ok (.dneg, 1)) (hq : q = pc + 1) (K : Go l Z mn code maxL ret R n0 Q h k n q Ls (.double (FP.dneg x) :: st)) : Go l Z mn code maxL ret R n0 Q h k n pc Ls (.double x :: st) := by
  subst hq
  exact K.plain fun p e s m args below meth c T locs k' n' hx hby X t r => XS.dnegS X.here hx rfl (hb hby hd) rfl rfl r
theorem Go.dcmp {o : CmpOp} {x y : UInt64} {v : Int32} (hd : decode code pc = .ok (.dcmp o, 1)) (hq : q = pc + 1) (hv : cmpValue (FP.dcmp x y) o = v) (K : Go l Z mn code maxL ret R n0 Q h k n q Ls (.int v :: st)) : Go l Z mn code maxL ret R n0 Q h k n pc Ls (.double y :: .double x :: st) := by
  subst hq
  exact K.plain fun p e s m args below meth c T locs k' n' hx hby X t r => XS.dcmpS X.here hx rfl (hb hby hd) rfl hv r
theorem Go.dadd {x y : UInt64} (hd : decode code pc = .ok (.dadd, 1)) (hq : q = pc + 1) (hn : NoNaN64 (FP.dadd x y)) (K : Go l Z mn code maxL ret R n0 Q h k n q Ls (.double (FP.dadd x y) :: st)) : Go l Z mn code maxL ret R n0 Q h k n pc Ls (.double y :: .double x :: st) := by
  subst hq
  exact K.plain fun p e s m args below meth c T locs k' n' hx hby X t r => XS.daddS X.here hx rfl (hb hby hd) rfl hn rfl r
theorem Go.daddX {x y : UInt64} {i : Int} (hd : decode code pc = .ok (.dadd, 1)) (hq : q = pc + 1) (s : Sx i (FP.dadd x y)) (K : ∀ v, Sx i v → Go l Z mn code maxL ret R n0 Q h k n q Ls (.double v :: st)) : Go l Z mn code maxL ret R n0 Q h k n pc Ls (.double y :: .double x :: st) :=
  Go.dadd hd hq (sx_nn s) (K _ s)
theorem Go.dsub {x y : UInt64} (hd : decode code pc = .ok (.dsub, 1)) (hq : q = pc + 1) (hn : NoNaN64 (FP.dsub x y)) (K : Go l Z mn code maxL ret R n0 Q h k n q Ls (.double (FP.dsub x y) :: st)) : Go l Z mn code maxL ret R n0 Q h k n pc Ls (.double y :: .double x :: st) := by
  subst hq
  exact K.plain fun p e s m args below meth c T locs k' n' hx hby X t r => XS.dsubS X.here hx rfl (hb hby hd) rfl hn rfl r
theorem Go.dsubX {x y : UInt64} {i : Int} (hd : decode code pc = .ok (.dsub, 1)) (hq : q = pc + 1) (s : Sx i (FP.dsub x y)) (K : ∀ v, Sx i v → Go l Z mn code maxL ret R n0 Q h k n q Ls (.double v :: st)) : Go l Z mn code maxL ret R n0 Q h k n pc Ls (.double y :: .double x :: st) :=
  Go.dsub hd hq (sx_nn s) (K _ s)
theorem Go.dmul {x y : UInt64} (hd : decode code pc = .ok (.dmul, 1)) (hq : q = pc + 1) (hn : NoNaN64 (FP.dmul x y)) (K : Go l Z mn code maxL ret R n0 Q h k n q Ls (.double (FP.dmul x y) :: st)) : Go l Z mn code maxL ret R n0 Q h k n pc Ls (.double y :: .double x :: st) := by
  subst hq
  exact K.plain fun p e s m args below meth c T locs k' n' hx hby X t r => XS.dmulS X.here hx rfl (hb hby hd) rfl hn rfl r
theorem Go.dmulX {x y : UInt64} {i : Int} (hd : decode code pc = .ok (.dmul, 1)) (hq : q = pc + 1) (s : Sx i (FP.dmul x y)) (K : ∀ v, Sx i v → Go l Z mn code maxL ret R n0 Q h k n q Ls (.double v :: st)) : Go l Z mn code maxL ret R n0 Q h k n pc Ls (.double y :: .double x :: st) :=
  Go.dmul hd hq (sx_nn s) (K _ s)
theorem Go.ddiv {x y : UInt64} (hd : decode code pc = .ok (.ddiv, 1)) (hq : q = pc + 1) (hn : NoNaN64 (FP.ddiv x y)) (K : Go l Z mn code maxL ret R n0 Q h k n q Ls (.double (FP.ddiv x y) :: st)) : Go l Z mn code maxL ret R n0 Q h k n pc Ls (.double y :: .double x :: st) := by
  subst hq
  exact K.plain fun p e s m args below meth c T locs k' n' hx hby X t r => XS.ddivS X.here hx rfl (hb hby hd) rfl hn rfl r
theorem Go.ddivX {x y : UInt64} {i : Int} (hd : decode code pc = .ok (.ddiv, 1)) (hq : q = pc + 1) (s : Sx i (FP.ddiv x y)) (K : ∀ v, Sx i v → Go l Z mn code maxL ret R n0 Q h k n q Ls (.double v :: st)) : Go l Z mn code maxL ret R n0 Q h k n pc Ls (.double y :: .double x :: st) :=
  Go.ddiv hd hq (sx_nn s) (K _ s)
theorem Go.dnegX {x : UInt64} {i : Int} (hd : decode code pc = .ok (.dneg, 1)) (hq : q = pc + 1) (s : Sx i x) (K : ∀ v, Sx (-i) v → Go l Z mn code maxL ret R n0 Q h k n q Ls (.double v :: st)) : Go l Z mn code maxL ret R n0 Q h k n pc Ls (.double x :: st) :=
  Go.dneg hd hq (K _ (sx_neg s))
theorem Go.dcmpX {o : CmpOp} {x y : UInt64} {i j : Int} {v : Int32} (hd : decode code pc = .ok (.dcmp o, 1)) (hq : q = pc + 1) (sx : Sx i x) (sy : Sx j y) (hv : cmpI i j = v) (K : Go l Z mn code maxL ret R n0 Q h k n q Ls (.int v :: st)) : Go l Z mn code maxL ret R n0 Q h k n pc Ls (.double y :: .double x :: st) :=
  Go.dcmp hd hq (by rw [← hv]; exact sx_cmpV sx sy o) K
theorem Go.ldc2D {i : Nat} {v : UInt64} (hd : decode code pc = .ok (.ldc2_w i, 3)) (hq : q = pc + 3) (w : (Jvm.Cond.constantDouble mn.cls i v).before a0 Z = true) (K : Go l Z mn code maxL ret R n0 Q h k n q Ls (.double v :: st)) : Go l Z mn code maxL ret R n0 Q h k n pc Ls st := by
  subst hq
  exact fun p e s m args below meth c T locs k' n' C X hk hn N eT => (K p e s m args below meth c T locs k' n' C X hk hn N eT).step fun t r => X.ldc2DoubleC C.1 C.2.2.2.2.1 (mvT C.2.1 w) (g := mkF m pc Ls st) rfl (hb C.2.2.1 hd) t r
variable {a : Addr} {cA : ClassId} {vs : List Value} {j : Int32} {v : Value}
theorem Go.daload (hd : decode code pc = .ok (.daload, 1)) (hq : q = pc + 1) (A : Ar Z h a .double cA vs) (hj : ¬ j < 0) (hv : vs[j.toNatClampNeg]? = some v) (K : Go l Z mn code maxL ret R n0 Q h k n q Ls (v :: st)) : Go l Z mn code maxL ret R n0 Q h k n pc Ls (.int j :: .ref a :: st) := by
  subst hq
  intro p e s m args below meth c T locs k' n' C X hk hn N eT
  obtain ⟨cl, A, r1, r2⟩ := A
  exact (K p e s m args below meth c T locs k' n' C X hk hn N eT).step fun t r => X.daload (g := mkF m pc Ls (.int j :: .ref a :: st)) C.1 (by rw [eT]; exact A.1) (State.isArrayOf_alike C.2.1.alike A.2.1) A.2.2 (inb hj r2 (List.getElem?_eq_some_iff.mp hv).1) (at_l r2 hv) rfl rfl (hb C.2.2.1 hd) t r
theorem Go.dastore {x : UInt64} (hd : decode code pc = .ok (.dastore, 1)) (hq : q = pc + 1) (A : Ar Z h a .double cA vs) (hj : ¬ j < 0) (hv : j.toNatClampNeg < vs.length) (ha : n0 ≤ a) (K : ∀ h', Wr h h' a j.toNatClampNeg (.double x) → Go l Z mn code maxL ret R n0 Q h' k n q Ls st) : Go l Z mn code maxL ret R n0 Q h k n pc Ls (.double x :: .int j :: .ref a :: st) := by
  subst hq
  intro p e s m args below meth c T locs k' n' C X hk hn N eT
  obtain ⟨cl, A, r1, r2⟩ := A
  obtain ⟨T', h', X', e', W, f⟩ := stD X C.1 C.2.1 eT A (inb hj r2 hv) (g := mkF m pc Ls (.double x :: .int j :: .ref a :: st)) rfl rfl (hb C.2.2.1 hd)
  exact (K h' W p e s m args below meth c T' _ k' n' C X' hk hn (Fr.snoc X' N ha) e').step f
theorem pAbs : parseMethodDescriptor Abs.absDN.desc = some ⟨[.double], some .double⟩ := by decide +kernel
theorem pMax : parseMethodDescriptor Abs.maxDN.desc = some ⟨[.double, .double], some .double⟩ := by decide +kernel
theorem Go.absD {x : UInt64} {i wd : Nat} {rest : List Value} {b : Int} (hd : decode code pc = .ok (.invokestatic i, 3)) (hq : q = pc + 3) (w1 : (Jvm.Cond.methodLink mn.cls i Abs.absDN).before a0 Z = true) (w2 : (Jvm.Cond.static Abs.absDN).before a0 Z = true) (w3 : (Jvm.Cond.initialized Abs.absDN.cls).before a0 Z = true) (w4 : (Jvm.Cond.code Abs.absDN Abs.absDCode 2 (some .double)).before a0 Z = true)
    (hx : Sx b x) (hsz : Ls.size = maxL) (hR1 : 1 ≤ R.frames) (hW : (rest.map fun v => v.category).sum = wd) (hR2 : wd + 13 ≤ R.locals) (hc : k ≤ R.cells) (hs : n ≤ R.slots)
    (K : ∀ v, Sx b.natAbs v → Go l Z mn code maxL ret R n0 Q h k n q Ls (.double v :: rest)) : Go l Z mn code maxL ret R n0 Q h k n pc Ls (.double x :: rest) := by
  subst hq hW
  intro p e s m args below meth c T locs k' n' C X hk hn N eT
  obtain ⟨T', X', eT', f⟩ := natS X C.1 C.2.1 (own := mn.cls) C.2.2.2.2.1 w1 w2 w3 w4 (by decide) eT (W := (rest.map fun v => v.category).sum) (F := fun a' => a' = #[.double x] ∧ NoNaN64 x) (fun hcd => Abs.absD_pays x hcd hR1 hR2) (g := mkF m pc Ls (.double x :: rest)) rfl (by rw [C.2.2.2.1]; exact hsz) (argsL := [.double x]) (rest := rest) (lenOf pAbs rfl) rfl (by simp [mkF, JFrame.monitorRoom]) (hb C.2.2.1 hd) (Nat.le_trans hk hc) (Nat.le_trans hn hs) ⟨rfl, sx_nn hx⟩ rfl
  exact (K _ (sx_abs hx) p e s m args below meth c T' locs k' n' C X' hk hn N eT').step f
theorem Go.maxD {x y : UInt64} {i wd : Nat} {rest : List Value} {b d g : Int} (hd : decode code pc = .ok (.invokestatic i, 3)) (hq : q = pc + 3) (w1 : (Jvm.Cond.methodLink mn.cls i Abs.maxDN).before a0 Z = true) (w2 : (Jvm.Cond.static Abs.maxDN).before a0 Z = true) (w3 : (Jvm.Cond.initialized Abs.maxDN.cls).before a0 Z = true) (w4 : (Jvm.Cond.code Abs.maxDN Abs.maxDCode 4 (some .double)).before a0 Z = true)
    (hx : Sx b x) (hy : Sx d y) (hg : (b ≤ d ∧ g = d) ∨ (d ≤ b ∧ g = b)) (hsz : Ls.size = maxL) (hR1 : 1 ≤ R.frames) (hW : (rest.map fun v => v.category).sum = wd) (hR2 : wd + 15 ≤ R.locals) (hc : k ≤ R.cells) (hs : n ≤ R.slots)
    (K : ∀ v, Sx g v → Go l Z mn code maxL ret R n0 Q h k n q Ls (.double v :: rest)) : Go l Z mn code maxL ret R n0 Q h k n pc Ls (.double y :: .double x :: rest) := by
  subst hq hW
  intro p e s m args below meth c T locs k' n' C X hk hn N eT
  obtain ⟨T', X', eT', f⟩ := natS X C.1 C.2.1 (own := mn.cls) C.2.2.2.2.1 w1 w2 w3 w4 (by decide) eT (W := (rest.map fun v => v.category).sum) (F := fun a' => a' = #[.double x, .double y] ∧ NoNaN64 x ∧ NoNaN64 y) (fun hcd => Abs.maxD_pays x y hcd hR1 hR2) (g := mkF m pc Ls (.double y :: .double x :: rest)) rfl (by rw [C.2.2.2.1]; exact hsz) (argsL := [.double x, .double y]) (rest := rest) (lenOf pMax rfl) rfl (by simp [mkF, JFrame.monitorRoom]) (hb C.2.2.1 hd) (Nat.le_trans hk hc) (Nat.le_trans hn hs) ⟨rfl, sx_nn hx, sx_nn hy⟩ rfl
  exact (K _ (sx_max hx hy hg) p e s m args below meth c T' locs k' n' C X' hk hn N eT').step f
end Dbl
end Jvm.OwnKit
namespace Jvm.Pilot.@@N@@
open Jvm Jvm.ClassFile Sem Op Lib Jvm.Free Jvm.Stand Jvm.LawKit Jvm.RoadKit Bundle Jvm.OwnKit Jvm.Pilot.@@N@@.Jvm.D
def Hw (a0 : Array Value) (Z : State) : Prop := ∀ d ∈ tables_1, d.before a0 Z = true
theorem w0 {a0 : Array Value} {Z : State} (hw : Hw a0 Z) : ((Jvm.Cond.constant "com/example/nona/nona/solver/ApproximateChainMovePinLaw" (7 : Nat) (2147483647 : Int32)) : Jvm.Cond).before a0 Z = true := hw _ (List.mem_of_getElem? (i := 0) rfl)
theorem w1 {a0 : Array Value} {Z : State} (hw : Hw a0 Z) : ((Jvm.Cond.constantDouble "com/example/nona/nona/solver/ApproximateChainMovePinLaw" (8 : Nat) (4625196817309499392 : UInt64)) : Jvm.Cond).before a0 Z = true := hw _ (List.mem_of_getElem? (i := 1) rfl)
theorem w2 {a0 : Array Value} {Z : State} (hw : Hw a0 Z) : ((Jvm.Cond.arrayClass Jvm.ClassFile.FieldType.double) : Jvm.Cond).before a0 Z = true := hw _ (List.mem_of_getElem? (i := 2) rfl)
theorem w3 {a0 : Array Value} {Z : State} (hw : Hw a0 Z) : ((Jvm.Cond.classLink "com/example/nona/nona/solver/ApproximateChainMovePinLaw" (10 : Nat) "com/example/nona/nona/solver/ApproximateChain") : Jvm.Cond).before a0 Z = true := hw _ (List.mem_of_getElem? (i := 3) rfl)
theorem w4 {a0 : Array Value} {Z : State} (hw : Hw a0 Z) : ((Jvm.Cond.instantiable "com/example/nona/nona/solver/ApproximateChain" (17 : Nat)) : Jvm.Cond).before a0 Z = true := hw _ (List.mem_of_getElem? (i := 4) rfl)
theorem w5 {a0 : Array Value} {Z : State} (hw : Hw a0 Z) : ((Jvm.Cond.initialized "com/example/nona/nona/solver/ApproximateChain") : Jvm.Cond).before a0 Z = true := hw _ (List.mem_of_getElem? (i := 5) rfl)
theorem w6 {a0 : Array Value} {Z : State} (hw : Hw a0 Z) : ((Jvm.Cond.methodLink "com/example/nona/nona/solver/ApproximateChainMovePinLaw" (12 : Nat) ({ cls := "com/example/nona/nona/solver/ApproximateChain", name := "<init>", desc := "(II)V" } : Jvm.MethodName)) : Jvm.Cond).before a0 Z = true := hw _ (List.mem_of_getElem? (i := 6) rfl)
theorem w7 {a0 : Array Value} {Z : State} (hw : Hw a0 Z) : ((Jvm.Cond.instanceMethod ({ cls := "com/example/nona/nona/solver/ApproximateChain", name := "<init>", desc := "(II)V" } : Jvm.MethodName)) : Jvm.Cond).before a0 Z = true := hw _ (List.mem_of_getElem? (i := 7) rfl)
theorem w8 {a0 : Array Value} {Z : State} (hw : Hw a0 Z) : ((Jvm.Cond.code ({ cls := "com/example/nona/nona/solver/ApproximateChain", name := "<init>", desc := "(II)V" } : Jvm.MethodName) prog_136_method_1_code (3 : Nat) (Option.none : Option Jvm.ClassFile.FieldType)) : Jvm.Cond).before a0 Z = true := hw _ (List.mem_of_getElem? (i := 8) rfl)
theorem w9 {a0 : Array Value} {Z : State} (hw : Hw a0 Z) : ((Jvm.Cond.methodLink "com/example/nona/nona/solver/ApproximateChain" (1 : Nat) ({ cls := "java/lang/Object", name := "<init>", desc := "()V" } : Jvm.MethodName)) : Jvm.Cond).before a0 Z = true := hw _ (List.mem_of_getElem? (i := 9) rfl)
theorem w10 {a0 : Array Value} {Z : State} (hw : Hw a0 Z) : ((Jvm.Cond.instanceMethod ({ cls := "java/lang/Object", name := "<init>", desc := "()V" } : Jvm.MethodName)) : Jvm.Cond).before a0 Z = true := hw _ (List.mem_of_getElem? (i := 10) rfl)
theorem w11 {a0 : Array Value} {Z : State} (hw : Hw a0 Z) : ((Jvm.Cond.code ({ cls := "java/lang/Object", name := "<init>", desc := "()V" } : Jvm.MethodName) object_method_1_code (1 : Nat) (Option.none : Option Jvm.ClassFile.FieldType)) : Jvm.Cond).before a0 Z = true := hw _ (List.mem_of_getElem? (i := 11) rfl)
theorem w12 {a0 : Array Value} {Z : State} (hw : Hw a0 Z) : ((Jvm.Cond.fieldLink "com/example/nona/nona/solver/ApproximateChain" (7 : Nat) "com/example/nona/nona/solver/ApproximateChain" "open" "I") : Jvm.Cond).before a0 Z = true := hw _ (List.mem_of_getElem? (i := 12) rfl)
theorem w13 {a0 : Array Value} {Z : State} (hw : Hw a0 Z) : ((Jvm.Cond.lays "com/example/nona/nona/solver/ApproximateChain" "com/example/nona/nona/solver/ApproximateChain" "open" "I") : Jvm.Cond).before a0 Z = true := hw _ (List.mem_of_getElem? (i := 13) rfl)
theorem w14 {a0 : Array Value} {Z : State} (hw : Hw a0 Z) : ((Jvm.Cond.fieldLink "com/example/nona/nona/solver/ApproximateChain" (13 : Nat) "com/example/nona/nona/solver/ApproximateChain" "size" "I") : Jvm.Cond).before a0 Z = true := hw _ (List.mem_of_getElem? (i := 14) rfl)
theorem w15 {a0 : Array Value} {Z : State} (hw : Hw a0 Z) : ((Jvm.Cond.laysFinal "com/example/nona/nona/solver/ApproximateChain" "com/example/nona/nona/solver/ApproximateChain" "size" "I") : Jvm.Cond).before a0 Z = true := hw _ (List.mem_of_getElem? (i := 15) rfl)
theorem w16 {a0 : Array Value} {Z : State} (hw : Hw a0 Z) : ((Jvm.Cond.arrayClass Jvm.ClassFile.FieldType.int) : Jvm.Cond).before a0 Z = true := hw _ (List.mem_of_getElem? (i := 16) rfl)
theorem w17 {a0 : Array Value} {Z : State} (hw : Hw a0 Z) : ((Jvm.Cond.fieldLink "com/example/nona/nona/solver/ApproximateChain" (16 : Nat) "com/example/nona/nona/solver/ApproximateChain" "starts" "[I") : Jvm.Cond).before a0 Z = true := hw _ (List.mem_of_getElem? (i := 17) rfl)
theorem w18 {a0 : Array Value} {Z : State} (hw : Hw a0 Z) : ((Jvm.Cond.laysFinal "com/example/nona/nona/solver/ApproximateChain" "com/example/nona/nona/solver/ApproximateChain" "starts" "[I") : Jvm.Cond).before a0 Z = true := hw _ (List.mem_of_getElem? (i := 18) rfl)
theorem w19 {a0 : Array Value} {Z : State} (hw : Hw a0 Z) : ((Jvm.Cond.fieldLink "com/example/nona/nona/solver/ApproximateChain" (20 : Nat) "com/example/nona/nona/solver/ApproximateChain" "laters" "[I") : Jvm.Cond).before a0 Z = true := hw _ (List.mem_of_getElem? (i := 19) rfl)
theorem w20 {a0 : Array Value} {Z : State} (hw : Hw a0 Z) : ((Jvm.Cond.laysFinal "com/example/nona/nona/solver/ApproximateChain" "com/example/nona/nona/solver/ApproximateChain" "laters" "[I") : Jvm.Cond).before a0 Z = true := hw _ (List.mem_of_getElem? (i := 20) rfl)
theorem w21 {a0 : Array Value} {Z : State} (hw : Hw a0 Z) : ((Jvm.Cond.fieldLink "com/example/nona/nona/solver/ApproximateChain" (23 : Nat) "com/example/nona/nona/solver/ApproximateChain" "targets" "[I") : Jvm.Cond).before a0 Z = true := hw _ (List.mem_of_getElem? (i := 21) rfl)
theorem w22 {a0 : Array Value} {Z : State} (hw : Hw a0 Z) : ((Jvm.Cond.laysFinal "com/example/nona/nona/solver/ApproximateChain" "com/example/nona/nona/solver/ApproximateChain" "targets" "[I") : Jvm.Cond).before a0 Z = true := hw _ (List.mem_of_getElem? (i := 22) rfl)
theorem w23 {a0 : Array Value} {Z : State} (hw : Hw a0 Z) : ((Jvm.Cond.fieldLink "com/example/nona/nona/solver/ApproximateChain" (26 : Nat) "com/example/nona/nona/solver/ApproximateChain" "probabilities" "[D") : Jvm.Cond).before a0 Z = true := hw _ (List.mem_of_getElem? (i := 23) rfl)
theorem w24 {a0 : Array Value} {Z : State} (hw : Hw a0 Z) : ((Jvm.Cond.laysFinal "com/example/nona/nona/solver/ApproximateChain" "com/example/nona/nona/solver/ApproximateChain" "probabilities" "[D") : Jvm.Cond).before a0 Z = true := hw _ (List.mem_of_getElem? (i := 24) rfl)
theorem w25 {a0 : Array Value} {Z : State} (hw : Hw a0 Z) : ((Jvm.Cond.fieldLink "com/example/nona/nona/solver/ApproximateChain" (30 : Nat) "com/example/nona/nona/solver/ApproximateChain" "gains" "[D") : Jvm.Cond).before a0 Z = true := hw _ (List.mem_of_getElem? (i := 25) rfl)
theorem w26 {a0 : Array Value} {Z : State} (hw : Hw a0 Z) : ((Jvm.Cond.laysFinal "com/example/nona/nona/solver/ApproximateChain" "com/example/nona/nona/solver/ApproximateChain" "gains" "[D") : Jvm.Cond).before a0 Z = true := hw _ (List.mem_of_getElem? (i := 26) rfl)
theorem w27 {a0 : Array Value} {Z : State} (hw : Hw a0 Z) : ((Jvm.Cond.fieldLink "com/example/nona/nona/solver/ApproximateChain" (33 : Nat) "com/example/nona/nona/solver/ApproximateChain" "residual" "[D") : Jvm.Cond).before a0 Z = true := hw _ (List.mem_of_getElem? (i := 27) rfl)
theorem w28 {a0 : Array Value} {Z : State} (hw : Hw a0 Z) : ((Jvm.Cond.laysFinal "com/example/nona/nona/solver/ApproximateChain" "com/example/nona/nona/solver/ApproximateChain" "residual" "[D") : Jvm.Cond).before a0 Z = true := hw _ (List.mem_of_getElem? (i := 28) rfl)
theorem w29 {a0 : Array Value} {Z : State} (hw : Hw a0 Z) : ((Jvm.Cond.fieldLink "com/example/nona/nona/solver/ApproximateChain" (36 : Nat) "com/example/nona/nona/solver/ApproximateChain" "shadow" "[D") : Jvm.Cond).before a0 Z = true := hw _ (List.mem_of_getElem? (i := 29) rfl)
theorem w30 {a0 : Array Value} {Z : State} (hw : Hw a0 Z) : ((Jvm.Cond.laysFinal "com/example/nona/nona/solver/ApproximateChain" "com/example/nona/nona/solver/ApproximateChain" "shadow" "[D") : Jvm.Cond).before a0 Z = true := hw _ (List.mem_of_getElem? (i := 30) rfl)
theorem w31 {a0 : Array Value} {Z : State} (hw : Hw a0 Z) : ((Jvm.Cond.fieldLink "com/example/nona/nona/solver/ApproximateChain" (39 : Nat) "com/example/nona/nona/solver/ApproximateChain" "direction" "[D") : Jvm.Cond).before a0 Z = true := hw _ (List.mem_of_getElem? (i := 31) rfl)
theorem w32 {a0 : Array Value} {Z : State} (hw : Hw a0 Z) : ((Jvm.Cond.laysFinal "com/example/nona/nona/solver/ApproximateChain" "com/example/nona/nona/solver/ApproximateChain" "direction" "[D") : Jvm.Cond).before a0 Z = true := hw _ (List.mem_of_getElem? (i := 32) rfl)
theorem w33 {a0 : Array Value} {Z : State} (hw : Hw a0 Z) : ((Jvm.Cond.fieldLink "com/example/nona/nona/solver/ApproximateChain" (42 : Nat) "com/example/nona/nona/solver/ApproximateChain" "image" "[D") : Jvm.Cond).before a0 Z = true := hw _ (List.mem_of_getElem? (i := 33) rfl)
theorem w34 {a0 : Array Value} {Z : State} (hw : Hw a0 Z) : ((Jvm.Cond.laysFinal "com/example/nona/nona/solver/ApproximateChain" "com/example/nona/nona/solver/ApproximateChain" "image" "[D") : Jvm.Cond).before a0 Z = true := hw _ (List.mem_of_getElem? (i := 34) rfl)
theorem w35 {a0 : Array Value} {Z : State} (hw : Hw a0 Z) : ((Jvm.Cond.fieldLink "com/example/nona/nona/solver/ApproximateChain" (45 : Nat) "com/example/nona/nona/solver/ApproximateChain" "preconditioned" "[D") : Jvm.Cond).before a0 Z = true := hw _ (List.mem_of_getElem? (i := 35) rfl)
theorem w36 {a0 : Array Value} {Z : State} (hw : Hw a0 Z) : ((Jvm.Cond.laysFinal "com/example/nona/nona/solver/ApproximateChain" "com/example/nona/nona/solver/ApproximateChain" "preconditioned" "[D") : Jvm.Cond).before a0 Z = true := hw _ (List.mem_of_getElem? (i := 36) rfl)
theorem w37 {a0 : Array Value} {Z : State} (hw : Hw a0 Z) : ((Jvm.Cond.fieldLink "com/example/nona/nona/solver/ApproximateChain" (48 : Nat) "com/example/nona/nona/solver/ApproximateChain" "correction" "[D") : Jvm.Cond).before a0 Z = true := hw _ (List.mem_of_getElem? (i := 37) rfl)
theorem w38 {a0 : Array Value} {Z : State} (hw : Hw a0 Z) : ((Jvm.Cond.laysFinal "com/example/nona/nona/solver/ApproximateChain" "com/example/nona/nona/solver/ApproximateChain" "correction" "[D") : Jvm.Cond).before a0 Z = true := hw _ (List.mem_of_getElem? (i := 38) rfl)
theorem w39 {a0 : Array Value} {Z : State} (hw : Hw a0 Z) : ((Jvm.Cond.fieldLink "com/example/nona/nona/solver/ApproximateChain" (51 : Nat) "com/example/nona/nona/solver/ApproximateChain" "product" "[D") : Jvm.Cond).before a0 Z = true := hw _ (List.mem_of_getElem? (i := 39) rfl)
theorem w40 {a0 : Array Value} {Z : State} (hw : Hw a0 Z) : ((Jvm.Cond.laysFinal "com/example/nona/nona/solver/ApproximateChain" "com/example/nona/nona/solver/ApproximateChain" "product" "[D") : Jvm.Cond).before a0 Z = true := hw _ (List.mem_of_getElem? (i := 40) rfl)
theorem w41 {a0 : Array Value} {Z : State} (hw : Hw a0 Z) : ((Jvm.Cond.methodLink "com/example/nona/nona/solver/ApproximateChainMovePinLaw" (15 : Nat) ({ cls := "com/example/nona/nona/solver/ApproximateChain", name := "state", desc := "(I)V" } : Jvm.MethodName)) : Jvm.Cond).before a0 Z = true := hw _ (List.mem_of_getElem? (i := 41) rfl)
theorem w42 {a0 : Array Value} {Z : State} (hw : Hw a0 Z) : ((Jvm.Cond.declares ({ cls := "com/example/nona/nona/solver/ApproximateChain", name := "state", desc := "(I)V" } : Jvm.MethodName)) : Jvm.Cond).before a0 Z = true := hw _ (List.mem_of_getElem? (i := 42) rfl)
theorem w43 {a0 : Array Value} {Z : State} (hw : Hw a0 Z) : ((Jvm.Cond.instanceMethod ({ cls := "com/example/nona/nona/solver/ApproximateChain", name := "state", desc := "(I)V" } : Jvm.MethodName)) : Jvm.Cond).before a0 Z = true := hw _ (List.mem_of_getElem? (i := 43) rfl)
theorem w44 {a0 : Array Value} {Z : State} (hw : Hw a0 Z) : ((Jvm.Cond.selects "com/example/nona/nona/solver/ApproximateChain" ({ cls := "com/example/nona/nona/solver/ApproximateChain", name := "state", desc := "(I)V" } : Jvm.MethodName) ({ cls := "com/example/nona/nona/solver/ApproximateChain", name := "state", desc := "(I)V" } : Jvm.MethodName)) : Jvm.Cond).before a0 Z = true := hw _ (List.mem_of_getElem? (i := 44) rfl)
theorem w45 {a0 : Array Value} {Z : State} (hw : Hw a0 Z) : ((Jvm.Cond.code ({ cls := "com/example/nona/nona/solver/ApproximateChain", name := "state", desc := "(I)V" } : Jvm.MethodName) prog_136_method_2_code (2 : Nat) (Option.none : Option Jvm.ClassFile.FieldType)) : Jvm.Cond).before a0 Z = true := hw _ (List.mem_of_getElem? (i := 45) rfl)
theorem w46 {a0 : Array Value} {Z : State} (hw : Hw a0 Z) : ((Jvm.Cond.methodLink "com/example/nona/nona/solver/ApproximateChain" (54 : Nat) ({ cls := "com/example/nona/nona/solver/ApproximateChain", name := "close", desc := "()V" } : Jvm.MethodName)) : Jvm.Cond).before a0 Z = true := hw _ (List.mem_of_getElem? (i := 46) rfl)
theorem w47 {a0 : Array Value} {Z : State} (hw : Hw a0 Z) : ((Jvm.Cond.instanceMethod ({ cls := "com/example/nona/nona/solver/ApproximateChain", name := "close", desc := "()V" } : Jvm.MethodName)) : Jvm.Cond).before a0 Z = true := hw _ (List.mem_of_getElem? (i := 47) rfl)
theorem w48 {a0 : Array Value} {Z : State} (hw : Hw a0 Z) : ((Jvm.Cond.privateMethod ({ cls := "com/example/nona/nona/solver/ApproximateChain", name := "close", desc := "()V" } : Jvm.MethodName)) : Jvm.Cond).before a0 Z = true := hw _ (List.mem_of_getElem? (i := 48) rfl)
theorem w49 {a0 : Array Value} {Z : State} (hw : Hw a0 Z) : ((Jvm.Cond.code ({ cls := "com/example/nona/nona/solver/ApproximateChain", name := "close", desc := "()V" } : Jvm.MethodName) prog_136_method_5_code (7 : Nat) (Option.none : Option Jvm.ClassFile.FieldType)) : Jvm.Cond).before a0 Z = true := hw _ (List.mem_of_getElem? (i := 49) rfl)
theorem w50 {a0 : Array Value} {Z : State} (hw : Hw a0 Z) : ((Jvm.Cond.fieldLink "com/example/nona/nona/solver/ApproximateChain" (57 : Nat) "com/example/nona/nona/solver/ApproximateChain" "count" "I") : Jvm.Cond).before a0 Z = true := hw _ (List.mem_of_getElem? (i := 50) rfl)
theorem w51 {a0 : Array Value} {Z : State} (hw : Hw a0 Z) : ((Jvm.Cond.lays "com/example/nona/nona/solver/ApproximateChain" "com/example/nona/nona/solver/ApproximateChain" "count" "I") : Jvm.Cond).before a0 Z = true := hw _ (List.mem_of_getElem? (i := 51) rfl)
theorem w52 {a0 : Array Value} {Z : State} (hw : Hw a0 Z) : ((Jvm.Cond.methodLink "com/example/nona/nona/solver/ApproximateChainMovePinLaw" (23 : Nat) ({ cls := "com/example/nona/nona/solver/ApproximateChain", name := "gain", desc := "(D)V" } : Jvm.MethodName)) : Jvm.Cond).before a0 Z = true := hw _ (List.mem_of_getElem? (i := 52) rfl)
theorem w53 {a0 : Array Value} {Z : State} (hw : Hw a0 Z) : ((Jvm.Cond.declares ({ cls := "com/example/nona/nona/solver/ApproximateChain", name := "gain", desc := "(D)V" } : Jvm.MethodName)) : Jvm.Cond).before a0 Z = true := hw _ (List.mem_of_getElem? (i := 53) rfl)
theorem w54 {a0 : Array Value} {Z : State} (hw : Hw a0 Z) : ((Jvm.Cond.instanceMethod ({ cls := "com/example/nona/nona/solver/ApproximateChain", name := "gain", desc := "(D)V" } : Jvm.MethodName)) : Jvm.Cond).before a0 Z = true := hw _ (List.mem_of_getElem? (i := 54) rfl)
theorem w55 {a0 : Array Value} {Z : State} (hw : Hw a0 Z) : ((Jvm.Cond.selects "com/example/nona/nona/solver/ApproximateChain" ({ cls := "com/example/nona/nona/solver/ApproximateChain", name := "gain", desc := "(D)V" } : Jvm.MethodName) ({ cls := "com/example/nona/nona/solver/ApproximateChain", name := "gain", desc := "(D)V" } : Jvm.MethodName)) : Jvm.Cond).before a0 Z = true := hw _ (List.mem_of_getElem? (i := 55) rfl)
theorem w56 {a0 : Array Value} {Z : State} (hw : Hw a0 Z) : ((Jvm.Cond.code ({ cls := "com/example/nona/nona/solver/ApproximateChain", name := "gain", desc := "(D)V" } : Jvm.MethodName) prog_136_method_4_code (3 : Nat) (Option.none : Option Jvm.ClassFile.FieldType)) : Jvm.Cond).before a0 Z = true := hw _ (List.mem_of_getElem? (i := 56) rfl)
theorem w57 {a0 : Array Value} {Z : State} (hw : Hw a0 Z) : ((Jvm.Cond.methodLink "com/example/nona/nona/solver/ApproximateChainMovePinLaw" (27 : Nat) ({ cls := "com/example/nona/nona/solver/ApproximateChain", name := "solve", desc := "([DDI)Z" } : Jvm.MethodName)) : Jvm.Cond).before a0 Z = true := hw _ (List.mem_of_getElem? (i := 57) rfl)
theorem w58 {a0 : Array Value} {Z : State} (hw : Hw a0 Z) : ((Jvm.Cond.declares ({ cls := "com/example/nona/nona/solver/ApproximateChain", name := "solve", desc := "([DDI)Z" } : Jvm.MethodName)) : Jvm.Cond).before a0 Z = true := hw _ (List.mem_of_getElem? (i := 58) rfl)
theorem w59 {a0 : Array Value} {Z : State} (hw : Hw a0 Z) : ((Jvm.Cond.instanceMethod ({ cls := "com/example/nona/nona/solver/ApproximateChain", name := "solve", desc := "([DDI)Z" } : Jvm.MethodName)) : Jvm.Cond).before a0 Z = true := hw _ (List.mem_of_getElem? (i := 59) rfl)
theorem w60 {a0 : Array Value} {Z : State} (hw : Hw a0 Z) : ((Jvm.Cond.selects "com/example/nona/nona/solver/ApproximateChain" ({ cls := "com/example/nona/nona/solver/ApproximateChain", name := "solve", desc := "([DDI)Z" } : Jvm.MethodName) ({ cls := "com/example/nona/nona/solver/ApproximateChain", name := "solve", desc := "([DDI)Z" } : Jvm.MethodName)) : Jvm.Cond).before a0 Z = true := hw _ (List.mem_of_getElem? (i := 60) rfl)
theorem w61 {a0 : Array Value} {Z : State} (hw : Hw a0 Z) : ((Jvm.Cond.code ({ cls := "com/example/nona/nona/solver/ApproximateChain", name := "solve", desc := "([DDI)Z" } : Jvm.MethodName) prog_136_method_6_code (5 : Nat) (Option.some Jvm.ClassFile.FieldType.boolean)) : Jvm.Cond).before a0 Z = true := hw _ (List.mem_of_getElem? (i := 61) rfl)
theorem w62 {a0 : Array Value} {Z : State} (hw : Hw a0 Z) : ((Jvm.Cond.methodLink "com/example/nona/nona/solver/ApproximateChain" (60 : Nat) ({ cls := "com/example/nona/nona/solver/ApproximateChain", name := "solve", desc := "([D[DDI)Z" } : Jvm.MethodName)) : Jvm.Cond).before a0 Z = true := hw _ (List.mem_of_getElem? (i := 62) rfl)
theorem w63 {a0 : Array Value} {Z : State} (hw : Hw a0 Z) : ((Jvm.Cond.instanceMethod ({ cls := "com/example/nona/nona/solver/ApproximateChain", name := "solve", desc := "([D[DDI)Z" } : Jvm.MethodName)) : Jvm.Cond).before a0 Z = true := hw _ (List.mem_of_getElem? (i := 63) rfl)
theorem w64 {a0 : Array Value} {Z : State} (hw : Hw a0 Z) : ((Jvm.Cond.privateMethod ({ cls := "com/example/nona/nona/solver/ApproximateChain", name := "solve", desc := "([D[DDI)Z" } : Jvm.MethodName)) : Jvm.Cond).before a0 Z = true := hw _ (List.mem_of_getElem? (i := 64) rfl)
theorem w65 {a0 : Array Value} {Z : State} (hw : Hw a0 Z) : ((Jvm.Cond.code ({ cls := "com/example/nona/nona/solver/ApproximateChain", name := "solve", desc := "([D[DDI)Z" } : Jvm.MethodName) prog_136_method_8_code (27 : Nat) (Option.some Jvm.ClassFile.FieldType.boolean)) : Jvm.Cond).before a0 Z = true := hw _ (List.mem_of_getElem? (i := 65) rfl)
theorem w66 {a0 : Array Value} {Z : State} (hw : Hw a0 Z) : ((Jvm.Cond.methodLink "com/example/nona/nona/solver/ApproximateChain" (73 : Nat) ({ cls := "java/lang/Math", name := "abs", desc := "(D)D" } : Jvm.MethodName)) : Jvm.Cond).before a0 Z = true := hw _ (List.mem_of_getElem? (i := 66) rfl)
theorem w67 {a0 : Array Value} {Z : State} (hw : Hw a0 Z) : ((Jvm.Cond.static ({ cls := "java/lang/Math", name := "abs", desc := "(D)D" } : Jvm.MethodName)) : Jvm.Cond).before a0 Z = true := hw _ (List.mem_of_getElem? (i := 67) rfl)
theorem w68 {a0 : Array Value} {Z : State} (hw : Hw a0 Z) : ((Jvm.Cond.initialized "java/lang/Math") : Jvm.Cond).before a0 Z = true := hw _ (List.mem_of_getElem? (i := 68) rfl)
theorem w69 {a0 : Array Value} {Z : State} (hw : Hw a0 Z) : ((Jvm.Cond.code ({ cls := "java/lang/Math", name := "abs", desc := "(D)D" } : Jvm.MethodName) jdk_29_method_64_code (2 : Nat) (Option.some Jvm.ClassFile.FieldType.double)) : Jvm.Cond).before a0 Z = true := hw _ (List.mem_of_getElem? (i := 69) rfl)
theorem w70 {a0 : Array Value} {Z : State} (hw : Hw a0 Z) : ((Jvm.Cond.methodLink "com/example/nona/nona/solver/ApproximateChain" (79 : Nat) ({ cls := "java/lang/Math", name := "max", desc := "(DD)D" } : Jvm.MethodName)) : Jvm.Cond).before a0 Z = true := hw _ (List.mem_of_getElem? (i := 70) rfl)
theorem w71 {a0 : Array Value} {Z : State} (hw : Hw a0 Z) : ((Jvm.Cond.static ({ cls := "java/lang/Math", name := "max", desc := "(DD)D" } : Jvm.MethodName)) : Jvm.Cond).before a0 Z = true := hw _ (List.mem_of_getElem? (i := 71) rfl)
theorem w72 {a0 : Array Value} {Z : State} (hw : Hw a0 Z) : ((Jvm.Cond.code ({ cls := "java/lang/Math", name := "max", desc := "(DD)D" } : Jvm.MethodName) jdk_29_method_68_code (4 : Nat) (Option.some Jvm.ClassFile.FieldType.double)) : Jvm.Cond).before a0 Z = true := hw _ (List.mem_of_getElem? (i := 72) rfl)
theorem w73 {a0 : Array Value} {Z : State} (hw : Hw a0 Z) : ((Jvm.Cond.fieldLink "com/example/nona/nona/solver/ApproximateChain" (83 : Nat) "com/example/nona/nona/solver/ApproximateChain" "iterations" "I") : Jvm.Cond).before a0 Z = true := hw _ (List.mem_of_getElem? (i := 73) rfl)
theorem w74 {a0 : Array Value} {Z : State} (hw : Hw a0 Z) : ((Jvm.Cond.lays "com/example/nona/nona/solver/ApproximateChain" "com/example/nona/nona/solver/ApproximateChain" "iterations" "I") : Jvm.Cond).before a0 Z = true := hw _ (List.mem_of_getElem? (i := 74) rfl)
theorem w75 {a0 : Array Value} {Z : State} (hw : Hw a0 Z) : ((Jvm.Cond.constantDouble "com/example/nona/nona/solver/ApproximateChainMovePinLaw" (31 : Nat) (4584664420663164928 : UInt64)) : Jvm.Cond).before a0 Z = true := hw _ (List.mem_of_getElem? (i := 75) rfl)
theorem w76 {a0 : Array Value} {Z : State} (hw : Hw a0 Z) : ((Jvm.Cond.methodLink "com/example/nona/nona/solver/ApproximateChainMovePinLaw" (19 : Nat) ({ cls := "com/example/nona/nona/solver/ApproximateChain", name := "move", desc := "(ID)V" } : Jvm.MethodName)) : Jvm.Cond).before a0 Z = true := hw _ (List.mem_of_getElem? (i := 76) rfl)
theorem w77 {a0 : Array Value} {Z : State} (hw : Hw a0 Z) : ((Jvm.Cond.declares ({ cls := "com/example/nona/nona/solver/ApproximateChain", name := "move", desc := "(ID)V" } : Jvm.MethodName)) : Jvm.Cond).before a0 Z = true := hw _ (List.mem_of_getElem? (i := 77) rfl)
theorem w78 {a0 : Array Value} {Z : State} (hw : Hw a0 Z) : ((Jvm.Cond.instanceMethod ({ cls := "com/example/nona/nona/solver/ApproximateChain", name := "move", desc := "(ID)V" } : Jvm.MethodName)) : Jvm.Cond).before a0 Z = true := hw _ (List.mem_of_getElem? (i := 78) rfl)
theorem w79 {a0 : Array Value} {Z : State} (hw : Hw a0 Z) : ((Jvm.Cond.selects "com/example/nona/nona/solver/ApproximateChain" ({ cls := "com/example/nona/nona/solver/ApproximateChain", name := "move", desc := "(ID)V" } : Jvm.MethodName) ({ cls := "com/example/nona/nona/solver/ApproximateChain", name := "move", desc := "(ID)V" } : Jvm.MethodName)) : Jvm.Cond).before a0 Z = true := hw _ (List.mem_of_getElem? (i := 79) rfl)
theorem w80 {a0 : Array Value} {Z : State} (hw : Hw a0 Z) : ((Jvm.Cond.code ({ cls := "com/example/nona/nona/solver/ApproximateChain", name := "move", desc := "(ID)V" } : Jvm.MethodName) prog_136_method_3_code (4 : Nat) (Option.none : Option Jvm.ClassFile.FieldType)) : Jvm.Cond).before a0 Z = true := hw _ (List.mem_of_getElem? (i := 80) rfl)
theorem pn0 : plainFor x = true := plainFor_of_name (show plainName "com/example/nona/nona/solver/ApproximateChainMovePinLaw" = true by first | (simp [plainName, overriddenIn]; done) | decide +kernel)
theorem pd0 : parseMethodDescriptor "(IIIII)Z" = some ⟨[.int, .int, .int, .int, .int], some .boolean⟩ := by decide +kernel
theorem d1_0 : decode prog_136_method_1_code 0 = .ok (.aload_n 0, 1) := by decide +kernel
theorem d1_1 : decode prog_136_method_1_code 1 = .ok (.invokespecial 1, 3) := by decide +kernel
theorem d1_4 : decode prog_136_method_1_code 4 = .ok (.aload_n 0, 1) := by decide +kernel
theorem d1_5 : decode prog_136_method_1_code 5 = .ok (.iconst (-1), 1) := by decide +kernel
theorem d1_6 : decode prog_136_method_1_code 6 = .ok (.putfield 7, 3) := by decide +kernel
theorem d1_9 : decode prog_136_method_1_code 9 = .ok (.aload_n 0, 1) := by decide +kernel
theorem d1_10 : decode prog_136_method_1_code 10 = .ok (.iload_n 1, 1) := by decide +kernel
theorem d1_11 : decode prog_136_method_1_code 11 = .ok (.putfield 13, 3) := by decide +kernel
theorem d1_14 : decode prog_136_method_1_code 14 = .ok (.aload_n 0, 1) := by decide +kernel
theorem d1_15 : decode prog_136_method_1_code 15 = .ok (.iload_n 1, 1) := by decide +kernel
theorem d1_16 : decode prog_136_method_1_code 16 = .ok (.iconst 1, 1) := by decide +kernel
theorem d1_17 : decode prog_136_method_1_code 17 = .ok (.iadd, 1) := by decide +kernel
theorem d1_18 : decode prog_136_method_1_code 18 = .ok (.newarray .int, 2) := by decide +kernel
theorem d1_20 : decode prog_136_method_1_code 20 = .ok (.putfield 16, 3) := by decide +kernel
theorem d1_23 : decode prog_136_method_1_code 23 = .ok (.aload_n 0, 1) := by decide +kernel
theorem d1_24 : decode prog_136_method_1_code 24 = .ok (.iload_n 1, 1) := by decide +kernel
theorem d1_25 : decode prog_136_method_1_code 25 = .ok (.newarray .int, 2) := by decide +kernel
theorem d1_27 : decode prog_136_method_1_code 27 = .ok (.putfield 20, 3) := by decide +kernel
theorem d1_30 : decode prog_136_method_1_code 30 = .ok (.aload_n 0, 1) := by decide +kernel
theorem d1_31 : decode prog_136_method_1_code 31 = .ok (.iload_n 2, 1) := by decide +kernel
theorem d1_32 : decode prog_136_method_1_code 32 = .ok (.newarray .int, 2) := by decide +kernel
theorem d1_34 : decode prog_136_method_1_code 34 = .ok (.putfield 23, 3) := by decide +kernel
theorem d1_37 : decode prog_136_method_1_code 37 = .ok (.aload_n 0, 1) := by decide +kernel
theorem d1_38 : decode prog_136_method_1_code 38 = .ok (.iload_n 2, 1) := by decide +kernel
theorem d1_39 : decode prog_136_method_1_code 39 = .ok (.newarray .double, 2) := by decide +kernel
theorem d1_41 : decode prog_136_method_1_code 41 = .ok (.putfield 26, 3) := by decide +kernel
theorem d1_44 : decode prog_136_method_1_code 44 = .ok (.aload_n 0, 1) := by decide +kernel
theorem d1_45 : decode prog_136_method_1_code 45 = .ok (.iload_n 1, 1) := by decide +kernel
theorem d1_46 : decode prog_136_method_1_code 46 = .ok (.newarray .double, 2) := by decide +kernel
theorem d1_48 : decode prog_136_method_1_code 48 = .ok (.putfield 30, 3) := by decide +kernel
theorem d1_51 : decode prog_136_method_1_code 51 = .ok (.aload_n 0, 1) := by decide +kernel
theorem d1_52 : decode prog_136_method_1_code 52 = .ok (.iload_n 1, 1) := by decide +kernel
theorem d1_53 : decode prog_136_method_1_code 53 = .ok (.newarray .double, 2) := by decide +kernel
theorem d1_55 : decode prog_136_method_1_code 55 = .ok (.putfield 33, 3) := by decide +kernel
theorem d1_58 : decode prog_136_method_1_code 58 = .ok (.aload_n 0, 1) := by decide +kernel
theorem d1_59 : decode prog_136_method_1_code 59 = .ok (.iload_n 1, 1) := by decide +kernel
theorem d1_60 : decode prog_136_method_1_code 60 = .ok (.newarray .double, 2) := by decide +kernel
theorem d1_62 : decode prog_136_method_1_code 62 = .ok (.putfield 36, 3) := by decide +kernel
theorem d1_65 : decode prog_136_method_1_code 65 = .ok (.aload_n 0, 1) := by decide +kernel
theorem d1_66 : decode prog_136_method_1_code 66 = .ok (.iload_n 1, 1) := by decide +kernel
theorem d1_67 : decode prog_136_method_1_code 67 = .ok (.newarray .double, 2) := by decide +kernel
theorem d1_69 : decode prog_136_method_1_code 69 = .ok (.putfield 39, 3) := by decide +kernel
theorem d1_72 : decode prog_136_method_1_code 72 = .ok (.aload_n 0, 1) := by decide +kernel
theorem d1_73 : decode prog_136_method_1_code 73 = .ok (.iload_n 1, 1) := by decide +kernel
theorem d1_74 : decode prog_136_method_1_code 74 = .ok (.newarray .double, 2) := by decide +kernel
theorem d1_76 : decode prog_136_method_1_code 76 = .ok (.putfield 42, 3) := by decide +kernel
theorem d1_79 : decode prog_136_method_1_code 79 = .ok (.aload_n 0, 1) := by decide +kernel
theorem d1_80 : decode prog_136_method_1_code 80 = .ok (.iload_n 1, 1) := by decide +kernel
theorem d1_81 : decode prog_136_method_1_code 81 = .ok (.newarray .double, 2) := by decide +kernel
theorem d1_83 : decode prog_136_method_1_code 83 = .ok (.putfield 45, 3) := by decide +kernel
theorem d1_86 : decode prog_136_method_1_code 86 = .ok (.aload_n 0, 1) := by decide +kernel
theorem d1_87 : decode prog_136_method_1_code 87 = .ok (.iload_n 1, 1) := by decide +kernel
theorem d1_88 : decode prog_136_method_1_code 88 = .ok (.newarray .double, 2) := by decide +kernel
theorem d1_90 : decode prog_136_method_1_code 90 = .ok (.putfield 48, 3) := by decide +kernel
theorem d1_93 : decode prog_136_method_1_code 93 = .ok (.aload_n 0, 1) := by decide +kernel
theorem d1_94 : decode prog_136_method_1_code 94 = .ok (.iload_n 1, 1) := by decide +kernel
theorem d1_95 : decode prog_136_method_1_code 95 = .ok (.newarray .double, 2) := by decide +kernel
theorem d1_97 : decode prog_136_method_1_code 97 = .ok (.putfield 51, 3) := by decide +kernel
theorem d1_100 : decode prog_136_method_1_code 100 = .ok (.return_, 1) := by decide +kernel
theorem pn1 : plainFor (⟨"com/example/nona/nona/solver/ApproximateChain", "<init>", "(II)V"⟩ : MethodName) = true := plainFor_of_name (show plainName "com/example/nona/nona/solver/ApproximateChain" = true by first | (simp [plainName, overriddenIn]; done) | decide +kernel)
theorem pd1 : parseMethodDescriptor "(II)V" = some ⟨[.int, .int], none⟩ := by decide +kernel
theorem d3_0 : decode prog_136_method_2_code 0 = .ok (.aload_n 0, 1) := by decide +kernel
theorem d3_1 : decode prog_136_method_2_code 1 = .ok (.invokevirtual 54, 3) := by decide +kernel
theorem d3_4 : decode prog_136_method_2_code 4 = .ok (.aload_n 0, 1) := by decide +kernel
theorem d3_5 : decode prog_136_method_2_code 5 = .ok (.iload_n 1, 1) := by decide +kernel
theorem d3_6 : decode prog_136_method_2_code 6 = .ok (.ifCond .ne 7, 3) := by decide +kernel
theorem d3_9 : decode prog_136_method_2_code 9 = .ok (.iconst 0, 1) := by decide +kernel
theorem d3_10 : decode prog_136_method_2_code 10 = .ok (.goto 7, 3) := by decide +kernel
theorem d3_13 : decode prog_136_method_2_code 13 = .ok (.aload_n 0, 1) := by decide +kernel
theorem d3_14 : decode prog_136_method_2_code 14 = .ok (.getfield 57, 3) := by decide +kernel
theorem d3_17 : decode prog_136_method_2_code 17 = .ok (.putfield 57, 3) := by decide +kernel
theorem d3_20 : decode prog_136_method_2_code 20 = .ok (.aload_n 0, 1) := by decide +kernel
theorem d3_21 : decode prog_136_method_2_code 21 = .ok (.iload_n 1, 1) := by decide +kernel
theorem d3_22 : decode prog_136_method_2_code 22 = .ok (.putfield 7, 3) := by decide +kernel
theorem d3_25 : decode prog_136_method_2_code 25 = .ok (.aload_n 0, 1) := by decide +kernel
theorem d3_26 : decode prog_136_method_2_code 26 = .ok (.getfield 16, 3) := by decide +kernel
theorem d3_29 : decode prog_136_method_2_code 29 = .ok (.iload_n 1, 1) := by decide +kernel
theorem d3_30 : decode prog_136_method_2_code 30 = .ok (.aload_n 0, 1) := by decide +kernel
theorem d3_31 : decode prog_136_method_2_code 31 = .ok (.getfield 57, 3) := by decide +kernel
theorem d3_34 : decode prog_136_method_2_code 34 = .ok (.iastore, 1) := by decide +kernel
theorem d3_35 : decode prog_136_method_2_code 35 = .ok (.aload_n 0, 1) := by decide +kernel
theorem d3_36 : decode prog_136_method_2_code 36 = .ok (.getfield 30, 3) := by decide +kernel
theorem d3_39 : decode prog_136_method_2_code 39 = .ok (.iload_n 1, 1) := by decide +kernel
theorem d3_40 : decode prog_136_method_2_code 40 = .ok (.dconst 0, 1) := by decide +kernel
theorem d3_41 : decode prog_136_method_2_code 41 = .ok (.dastore, 1) := by decide +kernel
theorem d3_42 : decode prog_136_method_2_code 42 = .ok (.return_, 1) := by decide +kernel
theorem pn3 : plainFor (⟨"com/example/nona/nona/solver/ApproximateChain", "state", "(I)V"⟩ : MethodName) = true := plainFor_of_name (show plainName "com/example/nona/nona/solver/ApproximateChain" = true by first | (simp [plainName, overriddenIn]; done) | decide +kernel)
theorem pd3 : parseMethodDescriptor "(I)V" = some ⟨[.int], none⟩ := by decide +kernel
theorem d4_0 : decode prog_136_method_5_code 0 = .ok (.aload_n 0, 1) := by decide +kernel
theorem d4_1 : decode prog_136_method_5_code 1 = .ok (.getfield 7, 3) := by decide +kernel
theorem d4_4 : decode prog_136_method_5_code 4 = .ok (.ifCond .lt 124, 3) := by decide +kernel
theorem d4_7 : decode prog_136_method_5_code 7 = .ok (.aload_n 0, 1) := by decide +kernel
theorem d4_8 : decode prog_136_method_5_code 8 = .ok (.getfield 7, 3) := by decide +kernel
theorem d4_11 : decode prog_136_method_5_code 11 = .ok (.istore_n 1, 1) := by decide +kernel
theorem d4_12 : decode prog_136_method_5_code 12 = .ok (.aload_n 0, 1) := by decide +kernel
theorem d4_13 : decode prog_136_method_5_code 13 = .ok (.getfield 16, 3) := by decide +kernel
theorem d4_16 : decode prog_136_method_5_code 16 = .ok (.iload_n 1, 1) := by decide +kernel
theorem d4_17 : decode prog_136_method_5_code 17 = .ok (.iaload, 1) := by decide +kernel
theorem d4_18 : decode prog_136_method_5_code 18 = .ok (.istore_n 2, 1) := by decide +kernel
theorem d4_19 : decode prog_136_method_5_code 19 = .ok (.iload_n 2, 1) := by decide +kernel
theorem d4_20 : decode prog_136_method_5_code 20 = .ok (.istore_n 3, 1) := by decide +kernel
theorem d4_21 : decode prog_136_method_5_code 21 = .ok (.iload_n 3, 1) := by decide +kernel
theorem d4_22 : decode prog_136_method_5_code 22 = .ok (.aload_n 0, 1) := by decide +kernel
theorem d4_23 : decode prog_136_method_5_code 23 = .ok (.getfield 57, 3) := by decide +kernel
theorem d4_26 : decode prog_136_method_5_code 26 = .ok (.if_icmp .ge 78, 3) := by decide +kernel
theorem d4_29 : decode prog_136_method_5_code 29 = .ok (.aload_n 0, 1) := by decide +kernel
theorem d4_30 : decode prog_136_method_5_code 30 = .ok (.getfield 23, 3) := by decide +kernel
theorem d4_33 : decode prog_136_method_5_code 33 = .ok (.iload_n 3, 1) := by decide +kernel
theorem d4_34 : decode prog_136_method_5_code 34 = .ok (.iaload, 1) := by decide +kernel
theorem d4_35 : decode prog_136_method_5_code 35 = .ok (.iload_n 1, 1) := by decide +kernel
theorem d4_36 : decode prog_136_method_5_code 36 = .ok (.if_icmp .ge 62, 3) := by decide +kernel
theorem d4_98 : decode prog_136_method_5_code 98 = .ok (.iinc 3 1, 3) := by decide +kernel
theorem d4_101 : decode prog_136_method_5_code 101 = .ok (.goto (-80), 3) := by decide +kernel
theorem d4_104 : decode prog_136_method_5_code 104 = .ok (.aload_n 0, 1) := by decide +kernel
theorem d4_105 : decode prog_136_method_5_code 105 = .ok (.getfield 20, 3) := by decide +kernel
theorem d4_108 : decode prog_136_method_5_code 108 = .ok (.iload_n 1, 1) := by decide +kernel
theorem d4_109 : decode prog_136_method_5_code 109 = .ok (.iload_n 2, 1) := by decide +kernel
theorem d4_110 : decode prog_136_method_5_code 110 = .ok (.iastore, 1) := by decide +kernel
theorem d4_111 : decode prog_136_method_5_code 111 = .ok (.aload_n 0, 1) := by decide +kernel
theorem d4_112 : decode prog_136_method_5_code 112 = .ok (.getfield 16, 3) := by decide +kernel
theorem d4_115 : decode prog_136_method_5_code 115 = .ok (.iload_n 1, 1) := by decide +kernel
theorem d4_116 : decode prog_136_method_5_code 116 = .ok (.iconst 1, 1) := by decide +kernel
theorem d4_117 : decode prog_136_method_5_code 117 = .ok (.iadd, 1) := by decide +kernel
theorem d4_118 : decode prog_136_method_5_code 118 = .ok (.aload_n 0, 1) := by decide +kernel
theorem d4_119 : decode prog_136_method_5_code 119 = .ok (.getfield 57, 3) := by decide +kernel
theorem d4_122 : decode prog_136_method_5_code 122 = .ok (.iastore, 1) := by decide +kernel
theorem d4_123 : decode prog_136_method_5_code 123 = .ok (.aload_n 0, 1) := by decide +kernel
theorem d4_124 : decode prog_136_method_5_code 124 = .ok (.iconst (-1), 1) := by decide +kernel
theorem d4_125 : decode prog_136_method_5_code 125 = .ok (.putfield 7, 3) := by decide +kernel
theorem d4_128 : decode prog_136_method_5_code 128 = .ok (.return_, 1) := by decide +kernel
theorem pn4 : plainFor (⟨"com/example/nona/nona/solver/ApproximateChain", "close", "()V"⟩ : MethodName) = true := plainFor_of_name (show plainName "com/example/nona/nona/solver/ApproximateChain" = true by first | (simp [plainName, overriddenIn]; done) | decide +kernel)
theorem pd4 : parseMethodDescriptor "()V" = some ⟨[], none⟩ := by decide +kernel
theorem d5_0 : decode prog_136_method_4_code 0 = .ok (.aload_n 0, 1) := by decide +kernel
theorem d5_1 : decode prog_136_method_4_code 1 = .ok (.getfield 30, 3) := by decide +kernel
theorem d5_4 : decode prog_136_method_4_code 4 = .ok (.aload_n 0, 1) := by decide +kernel
theorem d5_5 : decode prog_136_method_4_code 5 = .ok (.getfield 7, 3) := by decide +kernel
theorem d5_8 : decode prog_136_method_4_code 8 = .ok (.dup2, 1) := by decide +kernel
theorem d5_9 : decode prog_136_method_4_code 9 = .ok (.daload, 1) := by decide +kernel
theorem d5_10 : decode prog_136_method_4_code 10 = .ok (.dload_n 1, 1) := by decide +kernel
theorem d5_11 : decode prog_136_method_4_code 11 = .ok (.dadd, 1) := by decide +kernel
theorem d5_12 : decode prog_136_method_4_code 12 = .ok (.dastore, 1) := by decide +kernel
theorem d5_13 : decode prog_136_method_4_code 13 = .ok (.return_, 1) := by decide +kernel
theorem pn5 : plainFor (⟨"com/example/nona/nona/solver/ApproximateChain", "gain", "(D)V"⟩ : MethodName) = true := plainFor_of_name (show plainName "com/example/nona/nona/solver/ApproximateChain" = true by first | (simp [plainName, overriddenIn]; done) | decide +kernel)
theorem pd5 : parseMethodDescriptor "(D)V" = some ⟨[.double], none⟩ := by decide +kernel
theorem d6_0 : decode prog_136_method_6_code 0 = .ok (.aload_n 0, 1) := by decide +kernel
theorem d6_1 : decode prog_136_method_6_code 1 = .ok (.aload_n 1, 1) := by decide +kernel
theorem d6_2 : decode prog_136_method_6_code 2 = .ok (.aload_n 0, 1) := by decide +kernel
theorem d6_3 : decode prog_136_method_6_code 3 = .ok (.getfield 30, 3) := by decide +kernel
theorem d6_6 : decode prog_136_method_6_code 6 = .ok (.dload_n 2, 1) := by decide +kernel
theorem d6_7 : decode prog_136_method_6_code 7 = .ok (.iload 4, 2) := by decide +kernel
theorem d6_9 : decode prog_136_method_6_code 9 = .ok (.invokevirtual 60, 3) := by decide +kernel
theorem d6_12 : decode prog_136_method_6_code 12 = .ok (.ireturn, 1) := by decide +kernel
theorem pn6 : plainFor (⟨"com/example/nona/nona/solver/ApproximateChain", "solve", "([DDI)Z"⟩ : MethodName) = true := plainFor_of_name (show plainName "com/example/nona/nona/solver/ApproximateChain" = true by first | (simp [plainName, overriddenIn]; done) | decide +kernel)
theorem pd6 : parseMethodDescriptor "([DDI)Z" = some ⟨[(.array .double), .double, .int], (some .boolean)⟩ := by decide +kernel
theorem d7_0 : decode prog_136_method_8_code 0 = .ok (.aload_n 0, 1) := by decide +kernel
theorem d7_1 : decode prog_136_method_8_code 1 = .ok (.invokevirtual 54, 3) := by decide +kernel
theorem d7_4 : decode prog_136_method_8_code 4 = .ok (.aload_n 0, 1) := by decide +kernel
theorem d7_5 : decode prog_136_method_8_code 5 = .ok (.getfield 13, 3) := by decide +kernel
theorem d7_8 : decode prog_136_method_8_code 8 = .ok (.istore 6, 2) := by decide +kernel
theorem d7_10 : decode prog_136_method_8_code 10 = .ok (.aload_n 0, 1) := by decide +kernel
theorem d7_11 : decode prog_136_method_8_code 11 = .ok (.getfield 33, 3) := by decide +kernel
theorem d7_14 : decode prog_136_method_8_code 14 = .ok (.astore 7, 2) := by decide +kernel
theorem d7_16 : decode prog_136_method_8_code 16 = .ok (.aload_n 0, 1) := by decide +kernel
theorem d7_17 : decode prog_136_method_8_code 17 = .ok (.getfield 42, 3) := by decide +kernel
theorem d7_20 : decode prog_136_method_8_code 20 = .ok (.astore 8, 2) := by decide +kernel
theorem d7_22 : decode prog_136_method_8_code 22 = .ok (.aload_n 0, 1) := by decide +kernel
theorem d7_23 : decode prog_136_method_8_code 23 = .ok (.getfield 39, 3) := by decide +kernel
theorem d7_26 : decode prog_136_method_8_code 26 = .ok (.astore 9, 2) := by decide +kernel
theorem d7_28 : decode prog_136_method_8_code 28 = .ok (.aload_n 0, 1) := by decide +kernel
theorem d7_29 : decode prog_136_method_8_code 29 = .ok (.getfield 51, 3) := by decide +kernel
theorem d7_32 : decode prog_136_method_8_code 32 = .ok (.astore 10, 2) := by decide +kernel
theorem d7_34 : decode prog_136_method_8_code 34 = .ok (.dconst 0, 1) := by decide +kernel
theorem d7_35 : decode prog_136_method_8_code 35 = .ok (.dstore 11, 2) := by decide +kernel
theorem d7_37 : decode prog_136_method_8_code 37 = .ok (.iconst 0, 1) := by decide +kernel
theorem d7_38 : decode prog_136_method_8_code 38 = .ok (.istore 13, 2) := by decide +kernel
theorem d7_40 : decode prog_136_method_8_code 40 = .ok (.iload 13, 2) := by decide +kernel
theorem d7_42 : decode prog_136_method_8_code 42 = .ok (.iload 6, 2) := by decide +kernel
theorem d7_44 : decode prog_136_method_8_code 44 = .ok (.if_icmp .ge 111, 3) := by decide +kernel
theorem d7_47 : decode prog_136_method_8_code 47 = .ok (.aload_n 2, 1) := by decide +kernel
theorem d7_48 : decode prog_136_method_8_code 48 = .ok (.iload 13, 2) := by decide +kernel
theorem d7_50 : decode prog_136_method_8_code 50 = .ok (.daload, 1) := by decide +kernel
theorem d7_51 : decode prog_136_method_8_code 51 = .ok (.aload_n 1, 1) := by decide +kernel
theorem d7_52 : decode prog_136_method_8_code 52 = .ok (.iload 13, 2) := by decide +kernel
theorem d7_54 : decode prog_136_method_8_code 54 = .ok (.daload, 1) := by decide +kernel
theorem d7_55 : decode prog_136_method_8_code 55 = .ok (.dsub, 1) := by decide +kernel
theorem d7_56 : decode prog_136_method_8_code 56 = .ok (.dstore 14, 2) := by decide +kernel
theorem d7_58 : decode prog_136_method_8_code 58 = .ok (.aload_n 0, 1) := by decide +kernel
theorem d7_59 : decode prog_136_method_8_code 59 = .ok (.getfield 16, 3) := by decide +kernel
theorem d7_62 : decode prog_136_method_8_code 62 = .ok (.iload 13, 2) := by decide +kernel
theorem d7_64 : decode prog_136_method_8_code 64 = .ok (.iaload, 1) := by decide +kernel
theorem d7_65 : decode prog_136_method_8_code 65 = .ok (.istore 16, 2) := by decide +kernel
theorem d7_67 : decode prog_136_method_8_code 67 = .ok (.iload 16, 2) := by decide +kernel
theorem d7_69 : decode prog_136_method_8_code 69 = .ok (.aload_n 0, 1) := by decide +kernel
theorem d7_70 : decode prog_136_method_8_code 70 = .ok (.getfield 16, 3) := by decide +kernel
theorem d7_73 : decode prog_136_method_8_code 73 = .ok (.iload 13, 2) := by decide +kernel
theorem d7_75 : decode prog_136_method_8_code 75 = .ok (.iconst 1, 1) := by decide +kernel
theorem d7_76 : decode prog_136_method_8_code 76 = .ok (.iadd, 1) := by decide +kernel
theorem d7_77 : decode prog_136_method_8_code 77 = .ok (.iaload, 1) := by decide +kernel
theorem d7_78 : decode prog_136_method_8_code 78 = .ok (.if_icmp .ge 31, 3) := by decide +kernel
theorem d7_81 : decode prog_136_method_8_code 81 = .ok (.dload 14, 2) := by decide +kernel
theorem d7_83 : decode prog_136_method_8_code 83 = .ok (.aload_n 0, 1) := by decide +kernel
theorem d7_84 : decode prog_136_method_8_code 84 = .ok (.getfield 26, 3) := by decide +kernel
theorem d7_87 : decode prog_136_method_8_code 87 = .ok (.iload 16, 2) := by decide +kernel
theorem d7_89 : decode prog_136_method_8_code 89 = .ok (.daload, 1) := by decide +kernel
theorem d7_90 : decode prog_136_method_8_code 90 = .ok (.aload_n 1, 1) := by decide +kernel
theorem d7_91 : decode prog_136_method_8_code 91 = .ok (.aload_n 0, 1) := by decide +kernel
theorem d7_92 : decode prog_136_method_8_code 92 = .ok (.getfield 23, 3) := by decide +kernel
theorem d7_95 : decode prog_136_method_8_code 95 = .ok (.iload 16, 2) := by decide +kernel
theorem d7_97 : decode prog_136_method_8_code 97 = .ok (.iaload, 1) := by decide +kernel
theorem d7_98 : decode prog_136_method_8_code 98 = .ok (.daload, 1) := by decide +kernel
theorem d7_99 : decode prog_136_method_8_code 99 = .ok (.dmul, 1) := by decide +kernel
theorem d7_100 : decode prog_136_method_8_code 100 = .ok (.dadd, 1) := by decide +kernel
theorem d7_101 : decode prog_136_method_8_code 101 = .ok (.dstore 14, 2) := by decide +kernel
theorem d7_103 : decode prog_136_method_8_code 103 = .ok (.iinc 16 1, 3) := by decide +kernel
theorem d7_106 : decode prog_136_method_8_code 106 = .ok (.goto (-39), 3) := by decide +kernel
theorem d7_109 : decode prog_136_method_8_code 109 = .ok (.aload 7, 2) := by decide +kernel
theorem d7_111 : decode prog_136_method_8_code 111 = .ok (.iload 13, 2) := by decide +kernel
theorem d7_113 : decode prog_136_method_8_code 113 = .ok (.dload 14, 2) := by decide +kernel
theorem d7_115 : decode prog_136_method_8_code 115 = .ok (.dastore, 1) := by decide +kernel
theorem d7_116 : decode prog_136_method_8_code 116 = .ok (.aload_n 0, 1) := by decide +kernel
theorem d7_117 : decode prog_136_method_8_code 117 = .ok (.getfield 36, 3) := by decide +kernel
theorem d7_120 : decode prog_136_method_8_code 120 = .ok (.iload 13, 2) := by decide +kernel
theorem d7_122 : decode prog_136_method_8_code 122 = .ok (.dload 14, 2) := by decide +kernel
theorem d7_124 : decode prog_136_method_8_code 124 = .ok (.dastore, 1) := by decide +kernel
theorem d7_125 : decode prog_136_method_8_code 125 = .ok (.aload 9, 2) := by decide +kernel
theorem d7_127 : decode prog_136_method_8_code 127 = .ok (.iload 13, 2) := by decide +kernel
theorem d7_129 : decode prog_136_method_8_code 129 = .ok (.dconst 0, 1) := by decide +kernel
theorem d7_130 : decode prog_136_method_8_code 130 = .ok (.dastore, 1) := by decide +kernel
theorem d7_131 : decode prog_136_method_8_code 131 = .ok (.aload 8, 2) := by decide +kernel
theorem d7_133 : decode prog_136_method_8_code 133 = .ok (.iload 13, 2) := by decide +kernel
theorem d7_135 : decode prog_136_method_8_code 135 = .ok (.dconst 0, 1) := by decide +kernel
theorem d7_136 : decode prog_136_method_8_code 136 = .ok (.dastore, 1) := by decide +kernel
theorem d7_137 : decode prog_136_method_8_code 137 = .ok (.dload 11, 2) := by decide +kernel
theorem d7_139 : decode prog_136_method_8_code 139 = .ok (.dload 14, 2) := by decide +kernel
theorem d7_141 : decode prog_136_method_8_code 141 = .ok (.invokestatic 73, 3) := by decide +kernel
theorem d7_144 : decode prog_136_method_8_code 144 = .ok (.invokestatic 79, 3) := by decide +kernel
theorem d7_147 : decode prog_136_method_8_code 147 = .ok (.dstore 11, 2) := by decide +kernel
theorem d7_149 : decode prog_136_method_8_code 149 = .ok (.iinc 13 1, 3) := by decide +kernel
theorem d7_152 : decode prog_136_method_8_code 152 = .ok (.goto (-112), 3) := by decide +kernel
theorem d7_155 : decode prog_136_method_8_code 155 = .ok (.dconst 1, 1) := by decide +kernel
theorem d7_156 : decode prog_136_method_8_code 156 = .ok (.dstore 13, 2) := by decide +kernel
theorem d7_158 : decode prog_136_method_8_code 158 = .ok (.dconst 1, 1) := by decide +kernel
theorem d7_159 : decode prog_136_method_8_code 159 = .ok (.dstore 15, 2) := by decide +kernel
theorem d7_161 : decode prog_136_method_8_code 161 = .ok (.dconst 1, 1) := by decide +kernel
theorem d7_162 : decode prog_136_method_8_code 162 = .ok (.dstore 17, 2) := by decide +kernel
theorem d7_164 : decode prog_136_method_8_code 164 = .ok (.aload_n 0, 1) := by decide +kernel
theorem d7_165 : decode prog_136_method_8_code 165 = .ok (.iconst 0, 1) := by decide +kernel
theorem d7_166 : decode prog_136_method_8_code 166 = .ok (.putfield 83, 3) := by decide +kernel
theorem d7_169 : decode prog_136_method_8_code 169 = .ok (.iconst 0, 1) := by decide +kernel
theorem d7_170 : decode prog_136_method_8_code 170 = .ok (.istore 19, 2) := by decide +kernel
theorem d7_172 : decode prog_136_method_8_code 172 = .ok (.dload 11, 2) := by decide +kernel
theorem d7_174 : decode prog_136_method_8_code 174 = .ok (.dload_n 3, 1) := by decide +kernel
theorem d7_175 : decode prog_136_method_8_code 175 = .ok (.dcmp .l, 1) := by decide +kernel
theorem d7_176 : decode prog_136_method_8_code 176 = .ok (.ifCond .le 312, 3) := by decide +kernel
theorem d7_179 : decode prog_136_method_8_code 179 = .ok (.iload 19, 2) := by decide +kernel
theorem d7_181 : decode prog_136_method_8_code 181 = .ok (.ifCond .ne 307, 3) := by decide +kernel
theorem d7_184 : decode prog_136_method_8_code 184 = .ok (.aload_n 0, 1) := by decide +kernel
theorem d7_185 : decode prog_136_method_8_code 185 = .ok (.getfield 83, 3) := by decide +kernel
theorem d7_188 : decode prog_136_method_8_code 188 = .ok (.iload 5, 2) := by decide +kernel
theorem d7_190 : decode prog_136_method_8_code 190 = .ok (.if_icmp .ge 298, 3) := by decide +kernel
theorem d7_488 : decode prog_136_method_8_code 488 = .ok (.dload 11, 2) := by decide +kernel
theorem d7_490 : decode prog_136_method_8_code 490 = .ok (.dload_n 3, 1) := by decide +kernel
theorem d7_491 : decode prog_136_method_8_code 491 = .ok (.dcmp .g, 1) := by decide +kernel
theorem d7_492 : decode prog_136_method_8_code 492 = .ok (.ifCond .gt 7, 3) := by decide +kernel
theorem d7_495 : decode prog_136_method_8_code 495 = .ok (.iconst 1, 1) := by decide +kernel
theorem d7_496 : decode prog_136_method_8_code 496 = .ok (.goto 4, 3) := by decide +kernel
theorem d7_499 : decode prog_136_method_8_code 499 = .ok (.iconst 0, 1) := by decide +kernel
theorem d7_500 : decode prog_136_method_8_code 500 = .ok (.ireturn, 1) := by decide +kernel
theorem pn7 : plainFor (⟨"com/example/nona/nona/solver/ApproximateChain", "solve", "([D[DDI)Z"⟩ : MethodName) = true := plainFor_of_name (show plainName "com/example/nona/nona/solver/ApproximateChain" = true by first | (simp [plainName, overriddenIn]; done) | decide +kernel)
theorem pd7 : parseMethodDescriptor "([D[DDI)Z" = some ⟨[(.array .double), (.array .double), .double, .int], (some .boolean)⟩ := by decide +kernel
theorem d10_0 : decode prog_136_method_3_code 0 = .ok (.aload_n 0, 1) := by decide +kernel
theorem d10_1 : decode prog_136_method_3_code 1 = .ok (.getfield 23, 3) := by decide +kernel
theorem d10_4 : decode prog_136_method_3_code 4 = .ok (.aload_n 0, 1) := by decide +kernel
theorem d10_5 : decode prog_136_method_3_code 5 = .ok (.getfield 57, 3) := by decide +kernel
theorem d10_8 : decode prog_136_method_3_code 8 = .ok (.iload_n 1, 1) := by decide +kernel
theorem d10_9 : decode prog_136_method_3_code 9 = .ok (.iastore, 1) := by decide +kernel
theorem d10_10 : decode prog_136_method_3_code 10 = .ok (.aload_n 0, 1) := by decide +kernel
theorem d10_11 : decode prog_136_method_3_code 11 = .ok (.getfield 26, 3) := by decide +kernel
theorem d10_14 : decode prog_136_method_3_code 14 = .ok (.aload_n 0, 1) := by decide +kernel
theorem d10_15 : decode prog_136_method_3_code 15 = .ok (.getfield 57, 3) := by decide +kernel
theorem d10_18 : decode prog_136_method_3_code 18 = .ok (.dload_n 2, 1) := by decide +kernel
theorem d10_19 : decode prog_136_method_3_code 19 = .ok (.dastore, 1) := by decide +kernel
theorem d10_20 : decode prog_136_method_3_code 20 = .ok (.aload_n 0, 1) := by decide +kernel
theorem d10_21 : decode prog_136_method_3_code 21 = .ok (.dup, 1) := by decide +kernel
theorem d10_22 : decode prog_136_method_3_code 22 = .ok (.getfield 57, 3) := by decide +kernel
theorem d10_25 : decode prog_136_method_3_code 25 = .ok (.iconst 1, 1) := by decide +kernel
theorem d10_26 : decode prog_136_method_3_code 26 = .ok (.iadd, 1) := by decide +kernel
theorem d10_27 : decode prog_136_method_3_code 27 = .ok (.putfield 57, 3) := by decide +kernel
theorem d10_30 : decode prog_136_method_3_code 30 = .ok (.return_, 1) := by decide +kernel
theorem pn10 : plainFor (⟨"com/example/nona/nona/solver/ApproximateChain", "move", "(ID)V"⟩ : MethodName) = true := plainFor_of_name (show plainName "com/example/nona/nona/solver/ApproximateChain" = true by first | (simp [plainName, overriddenIn]; done) | decide +kernel)
theorem pd10 : parseMethodDescriptor "(ID)V" = some ⟨[.int, .double], none⟩ := by decide +kernel
abbrev ACN : String := "com/example/nona/nona/solver/ApproximateChain"
theorem neN {a b : Addr} (h : @LT.lt Nat instLTNat a b ∨ @LT.lt Nat instLTNat b a) : a ≠ b := fun e => by
  subst e
  rcases h with h | h <;> exact absurd h (Nat.lt_irrefl _)
theorem pTn : parseFieldDescriptor "I" = some .int := by decide +kernel
theorem pTi : parseFieldDescriptor "[I" = some (.array .int) := by decide +kernel
theorem pTd : parseFieldDescriptor "[D" = some (.array .double) := by decide +kernel
def FD (Z : State) (h : Heap) (c : Addr) (v0 v1 v2 v3 v4 v5 v6 v7 v8 v9 v10 v11 v12 v13 v14 v15 : Value) : Prop := Fld Z h c ACN "open" "I" v0 ∧ Fld Z h c ACN "size" "I" v1 ∧ Fld Z h c ACN "starts" "[I" v2 ∧ Fld Z h c ACN "laters" "[I" v3 ∧ Fld Z h c ACN "targets" "[I" v4 ∧ Fld Z h c ACN "probabilities" "[D" v5 ∧ Fld Z h c ACN "gains" "[D" v6 ∧ Fld Z h c ACN "residual" "[D" v7 ∧ Fld Z h c ACN "shadow" "[D" v8 ∧ Fld Z h c ACN "direction" "[D" v9 ∧ Fld Z h c ACN "image" "[D" v10 ∧ Fld Z h c ACN "preconditioned" "[D" v11 ∧ Fld Z h c ACN "correction" "[D" v12 ∧ Fld Z h c ACN "product" "[D" v13 ∧ Fld Z h c ACN "count" "I" v14 ∧ Fld Z h c ACN "iterations" "I" v15
theorem FD.ext {Z : State} {h h' : Heap} {c : Addr} {v0 v1 v2 v3 v4 v5 v6 v7 v8 v9 v10 v11 v12 v13 v14 v15 : Value} (F : FD Z h c v0 v1 v2 v3 v4 v5 v6 v7 v8 v9 v10 v11 v12 v13 v14 v15) (X : Ext h h') : FD Z h' c v0 v1 v2 v3 v4 v5 v6 v7 v8 v9 v10 v11 v12 v13 v14 v15 := by
  obtain ⟨f0, f1, f2, f3, f4, f5, f6, f7, f8, f9, f10, f11, f12, f13, f14, f15⟩ := F
  exact ⟨f0.ext X, f1.ext X, f2.ext X, f3.ext X, f4.ext X, f5.ext X, f6.ext X, f7.ext X, f8.ext X, f9.ext X, f10.ext X, f11.ext X, f12.ext X, f13.ext X, f14.ext X, f15.ext X⟩
theorem FD.oth {Z : State} {h h' : Heap} {c : Addr} {v0 v1 v2 v3 v4 v5 v6 v7 v8 v9 v10 v11 v12 v13 v14 v15 : Value} {a : Addr} {sl : Nat} {x : Value} (F : FD Z h c v0 v1 v2 v3 v4 v5 v6 v7 v8 v9 v10 v11 v12 v13 v14 v15) (W : Wr h h' a sl x) (q : c ≠ a) : FD Z h' c v0 v1 v2 v3 v4 v5 v6 v7 v8 v9 v10 v11 v12 v13 v14 v15 := by
  obtain ⟨f0, f1, f2, f3, f4, f5, f6, f7, f8, f9, f10, f11, f12, f13, f14, f15⟩ := F
  exact ⟨f0.other W (Or.inl q), f1.other W (Or.inl q), f2.other W (Or.inl q), f3.other W (Or.inl q), f4.other W (Or.inl q), f5.other W (Or.inl q), f6.other W (Or.inl q), f7.other W (Or.inl q), f8.other W (Or.inl q), f9.other W (Or.inl q), f10.other W (Or.inl q), f11.other W (Or.inl q), f12.other W (Or.inl q), f13.other W (Or.inl q), f14.other W (Or.inl q), f15.other W (Or.inl q)⟩
theorem FD.open {Z : State} {h : Heap} {c : Addr} {v0 v1 v2 v3 v4 v5 v6 v7 v8 v9 v10 v11 v12 v13 v14 v15 : Value} (F : FD Z h c v0 v1 v2 v3 v4 v5 v6 v7 v8 v9 v10 v11 v12 v13 v14 v15) : Fld Z h c ACN "open" "I" v0 := F.1
theorem FD.put_open {Z : State} {h h' : Heap} {c : Addr} {v0 v1 v2 v3 v4 v5 v6 v7 v8 v9 v10 v11 v12 v13 v14 v15 : Value} {a0 : Array Value} {x : Value} (hw : Hw a0 Z) (F : FD Z h c v0 v1 v2 v3 v4 v5 v6 v7 v8 v9 v10 v11 v12 v13 v14 v15) (W : Wr h h' c (Jvm.RoadKit.slotOf Z ACN "open" "I") x) : FD Z h' c x v1 v2 v3 v4 v5 v6 v7 v8 v9 v10 v11 v12 v13 v14 v15 := by
  obtain ⟨f0, f1, f2, f3, f4, f5, f6, f7, f8, f9, f10, f11, f12, f13, f14, f15⟩ := F
  exact ⟨f0.same W, f1.nxt W (Or.inr (w15 hw)) (Or.inl (w13 hw)) (by decide) pTn pTn, f2.nxt W (Or.inr (w18 hw)) (Or.inl (w13 hw)) (by decide) pTi pTn, f3.nxt W (Or.inr (w20 hw)) (Or.inl (w13 hw)) (by decide) pTi pTn, f4.nxt W (Or.inr (w22 hw)) (Or.inl (w13 hw)) (by decide) pTi pTn, f5.nxt W (Or.inr (w24 hw)) (Or.inl (w13 hw)) (by decide) pTd pTn, f6.nxt W (Or.inr (w26 hw)) (Or.inl (w13 hw)) (by decide) pTd pTn, f7.nxt W (Or.inr (w28 hw)) (Or.inl (w13 hw)) (by decide) pTd pTn, f8.nxt W (Or.inr (w30 hw)) (Or.inl (w13 hw)) (by decide) pTd pTn, f9.nxt W (Or.inr (w32 hw)) (Or.inl (w13 hw)) (by decide) pTd pTn, f10.nxt W (Or.inr (w34 hw)) (Or.inl (w13 hw)) (by decide) pTd pTn, f11.nxt W (Or.inr (w36 hw)) (Or.inl (w13 hw)) (by decide) pTd pTn, f12.nxt W (Or.inr (w38 hw)) (Or.inl (w13 hw)) (by decide) pTd pTn, f13.nxt W (Or.inr (w40 hw)) (Or.inl (w13 hw)) (by decide) pTd pTn, f14.nxt W (Or.inl (w51 hw)) (Or.inl (w13 hw)) (by decide) pTn pTn, f15.nxt W (Or.inl (w74 hw)) (Or.inl (w13 hw)) (by decide) pTn pTn⟩
theorem FD.size {Z : State} {h : Heap} {c : Addr} {v0 v1 v2 v3 v4 v5 v6 v7 v8 v9 v10 v11 v12 v13 v14 v15 : Value} (F : FD Z h c v0 v1 v2 v3 v4 v5 v6 v7 v8 v9 v10 v11 v12 v13 v14 v15) : Fld Z h c ACN "size" "I" v1 := F.2.1
theorem FD.put_size {Z : State} {h h' : Heap} {c : Addr} {v0 v1 v2 v3 v4 v5 v6 v7 v8 v9 v10 v11 v12 v13 v14 v15 : Value} {a0 : Array Value} {x : Value} (hw : Hw a0 Z) (F : FD Z h c v0 v1 v2 v3 v4 v5 v6 v7 v8 v9 v10 v11 v12 v13 v14 v15) (W : Wr h h' c (Jvm.RoadKit.slotOf Z ACN "size" "I") x) : FD Z h' c v0 x v2 v3 v4 v5 v6 v7 v8 v9 v10 v11 v12 v13 v14 v15 := by
  obtain ⟨f0, f1, f2, f3, f4, f5, f6, f7, f8, f9, f10, f11, f12, f13, f14, f15⟩ := F
  exact ⟨f0.nxt W (Or.inl (w13 hw)) (Or.inr (w15 hw)) (by decide) pTn pTn, f1.same W, f2.nxt W (Or.inr (w18 hw)) (Or.inr (w15 hw)) (by decide) pTi pTn, f3.nxt W (Or.inr (w20 hw)) (Or.inr (w15 hw)) (by decide) pTi pTn, f4.nxt W (Or.inr (w22 hw)) (Or.inr (w15 hw)) (by decide) pTi pTn, f5.nxt W (Or.inr (w24 hw)) (Or.inr (w15 hw)) (by decide) pTd pTn, f6.nxt W (Or.inr (w26 hw)) (Or.inr (w15 hw)) (by decide) pTd pTn, f7.nxt W (Or.inr (w28 hw)) (Or.inr (w15 hw)) (by decide) pTd pTn, f8.nxt W (Or.inr (w30 hw)) (Or.inr (w15 hw)) (by decide) pTd pTn, f9.nxt W (Or.inr (w32 hw)) (Or.inr (w15 hw)) (by decide) pTd pTn, f10.nxt W (Or.inr (w34 hw)) (Or.inr (w15 hw)) (by decide) pTd pTn, f11.nxt W (Or.inr (w36 hw)) (Or.inr (w15 hw)) (by decide) pTd pTn, f12.nxt W (Or.inr (w38 hw)) (Or.inr (w15 hw)) (by decide) pTd pTn, f13.nxt W (Or.inr (w40 hw)) (Or.inr (w15 hw)) (by decide) pTd pTn, f14.nxt W (Or.inl (w51 hw)) (Or.inr (w15 hw)) (by decide) pTn pTn, f15.nxt W (Or.inl (w74 hw)) (Or.inr (w15 hw)) (by decide) pTn pTn⟩
theorem FD.starts {Z : State} {h : Heap} {c : Addr} {v0 v1 v2 v3 v4 v5 v6 v7 v8 v9 v10 v11 v12 v13 v14 v15 : Value} (F : FD Z h c v0 v1 v2 v3 v4 v5 v6 v7 v8 v9 v10 v11 v12 v13 v14 v15) : Fld Z h c ACN "starts" "[I" v2 := F.2.2.1
theorem FD.put_starts {Z : State} {h h' : Heap} {c : Addr} {v0 v1 v2 v3 v4 v5 v6 v7 v8 v9 v10 v11 v12 v13 v14 v15 : Value} {a0 : Array Value} {x : Value} (hw : Hw a0 Z) (F : FD Z h c v0 v1 v2 v3 v4 v5 v6 v7 v8 v9 v10 v11 v12 v13 v14 v15) (W : Wr h h' c (Jvm.RoadKit.slotOf Z ACN "starts" "[I") x) : FD Z h' c v0 v1 x v3 v4 v5 v6 v7 v8 v9 v10 v11 v12 v13 v14 v15 := by
  obtain ⟨f0, f1, f2, f3, f4, f5, f6, f7, f8, f9, f10, f11, f12, f13, f14, f15⟩ := F
  exact ⟨f0.nxt W (Or.inl (w13 hw)) (Or.inr (w18 hw)) (by decide) pTn pTi, f1.nxt W (Or.inr (w15 hw)) (Or.inr (w18 hw)) (by decide) pTn pTi, f2.same W, f3.nxt W (Or.inr (w20 hw)) (Or.inr (w18 hw)) (by decide) pTi pTi, f4.nxt W (Or.inr (w22 hw)) (Or.inr (w18 hw)) (by decide) pTi pTi, f5.nxt W (Or.inr (w24 hw)) (Or.inr (w18 hw)) (by decide) pTd pTi, f6.nxt W (Or.inr (w26 hw)) (Or.inr (w18 hw)) (by decide) pTd pTi, f7.nxt W (Or.inr (w28 hw)) (Or.inr (w18 hw)) (by decide) pTd pTi, f8.nxt W (Or.inr (w30 hw)) (Or.inr (w18 hw)) (by decide) pTd pTi, f9.nxt W (Or.inr (w32 hw)) (Or.inr (w18 hw)) (by decide) pTd pTi, f10.nxt W (Or.inr (w34 hw)) (Or.inr (w18 hw)) (by decide) pTd pTi, f11.nxt W (Or.inr (w36 hw)) (Or.inr (w18 hw)) (by decide) pTd pTi, f12.nxt W (Or.inr (w38 hw)) (Or.inr (w18 hw)) (by decide) pTd pTi, f13.nxt W (Or.inr (w40 hw)) (Or.inr (w18 hw)) (by decide) pTd pTi, f14.nxt W (Or.inl (w51 hw)) (Or.inr (w18 hw)) (by decide) pTn pTi, f15.nxt W (Or.inl (w74 hw)) (Or.inr (w18 hw)) (by decide) pTn pTi⟩
theorem FD.laters {Z : State} {h : Heap} {c : Addr} {v0 v1 v2 v3 v4 v5 v6 v7 v8 v9 v10 v11 v12 v13 v14 v15 : Value} (F : FD Z h c v0 v1 v2 v3 v4 v5 v6 v7 v8 v9 v10 v11 v12 v13 v14 v15) : Fld Z h c ACN "laters" "[I" v3 := F.2.2.2.1
theorem FD.put_laters {Z : State} {h h' : Heap} {c : Addr} {v0 v1 v2 v3 v4 v5 v6 v7 v8 v9 v10 v11 v12 v13 v14 v15 : Value} {a0 : Array Value} {x : Value} (hw : Hw a0 Z) (F : FD Z h c v0 v1 v2 v3 v4 v5 v6 v7 v8 v9 v10 v11 v12 v13 v14 v15) (W : Wr h h' c (Jvm.RoadKit.slotOf Z ACN "laters" "[I") x) : FD Z h' c v0 v1 v2 x v4 v5 v6 v7 v8 v9 v10 v11 v12 v13 v14 v15 := by
  obtain ⟨f0, f1, f2, f3, f4, f5, f6, f7, f8, f9, f10, f11, f12, f13, f14, f15⟩ := F
  exact ⟨f0.nxt W (Or.inl (w13 hw)) (Or.inr (w20 hw)) (by decide) pTn pTi, f1.nxt W (Or.inr (w15 hw)) (Or.inr (w20 hw)) (by decide) pTn pTi, f2.nxt W (Or.inr (w18 hw)) (Or.inr (w20 hw)) (by decide) pTi pTi, f3.same W, f4.nxt W (Or.inr (w22 hw)) (Or.inr (w20 hw)) (by decide) pTi pTi, f5.nxt W (Or.inr (w24 hw)) (Or.inr (w20 hw)) (by decide) pTd pTi, f6.nxt W (Or.inr (w26 hw)) (Or.inr (w20 hw)) (by decide) pTd pTi, f7.nxt W (Or.inr (w28 hw)) (Or.inr (w20 hw)) (by decide) pTd pTi, f8.nxt W (Or.inr (w30 hw)) (Or.inr (w20 hw)) (by decide) pTd pTi, f9.nxt W (Or.inr (w32 hw)) (Or.inr (w20 hw)) (by decide) pTd pTi, f10.nxt W (Or.inr (w34 hw)) (Or.inr (w20 hw)) (by decide) pTd pTi, f11.nxt W (Or.inr (w36 hw)) (Or.inr (w20 hw)) (by decide) pTd pTi, f12.nxt W (Or.inr (w38 hw)) (Or.inr (w20 hw)) (by decide) pTd pTi, f13.nxt W (Or.inr (w40 hw)) (Or.inr (w20 hw)) (by decide) pTd pTi, f14.nxt W (Or.inl (w51 hw)) (Or.inr (w20 hw)) (by decide) pTn pTi, f15.nxt W (Or.inl (w74 hw)) (Or.inr (w20 hw)) (by decide) pTn pTi⟩
theorem FD.targets {Z : State} {h : Heap} {c : Addr} {v0 v1 v2 v3 v4 v5 v6 v7 v8 v9 v10 v11 v12 v13 v14 v15 : Value} (F : FD Z h c v0 v1 v2 v3 v4 v5 v6 v7 v8 v9 v10 v11 v12 v13 v14 v15) : Fld Z h c ACN "targets" "[I" v4 := F.2.2.2.2.1
theorem FD.put_targets {Z : State} {h h' : Heap} {c : Addr} {v0 v1 v2 v3 v4 v5 v6 v7 v8 v9 v10 v11 v12 v13 v14 v15 : Value} {a0 : Array Value} {x : Value} (hw : Hw a0 Z) (F : FD Z h c v0 v1 v2 v3 v4 v5 v6 v7 v8 v9 v10 v11 v12 v13 v14 v15) (W : Wr h h' c (Jvm.RoadKit.slotOf Z ACN "targets" "[I") x) : FD Z h' c v0 v1 v2 v3 x v5 v6 v7 v8 v9 v10 v11 v12 v13 v14 v15 := by
  obtain ⟨f0, f1, f2, f3, f4, f5, f6, f7, f8, f9, f10, f11, f12, f13, f14, f15⟩ := F
  exact ⟨f0.nxt W (Or.inl (w13 hw)) (Or.inr (w22 hw)) (by decide) pTn pTi, f1.nxt W (Or.inr (w15 hw)) (Or.inr (w22 hw)) (by decide) pTn pTi, f2.nxt W (Or.inr (w18 hw)) (Or.inr (w22 hw)) (by decide) pTi pTi, f3.nxt W (Or.inr (w20 hw)) (Or.inr (w22 hw)) (by decide) pTi pTi, f4.same W, f5.nxt W (Or.inr (w24 hw)) (Or.inr (w22 hw)) (by decide) pTd pTi, f6.nxt W (Or.inr (w26 hw)) (Or.inr (w22 hw)) (by decide) pTd pTi, f7.nxt W (Or.inr (w28 hw)) (Or.inr (w22 hw)) (by decide) pTd pTi, f8.nxt W (Or.inr (w30 hw)) (Or.inr (w22 hw)) (by decide) pTd pTi, f9.nxt W (Or.inr (w32 hw)) (Or.inr (w22 hw)) (by decide) pTd pTi, f10.nxt W (Or.inr (w34 hw)) (Or.inr (w22 hw)) (by decide) pTd pTi, f11.nxt W (Or.inr (w36 hw)) (Or.inr (w22 hw)) (by decide) pTd pTi, f12.nxt W (Or.inr (w38 hw)) (Or.inr (w22 hw)) (by decide) pTd pTi, f13.nxt W (Or.inr (w40 hw)) (Or.inr (w22 hw)) (by decide) pTd pTi, f14.nxt W (Or.inl (w51 hw)) (Or.inr (w22 hw)) (by decide) pTn pTi, f15.nxt W (Or.inl (w74 hw)) (Or.inr (w22 hw)) (by decide) pTn pTi⟩
theorem FD.probabilities {Z : State} {h : Heap} {c : Addr} {v0 v1 v2 v3 v4 v5 v6 v7 v8 v9 v10 v11 v12 v13 v14 v15 : Value} (F : FD Z h c v0 v1 v2 v3 v4 v5 v6 v7 v8 v9 v10 v11 v12 v13 v14 v15) : Fld Z h c ACN "probabilities" "[D" v5 := F.2.2.2.2.2.1
theorem FD.put_probabilities {Z : State} {h h' : Heap} {c : Addr} {v0 v1 v2 v3 v4 v5 v6 v7 v8 v9 v10 v11 v12 v13 v14 v15 : Value} {a0 : Array Value} {x : Value} (hw : Hw a0 Z) (F : FD Z h c v0 v1 v2 v3 v4 v5 v6 v7 v8 v9 v10 v11 v12 v13 v14 v15) (W : Wr h h' c (Jvm.RoadKit.slotOf Z ACN "probabilities" "[D") x) : FD Z h' c v0 v1 v2 v3 v4 x v6 v7 v8 v9 v10 v11 v12 v13 v14 v15 := by
  obtain ⟨f0, f1, f2, f3, f4, f5, f6, f7, f8, f9, f10, f11, f12, f13, f14, f15⟩ := F
  exact ⟨f0.nxt W (Or.inl (w13 hw)) (Or.inr (w24 hw)) (by decide) pTn pTd, f1.nxt W (Or.inr (w15 hw)) (Or.inr (w24 hw)) (by decide) pTn pTd, f2.nxt W (Or.inr (w18 hw)) (Or.inr (w24 hw)) (by decide) pTi pTd, f3.nxt W (Or.inr (w20 hw)) (Or.inr (w24 hw)) (by decide) pTi pTd, f4.nxt W (Or.inr (w22 hw)) (Or.inr (w24 hw)) (by decide) pTi pTd, f5.same W, f6.nxt W (Or.inr (w26 hw)) (Or.inr (w24 hw)) (by decide) pTd pTd, f7.nxt W (Or.inr (w28 hw)) (Or.inr (w24 hw)) (by decide) pTd pTd, f8.nxt W (Or.inr (w30 hw)) (Or.inr (w24 hw)) (by decide) pTd pTd, f9.nxt W (Or.inr (w32 hw)) (Or.inr (w24 hw)) (by decide) pTd pTd, f10.nxt W (Or.inr (w34 hw)) (Or.inr (w24 hw)) (by decide) pTd pTd, f11.nxt W (Or.inr (w36 hw)) (Or.inr (w24 hw)) (by decide) pTd pTd, f12.nxt W (Or.inr (w38 hw)) (Or.inr (w24 hw)) (by decide) pTd pTd, f13.nxt W (Or.inr (w40 hw)) (Or.inr (w24 hw)) (by decide) pTd pTd, f14.nxt W (Or.inl (w51 hw)) (Or.inr (w24 hw)) (by decide) pTn pTd, f15.nxt W (Or.inl (w74 hw)) (Or.inr (w24 hw)) (by decide) pTn pTd⟩
theorem FD.gains {Z : State} {h : Heap} {c : Addr} {v0 v1 v2 v3 v4 v5 v6 v7 v8 v9 v10 v11 v12 v13 v14 v15 : Value} (F : FD Z h c v0 v1 v2 v3 v4 v5 v6 v7 v8 v9 v10 v11 v12 v13 v14 v15) : Fld Z h c ACN "gains" "[D" v6 := F.2.2.2.2.2.2.1
theorem FD.put_gains {Z : State} {h h' : Heap} {c : Addr} {v0 v1 v2 v3 v4 v5 v6 v7 v8 v9 v10 v11 v12 v13 v14 v15 : Value} {a0 : Array Value} {x : Value} (hw : Hw a0 Z) (F : FD Z h c v0 v1 v2 v3 v4 v5 v6 v7 v8 v9 v10 v11 v12 v13 v14 v15) (W : Wr h h' c (Jvm.RoadKit.slotOf Z ACN "gains" "[D") x) : FD Z h' c v0 v1 v2 v3 v4 v5 x v7 v8 v9 v10 v11 v12 v13 v14 v15 := by
  obtain ⟨f0, f1, f2, f3, f4, f5, f6, f7, f8, f9, f10, f11, f12, f13, f14, f15⟩ := F
  exact ⟨f0.nxt W (Or.inl (w13 hw)) (Or.inr (w26 hw)) (by decide) pTn pTd, f1.nxt W (Or.inr (w15 hw)) (Or.inr (w26 hw)) (by decide) pTn pTd, f2.nxt W (Or.inr (w18 hw)) (Or.inr (w26 hw)) (by decide) pTi pTd, f3.nxt W (Or.inr (w20 hw)) (Or.inr (w26 hw)) (by decide) pTi pTd, f4.nxt W (Or.inr (w22 hw)) (Or.inr (w26 hw)) (by decide) pTi pTd, f5.nxt W (Or.inr (w24 hw)) (Or.inr (w26 hw)) (by decide) pTd pTd, f6.same W, f7.nxt W (Or.inr (w28 hw)) (Or.inr (w26 hw)) (by decide) pTd pTd, f8.nxt W (Or.inr (w30 hw)) (Or.inr (w26 hw)) (by decide) pTd pTd, f9.nxt W (Or.inr (w32 hw)) (Or.inr (w26 hw)) (by decide) pTd pTd, f10.nxt W (Or.inr (w34 hw)) (Or.inr (w26 hw)) (by decide) pTd pTd, f11.nxt W (Or.inr (w36 hw)) (Or.inr (w26 hw)) (by decide) pTd pTd, f12.nxt W (Or.inr (w38 hw)) (Or.inr (w26 hw)) (by decide) pTd pTd, f13.nxt W (Or.inr (w40 hw)) (Or.inr (w26 hw)) (by decide) pTd pTd, f14.nxt W (Or.inl (w51 hw)) (Or.inr (w26 hw)) (by decide) pTn pTd, f15.nxt W (Or.inl (w74 hw)) (Or.inr (w26 hw)) (by decide) pTn pTd⟩
theorem FD.residual {Z : State} {h : Heap} {c : Addr} {v0 v1 v2 v3 v4 v5 v6 v7 v8 v9 v10 v11 v12 v13 v14 v15 : Value} (F : FD Z h c v0 v1 v2 v3 v4 v5 v6 v7 v8 v9 v10 v11 v12 v13 v14 v15) : Fld Z h c ACN "residual" "[D" v7 := F.2.2.2.2.2.2.2.1
theorem FD.put_residual {Z : State} {h h' : Heap} {c : Addr} {v0 v1 v2 v3 v4 v5 v6 v7 v8 v9 v10 v11 v12 v13 v14 v15 : Value} {a0 : Array Value} {x : Value} (hw : Hw a0 Z) (F : FD Z h c v0 v1 v2 v3 v4 v5 v6 v7 v8 v9 v10 v11 v12 v13 v14 v15) (W : Wr h h' c (Jvm.RoadKit.slotOf Z ACN "residual" "[D") x) : FD Z h' c v0 v1 v2 v3 v4 v5 v6 x v8 v9 v10 v11 v12 v13 v14 v15 := by
  obtain ⟨f0, f1, f2, f3, f4, f5, f6, f7, f8, f9, f10, f11, f12, f13, f14, f15⟩ := F
  exact ⟨f0.nxt W (Or.inl (w13 hw)) (Or.inr (w28 hw)) (by decide) pTn pTd, f1.nxt W (Or.inr (w15 hw)) (Or.inr (w28 hw)) (by decide) pTn pTd, f2.nxt W (Or.inr (w18 hw)) (Or.inr (w28 hw)) (by decide) pTi pTd, f3.nxt W (Or.inr (w20 hw)) (Or.inr (w28 hw)) (by decide) pTi pTd, f4.nxt W (Or.inr (w22 hw)) (Or.inr (w28 hw)) (by decide) pTi pTd, f5.nxt W (Or.inr (w24 hw)) (Or.inr (w28 hw)) (by decide) pTd pTd, f6.nxt W (Or.inr (w26 hw)) (Or.inr (w28 hw)) (by decide) pTd pTd, f7.same W, f8.nxt W (Or.inr (w30 hw)) (Or.inr (w28 hw)) (by decide) pTd pTd, f9.nxt W (Or.inr (w32 hw)) (Or.inr (w28 hw)) (by decide) pTd pTd, f10.nxt W (Or.inr (w34 hw)) (Or.inr (w28 hw)) (by decide) pTd pTd, f11.nxt W (Or.inr (w36 hw)) (Or.inr (w28 hw)) (by decide) pTd pTd, f12.nxt W (Or.inr (w38 hw)) (Or.inr (w28 hw)) (by decide) pTd pTd, f13.nxt W (Or.inr (w40 hw)) (Or.inr (w28 hw)) (by decide) pTd pTd, f14.nxt W (Or.inl (w51 hw)) (Or.inr (w28 hw)) (by decide) pTn pTd, f15.nxt W (Or.inl (w74 hw)) (Or.inr (w28 hw)) (by decide) pTn pTd⟩
theorem FD.shadow {Z : State} {h : Heap} {c : Addr} {v0 v1 v2 v3 v4 v5 v6 v7 v8 v9 v10 v11 v12 v13 v14 v15 : Value} (F : FD Z h c v0 v1 v2 v3 v4 v5 v6 v7 v8 v9 v10 v11 v12 v13 v14 v15) : Fld Z h c ACN "shadow" "[D" v8 := F.2.2.2.2.2.2.2.2.1
theorem FD.put_shadow {Z : State} {h h' : Heap} {c : Addr} {v0 v1 v2 v3 v4 v5 v6 v7 v8 v9 v10 v11 v12 v13 v14 v15 : Value} {a0 : Array Value} {x : Value} (hw : Hw a0 Z) (F : FD Z h c v0 v1 v2 v3 v4 v5 v6 v7 v8 v9 v10 v11 v12 v13 v14 v15) (W : Wr h h' c (Jvm.RoadKit.slotOf Z ACN "shadow" "[D") x) : FD Z h' c v0 v1 v2 v3 v4 v5 v6 v7 x v9 v10 v11 v12 v13 v14 v15 := by
  obtain ⟨f0, f1, f2, f3, f4, f5, f6, f7, f8, f9, f10, f11, f12, f13, f14, f15⟩ := F
  exact ⟨f0.nxt W (Or.inl (w13 hw)) (Or.inr (w30 hw)) (by decide) pTn pTd, f1.nxt W (Or.inr (w15 hw)) (Or.inr (w30 hw)) (by decide) pTn pTd, f2.nxt W (Or.inr (w18 hw)) (Or.inr (w30 hw)) (by decide) pTi pTd, f3.nxt W (Or.inr (w20 hw)) (Or.inr (w30 hw)) (by decide) pTi pTd, f4.nxt W (Or.inr (w22 hw)) (Or.inr (w30 hw)) (by decide) pTi pTd, f5.nxt W (Or.inr (w24 hw)) (Or.inr (w30 hw)) (by decide) pTd pTd, f6.nxt W (Or.inr (w26 hw)) (Or.inr (w30 hw)) (by decide) pTd pTd, f7.nxt W (Or.inr (w28 hw)) (Or.inr (w30 hw)) (by decide) pTd pTd, f8.same W, f9.nxt W (Or.inr (w32 hw)) (Or.inr (w30 hw)) (by decide) pTd pTd, f10.nxt W (Or.inr (w34 hw)) (Or.inr (w30 hw)) (by decide) pTd pTd, f11.nxt W (Or.inr (w36 hw)) (Or.inr (w30 hw)) (by decide) pTd pTd, f12.nxt W (Or.inr (w38 hw)) (Or.inr (w30 hw)) (by decide) pTd pTd, f13.nxt W (Or.inr (w40 hw)) (Or.inr (w30 hw)) (by decide) pTd pTd, f14.nxt W (Or.inl (w51 hw)) (Or.inr (w30 hw)) (by decide) pTn pTd, f15.nxt W (Or.inl (w74 hw)) (Or.inr (w30 hw)) (by decide) pTn pTd⟩
theorem FD.direction {Z : State} {h : Heap} {c : Addr} {v0 v1 v2 v3 v4 v5 v6 v7 v8 v9 v10 v11 v12 v13 v14 v15 : Value} (F : FD Z h c v0 v1 v2 v3 v4 v5 v6 v7 v8 v9 v10 v11 v12 v13 v14 v15) : Fld Z h c ACN "direction" "[D" v9 := F.2.2.2.2.2.2.2.2.2.1
theorem FD.put_direction {Z : State} {h h' : Heap} {c : Addr} {v0 v1 v2 v3 v4 v5 v6 v7 v8 v9 v10 v11 v12 v13 v14 v15 : Value} {a0 : Array Value} {x : Value} (hw : Hw a0 Z) (F : FD Z h c v0 v1 v2 v3 v4 v5 v6 v7 v8 v9 v10 v11 v12 v13 v14 v15) (W : Wr h h' c (Jvm.RoadKit.slotOf Z ACN "direction" "[D") x) : FD Z h' c v0 v1 v2 v3 v4 v5 v6 v7 v8 x v10 v11 v12 v13 v14 v15 := by
  obtain ⟨f0, f1, f2, f3, f4, f5, f6, f7, f8, f9, f10, f11, f12, f13, f14, f15⟩ := F
  exact ⟨f0.nxt W (Or.inl (w13 hw)) (Or.inr (w32 hw)) (by decide) pTn pTd, f1.nxt W (Or.inr (w15 hw)) (Or.inr (w32 hw)) (by decide) pTn pTd, f2.nxt W (Or.inr (w18 hw)) (Or.inr (w32 hw)) (by decide) pTi pTd, f3.nxt W (Or.inr (w20 hw)) (Or.inr (w32 hw)) (by decide) pTi pTd, f4.nxt W (Or.inr (w22 hw)) (Or.inr (w32 hw)) (by decide) pTi pTd, f5.nxt W (Or.inr (w24 hw)) (Or.inr (w32 hw)) (by decide) pTd pTd, f6.nxt W (Or.inr (w26 hw)) (Or.inr (w32 hw)) (by decide) pTd pTd, f7.nxt W (Or.inr (w28 hw)) (Or.inr (w32 hw)) (by decide) pTd pTd, f8.nxt W (Or.inr (w30 hw)) (Or.inr (w32 hw)) (by decide) pTd pTd, f9.same W, f10.nxt W (Or.inr (w34 hw)) (Or.inr (w32 hw)) (by decide) pTd pTd, f11.nxt W (Or.inr (w36 hw)) (Or.inr (w32 hw)) (by decide) pTd pTd, f12.nxt W (Or.inr (w38 hw)) (Or.inr (w32 hw)) (by decide) pTd pTd, f13.nxt W (Or.inr (w40 hw)) (Or.inr (w32 hw)) (by decide) pTd pTd, f14.nxt W (Or.inl (w51 hw)) (Or.inr (w32 hw)) (by decide) pTn pTd, f15.nxt W (Or.inl (w74 hw)) (Or.inr (w32 hw)) (by decide) pTn pTd⟩
theorem FD.image {Z : State} {h : Heap} {c : Addr} {v0 v1 v2 v3 v4 v5 v6 v7 v8 v9 v10 v11 v12 v13 v14 v15 : Value} (F : FD Z h c v0 v1 v2 v3 v4 v5 v6 v7 v8 v9 v10 v11 v12 v13 v14 v15) : Fld Z h c ACN "image" "[D" v10 := F.2.2.2.2.2.2.2.2.2.2.1
theorem FD.put_image {Z : State} {h h' : Heap} {c : Addr} {v0 v1 v2 v3 v4 v5 v6 v7 v8 v9 v10 v11 v12 v13 v14 v15 : Value} {a0 : Array Value} {x : Value} (hw : Hw a0 Z) (F : FD Z h c v0 v1 v2 v3 v4 v5 v6 v7 v8 v9 v10 v11 v12 v13 v14 v15) (W : Wr h h' c (Jvm.RoadKit.slotOf Z ACN "image" "[D") x) : FD Z h' c v0 v1 v2 v3 v4 v5 v6 v7 v8 v9 x v11 v12 v13 v14 v15 := by
  obtain ⟨f0, f1, f2, f3, f4, f5, f6, f7, f8, f9, f10, f11, f12, f13, f14, f15⟩ := F
  exact ⟨f0.nxt W (Or.inl (w13 hw)) (Or.inr (w34 hw)) (by decide) pTn pTd, f1.nxt W (Or.inr (w15 hw)) (Or.inr (w34 hw)) (by decide) pTn pTd, f2.nxt W (Or.inr (w18 hw)) (Or.inr (w34 hw)) (by decide) pTi pTd, f3.nxt W (Or.inr (w20 hw)) (Or.inr (w34 hw)) (by decide) pTi pTd, f4.nxt W (Or.inr (w22 hw)) (Or.inr (w34 hw)) (by decide) pTi pTd, f5.nxt W (Or.inr (w24 hw)) (Or.inr (w34 hw)) (by decide) pTd pTd, f6.nxt W (Or.inr (w26 hw)) (Or.inr (w34 hw)) (by decide) pTd pTd, f7.nxt W (Or.inr (w28 hw)) (Or.inr (w34 hw)) (by decide) pTd pTd, f8.nxt W (Or.inr (w30 hw)) (Or.inr (w34 hw)) (by decide) pTd pTd, f9.nxt W (Or.inr (w32 hw)) (Or.inr (w34 hw)) (by decide) pTd pTd, f10.same W, f11.nxt W (Or.inr (w36 hw)) (Or.inr (w34 hw)) (by decide) pTd pTd, f12.nxt W (Or.inr (w38 hw)) (Or.inr (w34 hw)) (by decide) pTd pTd, f13.nxt W (Or.inr (w40 hw)) (Or.inr (w34 hw)) (by decide) pTd pTd, f14.nxt W (Or.inl (w51 hw)) (Or.inr (w34 hw)) (by decide) pTn pTd, f15.nxt W (Or.inl (w74 hw)) (Or.inr (w34 hw)) (by decide) pTn pTd⟩
theorem FD.preconditioned {Z : State} {h : Heap} {c : Addr} {v0 v1 v2 v3 v4 v5 v6 v7 v8 v9 v10 v11 v12 v13 v14 v15 : Value} (F : FD Z h c v0 v1 v2 v3 v4 v5 v6 v7 v8 v9 v10 v11 v12 v13 v14 v15) : Fld Z h c ACN "preconditioned" "[D" v11 := F.2.2.2.2.2.2.2.2.2.2.2.1
theorem FD.put_preconditioned {Z : State} {h h' : Heap} {c : Addr} {v0 v1 v2 v3 v4 v5 v6 v7 v8 v9 v10 v11 v12 v13 v14 v15 : Value} {a0 : Array Value} {x : Value} (hw : Hw a0 Z) (F : FD Z h c v0 v1 v2 v3 v4 v5 v6 v7 v8 v9 v10 v11 v12 v13 v14 v15) (W : Wr h h' c (Jvm.RoadKit.slotOf Z ACN "preconditioned" "[D") x) : FD Z h' c v0 v1 v2 v3 v4 v5 v6 v7 v8 v9 v10 x v12 v13 v14 v15 := by
  obtain ⟨f0, f1, f2, f3, f4, f5, f6, f7, f8, f9, f10, f11, f12, f13, f14, f15⟩ := F
  exact ⟨f0.nxt W (Or.inl (w13 hw)) (Or.inr (w36 hw)) (by decide) pTn pTd, f1.nxt W (Or.inr (w15 hw)) (Or.inr (w36 hw)) (by decide) pTn pTd, f2.nxt W (Or.inr (w18 hw)) (Or.inr (w36 hw)) (by decide) pTi pTd, f3.nxt W (Or.inr (w20 hw)) (Or.inr (w36 hw)) (by decide) pTi pTd, f4.nxt W (Or.inr (w22 hw)) (Or.inr (w36 hw)) (by decide) pTi pTd, f5.nxt W (Or.inr (w24 hw)) (Or.inr (w36 hw)) (by decide) pTd pTd, f6.nxt W (Or.inr (w26 hw)) (Or.inr (w36 hw)) (by decide) pTd pTd, f7.nxt W (Or.inr (w28 hw)) (Or.inr (w36 hw)) (by decide) pTd pTd, f8.nxt W (Or.inr (w30 hw)) (Or.inr (w36 hw)) (by decide) pTd pTd, f9.nxt W (Or.inr (w32 hw)) (Or.inr (w36 hw)) (by decide) pTd pTd, f10.nxt W (Or.inr (w34 hw)) (Or.inr (w36 hw)) (by decide) pTd pTd, f11.same W, f12.nxt W (Or.inr (w38 hw)) (Or.inr (w36 hw)) (by decide) pTd pTd, f13.nxt W (Or.inr (w40 hw)) (Or.inr (w36 hw)) (by decide) pTd pTd, f14.nxt W (Or.inl (w51 hw)) (Or.inr (w36 hw)) (by decide) pTn pTd, f15.nxt W (Or.inl (w74 hw)) (Or.inr (w36 hw)) (by decide) pTn pTd⟩
theorem FD.correction {Z : State} {h : Heap} {c : Addr} {v0 v1 v2 v3 v4 v5 v6 v7 v8 v9 v10 v11 v12 v13 v14 v15 : Value} (F : FD Z h c v0 v1 v2 v3 v4 v5 v6 v7 v8 v9 v10 v11 v12 v13 v14 v15) : Fld Z h c ACN "correction" "[D" v12 := F.2.2.2.2.2.2.2.2.2.2.2.2.1
theorem FD.put_correction {Z : State} {h h' : Heap} {c : Addr} {v0 v1 v2 v3 v4 v5 v6 v7 v8 v9 v10 v11 v12 v13 v14 v15 : Value} {a0 : Array Value} {x : Value} (hw : Hw a0 Z) (F : FD Z h c v0 v1 v2 v3 v4 v5 v6 v7 v8 v9 v10 v11 v12 v13 v14 v15) (W : Wr h h' c (Jvm.RoadKit.slotOf Z ACN "correction" "[D") x) : FD Z h' c v0 v1 v2 v3 v4 v5 v6 v7 v8 v9 v10 v11 x v13 v14 v15 := by
  obtain ⟨f0, f1, f2, f3, f4, f5, f6, f7, f8, f9, f10, f11, f12, f13, f14, f15⟩ := F
  exact ⟨f0.nxt W (Or.inl (w13 hw)) (Or.inr (w38 hw)) (by decide) pTn pTd, f1.nxt W (Or.inr (w15 hw)) (Or.inr (w38 hw)) (by decide) pTn pTd, f2.nxt W (Or.inr (w18 hw)) (Or.inr (w38 hw)) (by decide) pTi pTd, f3.nxt W (Or.inr (w20 hw)) (Or.inr (w38 hw)) (by decide) pTi pTd, f4.nxt W (Or.inr (w22 hw)) (Or.inr (w38 hw)) (by decide) pTi pTd, f5.nxt W (Or.inr (w24 hw)) (Or.inr (w38 hw)) (by decide) pTd pTd, f6.nxt W (Or.inr (w26 hw)) (Or.inr (w38 hw)) (by decide) pTd pTd, f7.nxt W (Or.inr (w28 hw)) (Or.inr (w38 hw)) (by decide) pTd pTd, f8.nxt W (Or.inr (w30 hw)) (Or.inr (w38 hw)) (by decide) pTd pTd, f9.nxt W (Or.inr (w32 hw)) (Or.inr (w38 hw)) (by decide) pTd pTd, f10.nxt W (Or.inr (w34 hw)) (Or.inr (w38 hw)) (by decide) pTd pTd, f11.nxt W (Or.inr (w36 hw)) (Or.inr (w38 hw)) (by decide) pTd pTd, f12.same W, f13.nxt W (Or.inr (w40 hw)) (Or.inr (w38 hw)) (by decide) pTd pTd, f14.nxt W (Or.inl (w51 hw)) (Or.inr (w38 hw)) (by decide) pTn pTd, f15.nxt W (Or.inl (w74 hw)) (Or.inr (w38 hw)) (by decide) pTn pTd⟩
theorem FD.product {Z : State} {h : Heap} {c : Addr} {v0 v1 v2 v3 v4 v5 v6 v7 v8 v9 v10 v11 v12 v13 v14 v15 : Value} (F : FD Z h c v0 v1 v2 v3 v4 v5 v6 v7 v8 v9 v10 v11 v12 v13 v14 v15) : Fld Z h c ACN "product" "[D" v13 := F.2.2.2.2.2.2.2.2.2.2.2.2.2.1
theorem FD.put_product {Z : State} {h h' : Heap} {c : Addr} {v0 v1 v2 v3 v4 v5 v6 v7 v8 v9 v10 v11 v12 v13 v14 v15 : Value} {a0 : Array Value} {x : Value} (hw : Hw a0 Z) (F : FD Z h c v0 v1 v2 v3 v4 v5 v6 v7 v8 v9 v10 v11 v12 v13 v14 v15) (W : Wr h h' c (Jvm.RoadKit.slotOf Z ACN "product" "[D") x) : FD Z h' c v0 v1 v2 v3 v4 v5 v6 v7 v8 v9 v10 v11 v12 x v14 v15 := by
  obtain ⟨f0, f1, f2, f3, f4, f5, f6, f7, f8, f9, f10, f11, f12, f13, f14, f15⟩ := F
  exact ⟨f0.nxt W (Or.inl (w13 hw)) (Or.inr (w40 hw)) (by decide) pTn pTd, f1.nxt W (Or.inr (w15 hw)) (Or.inr (w40 hw)) (by decide) pTn pTd, f2.nxt W (Or.inr (w18 hw)) (Or.inr (w40 hw)) (by decide) pTi pTd, f3.nxt W (Or.inr (w20 hw)) (Or.inr (w40 hw)) (by decide) pTi pTd, f4.nxt W (Or.inr (w22 hw)) (Or.inr (w40 hw)) (by decide) pTi pTd, f5.nxt W (Or.inr (w24 hw)) (Or.inr (w40 hw)) (by decide) pTd pTd, f6.nxt W (Or.inr (w26 hw)) (Or.inr (w40 hw)) (by decide) pTd pTd, f7.nxt W (Or.inr (w28 hw)) (Or.inr (w40 hw)) (by decide) pTd pTd, f8.nxt W (Or.inr (w30 hw)) (Or.inr (w40 hw)) (by decide) pTd pTd, f9.nxt W (Or.inr (w32 hw)) (Or.inr (w40 hw)) (by decide) pTd pTd, f10.nxt W (Or.inr (w34 hw)) (Or.inr (w40 hw)) (by decide) pTd pTd, f11.nxt W (Or.inr (w36 hw)) (Or.inr (w40 hw)) (by decide) pTd pTd, f12.nxt W (Or.inr (w38 hw)) (Or.inr (w40 hw)) (by decide) pTd pTd, f13.same W, f14.nxt W (Or.inl (w51 hw)) (Or.inr (w40 hw)) (by decide) pTn pTd, f15.nxt W (Or.inl (w74 hw)) (Or.inr (w40 hw)) (by decide) pTn pTd⟩
theorem FD.count {Z : State} {h : Heap} {c : Addr} {v0 v1 v2 v3 v4 v5 v6 v7 v8 v9 v10 v11 v12 v13 v14 v15 : Value} (F : FD Z h c v0 v1 v2 v3 v4 v5 v6 v7 v8 v9 v10 v11 v12 v13 v14 v15) : Fld Z h c ACN "count" "I" v14 := F.2.2.2.2.2.2.2.2.2.2.2.2.2.2.1
theorem FD.put_count {Z : State} {h h' : Heap} {c : Addr} {v0 v1 v2 v3 v4 v5 v6 v7 v8 v9 v10 v11 v12 v13 v14 v15 : Value} {a0 : Array Value} {x : Value} (hw : Hw a0 Z) (F : FD Z h c v0 v1 v2 v3 v4 v5 v6 v7 v8 v9 v10 v11 v12 v13 v14 v15) (W : Wr h h' c (Jvm.RoadKit.slotOf Z ACN "count" "I") x) : FD Z h' c v0 v1 v2 v3 v4 v5 v6 v7 v8 v9 v10 v11 v12 v13 x v15 := by
  obtain ⟨f0, f1, f2, f3, f4, f5, f6, f7, f8, f9, f10, f11, f12, f13, f14, f15⟩ := F
  exact ⟨f0.nxt W (Or.inl (w13 hw)) (Or.inl (w51 hw)) (by decide) pTn pTn, f1.nxt W (Or.inr (w15 hw)) (Or.inl (w51 hw)) (by decide) pTn pTn, f2.nxt W (Or.inr (w18 hw)) (Or.inl (w51 hw)) (by decide) pTi pTn, f3.nxt W (Or.inr (w20 hw)) (Or.inl (w51 hw)) (by decide) pTi pTn, f4.nxt W (Or.inr (w22 hw)) (Or.inl (w51 hw)) (by decide) pTi pTn, f5.nxt W (Or.inr (w24 hw)) (Or.inl (w51 hw)) (by decide) pTd pTn, f6.nxt W (Or.inr (w26 hw)) (Or.inl (w51 hw)) (by decide) pTd pTn, f7.nxt W (Or.inr (w28 hw)) (Or.inl (w51 hw)) (by decide) pTd pTn, f8.nxt W (Or.inr (w30 hw)) (Or.inl (w51 hw)) (by decide) pTd pTn, f9.nxt W (Or.inr (w32 hw)) (Or.inl (w51 hw)) (by decide) pTd pTn, f10.nxt W (Or.inr (w34 hw)) (Or.inl (w51 hw)) (by decide) pTd pTn, f11.nxt W (Or.inr (w36 hw)) (Or.inl (w51 hw)) (by decide) pTd pTn, f12.nxt W (Or.inr (w38 hw)) (Or.inl (w51 hw)) (by decide) pTd pTn, f13.nxt W (Or.inr (w40 hw)) (Or.inl (w51 hw)) (by decide) pTd pTn, f14.same W, f15.nxt W (Or.inl (w74 hw)) (Or.inl (w51 hw)) (by decide) pTn pTn⟩
theorem FD.iterations {Z : State} {h : Heap} {c : Addr} {v0 v1 v2 v3 v4 v5 v6 v7 v8 v9 v10 v11 v12 v13 v14 v15 : Value} (F : FD Z h c v0 v1 v2 v3 v4 v5 v6 v7 v8 v9 v10 v11 v12 v13 v14 v15) : Fld Z h c ACN "iterations" "I" v15 := F.2.2.2.2.2.2.2.2.2.2.2.2.2.2.2
theorem FD.put_iterations {Z : State} {h h' : Heap} {c : Addr} {v0 v1 v2 v3 v4 v5 v6 v7 v8 v9 v10 v11 v12 v13 v14 v15 : Value} {a0 : Array Value} {x : Value} (hw : Hw a0 Z) (F : FD Z h c v0 v1 v2 v3 v4 v5 v6 v7 v8 v9 v10 v11 v12 v13 v14 v15) (W : Wr h h' c (Jvm.RoadKit.slotOf Z ACN "iterations" "I") x) : FD Z h' c v0 v1 v2 v3 v4 v5 v6 v7 v8 v9 v10 v11 v12 v13 v14 x := by
  obtain ⟨f0, f1, f2, f3, f4, f5, f6, f7, f8, f9, f10, f11, f12, f13, f14, f15⟩ := F
  exact ⟨f0.nxt W (Or.inl (w13 hw)) (Or.inl (w74 hw)) (by decide) pTn pTn, f1.nxt W (Or.inr (w15 hw)) (Or.inl (w74 hw)) (by decide) pTn pTn, f2.nxt W (Or.inr (w18 hw)) (Or.inl (w74 hw)) (by decide) pTi pTn, f3.nxt W (Or.inr (w20 hw)) (Or.inl (w74 hw)) (by decide) pTi pTn, f4.nxt W (Or.inr (w22 hw)) (Or.inl (w74 hw)) (by decide) pTi pTn, f5.nxt W (Or.inr (w24 hw)) (Or.inl (w74 hw)) (by decide) pTd pTn, f6.nxt W (Or.inr (w26 hw)) (Or.inl (w74 hw)) (by decide) pTd pTn, f7.nxt W (Or.inr (w28 hw)) (Or.inl (w74 hw)) (by decide) pTd pTn, f8.nxt W (Or.inr (w30 hw)) (Or.inl (w74 hw)) (by decide) pTd pTn, f9.nxt W (Or.inr (w32 hw)) (Or.inl (w74 hw)) (by decide) pTd pTn, f10.nxt W (Or.inr (w34 hw)) (Or.inl (w74 hw)) (by decide) pTd pTn, f11.nxt W (Or.inr (w36 hw)) (Or.inl (w74 hw)) (by decide) pTd pTn, f12.nxt W (Or.inr (w38 hw)) (Or.inl (w74 hw)) (by decide) pTd pTn, f13.nxt W (Or.inr (w40 hw)) (Or.inl (w74 hw)) (by decide) pTd pTn, f14.nxt W (Or.inl (w51 hw)) (Or.inl (w74 hw)) (by decide) pTn pTn, f15.same W⟩
/-- the chain c with its arrays A 0 .. A 11, and the row ax -/
def CN (Z : State) (h : Heap) (n0 : Nat) (c : Addr) (A : Nat → Addr) (ax : Addr) (opn cnt its : Int32) (st la tg pr ga xs : List Value) : Prop :=
  Old Z n0 h ∧ Exa Z h c ACN ∧ (n0 ≤ c ∧ @LT.lt Nat instLTNat ax c ∧ @LT.lt Nat instLTNat c (A 0) ∧ @LT.lt Nat instLTNat (A 0) (A 1) ∧ @LT.lt Nat instLTNat (A 1) (A 2) ∧ @LT.lt Nat instLTNat (A 2) (A 3) ∧ @LT.lt Nat instLTNat (A 3) (A 4) ∧ @LT.lt Nat instLTNat (A 4) (A 5) ∧ @LT.lt Nat instLTNat (A 5) (A 6) ∧ @LT.lt Nat instLTNat (A 6) (A 7) ∧ @LT.lt Nat instLTNat (A 7) (A 8) ∧ @LT.lt Nat instLTNat (A 8) (A 9) ∧ @LT.lt Nat instLTNat (A 9) (A 10) ∧ @LT.lt Nat instLTNat (A 10) (A 11)) ∧ FD Z h c (.int opn) (.int 2) (.ref (A 0)) (.ref (A 1)) (.ref (A 2)) (.ref (A 3)) (.ref (A 4)) (.ref (A 5)) (.ref (A 6)) (.ref (A 7)) (.ref (A 8)) (.ref (A 9)) (.ref (A 10)) (.ref (A 11)) (.int cnt) (.int its) ∧ (∃ k, Ar Z h (A 0) .int k st) ∧ (∃ k, Ar Z h (A 1) .int k la) ∧ (∃ k, Ar Z h (A 2) .int k tg) ∧ (∃ k, Ar Z h (A 3) .double k pr) ∧ (∃ k, Ar Z h (A 4) .double k ga) ∧ (∃ k vs, vs.length = 2 ∧ Ar Z h (A 5) .double k vs) ∧ (∃ k vs, vs.length = 2 ∧ Ar Z h (A 6) .double k vs) ∧ (∃ k vs, vs.length = 2 ∧ Ar Z h (A 7) .double k vs) ∧ (∃ k vs, vs.length = 2 ∧ Ar Z h (A 8) .double k vs) ∧ (∃ k, Ar Z h ax .double k xs)
theorem CN.old {Z : State} {h : Heap} {n0 : Nat} {c : Addr} {A : Nat → Addr} {ax : Addr} {opn cnt its : Int32} {st la tg pr ga xs : List Value} (C : CN Z h n0 c A ax opn cnt its st la tg pr ga xs) : Old Z n0 h := C.1
theorem CN.exa {Z : State} {h : Heap} {n0 : Nat} {c : Addr} {A : Nat → Addr} {ax : Addr} {opn cnt its : Int32} {st la tg pr ga xs : List Value} (C : CN Z h n0 c A ax opn cnt its st la tg pr ga xs) : Exa Z h c ACN := C.2.1
theorem CN.fd {Z : State} {h : Heap} {n0 : Nat} {c : Addr} {A : Nat → Addr} {ax : Addr} {opn cnt its : Int32} {st la tg pr ga xs : List Value} (C : CN Z h n0 c A ax opn cnt its st la tg pr ga xs) : FD Z h c (.int opn) (.int 2) (.ref (A 0)) (.ref (A 1)) (.ref (A 2)) (.ref (A 3)) (.ref (A 4)) (.ref (A 5)) (.ref (A 6)) (.ref (A 7)) (.ref (A 8)) (.ref (A 9)) (.ref (A 10)) (.ref (A 11)) (.int cnt) (.int its) := C.2.2.2.1
theorem CN.nc {Z : State} {h : Heap} {n0 : Nat} {c : Addr} {A : Nat → Addr} {ax : Addr} {opn cnt its : Int32} {st la tg pr ga xs : List Value} (C : CN Z h n0 c A ax opn cnt its st la tg pr ga xs) : n0 ≤ c := C.2.2.1.1
theorem CN.na0 {Z : State} {h : Heap} {n0 : Nat} {c : Addr} {A : Nat → Addr} {ax : Addr} {opn cnt its : Int32} {st la tg pr ga xs : List Value} (C : CN Z h n0 c A ax opn cnt its st la tg pr ga xs) : n0 ≤ A 0 := by
  obtain ⟨O, E, ⟨o0, o1, o2, o3, o4, o5, o6, o7, o8, o9, o10, o11, o12, o13⟩, D, ⟨k0, B0⟩, ⟨k1, B1⟩, ⟨k2, B2⟩, ⟨k3, B3⟩, ⟨k4, B4⟩, ⟨k5, w5, l5, B5⟩, ⟨k6, w6, l6, B6⟩, ⟨k7, w7, l7, B7⟩, ⟨k8, w8, l8, B8⟩, ⟨kx, BX⟩⟩ := C
  omega
theorem CN.a0 {Z : State} {h : Heap} {n0 : Nat} {c : Addr} {A : Nat → Addr} {ax : Addr} {opn cnt its : Int32} {st la tg pr ga xs : List Value} (C : CN Z h n0 c A ax opn cnt its st la tg pr ga xs) : ∃ k, Ar Z h (A 0) .int k st := C.2.2.2.2.1
theorem CN.na1 {Z : State} {h : Heap} {n0 : Nat} {c : Addr} {A : Nat → Addr} {ax : Addr} {opn cnt its : Int32} {st la tg pr ga xs : List Value} (C : CN Z h n0 c A ax opn cnt its st la tg pr ga xs) : n0 ≤ A 1 := by
  obtain ⟨O, E, ⟨o0, o1, o2, o3, o4, o5, o6, o7, o8, o9, o10, o11, o12, o13⟩, D, ⟨k0, B0⟩, ⟨k1, B1⟩, ⟨k2, B2⟩, ⟨k3, B3⟩, ⟨k4, B4⟩, ⟨k5, w5, l5, B5⟩, ⟨k6, w6, l6, B6⟩, ⟨k7, w7, l7, B7⟩, ⟨k8, w8, l8, B8⟩, ⟨kx, BX⟩⟩ := C
  omega
theorem CN.a1 {Z : State} {h : Heap} {n0 : Nat} {c : Addr} {A : Nat → Addr} {ax : Addr} {opn cnt its : Int32} {st la tg pr ga xs : List Value} (C : CN Z h n0 c A ax opn cnt its st la tg pr ga xs) : ∃ k, Ar Z h (A 1) .int k la := C.2.2.2.2.2.1
theorem CN.na2 {Z : State} {h : Heap} {n0 : Nat} {c : Addr} {A : Nat → Addr} {ax : Addr} {opn cnt its : Int32} {st la tg pr ga xs : List Value} (C : CN Z h n0 c A ax opn cnt its st la tg pr ga xs) : n0 ≤ A 2 := by
  obtain ⟨O, E, ⟨o0, o1, o2, o3, o4, o5, o6, o7, o8, o9, o10, o11, o12, o13⟩, D, ⟨k0, B0⟩, ⟨k1, B1⟩, ⟨k2, B2⟩, ⟨k3, B3⟩, ⟨k4, B4⟩, ⟨k5, w5, l5, B5⟩, ⟨k6, w6, l6, B6⟩, ⟨k7, w7, l7, B7⟩, ⟨k8, w8, l8, B8⟩, ⟨kx, BX⟩⟩ := C
  omega
theorem CN.a2 {Z : State} {h : Heap} {n0 : Nat} {c : Addr} {A : Nat → Addr} {ax : Addr} {opn cnt its : Int32} {st la tg pr ga xs : List Value} (C : CN Z h n0 c A ax opn cnt its st la tg pr ga xs) : ∃ k, Ar Z h (A 2) .int k tg := C.2.2.2.2.2.2.1
theorem CN.na3 {Z : State} {h : Heap} {n0 : Nat} {c : Addr} {A : Nat → Addr} {ax : Addr} {opn cnt its : Int32} {st la tg pr ga xs : List Value} (C : CN Z h n0 c A ax opn cnt its st la tg pr ga xs) : n0 ≤ A 3 := by
  obtain ⟨O, E, ⟨o0, o1, o2, o3, o4, o5, o6, o7, o8, o9, o10, o11, o12, o13⟩, D, ⟨k0, B0⟩, ⟨k1, B1⟩, ⟨k2, B2⟩, ⟨k3, B3⟩, ⟨k4, B4⟩, ⟨k5, w5, l5, B5⟩, ⟨k6, w6, l6, B6⟩, ⟨k7, w7, l7, B7⟩, ⟨k8, w8, l8, B8⟩, ⟨kx, BX⟩⟩ := C
  omega
theorem CN.a3 {Z : State} {h : Heap} {n0 : Nat} {c : Addr} {A : Nat → Addr} {ax : Addr} {opn cnt its : Int32} {st la tg pr ga xs : List Value} (C : CN Z h n0 c A ax opn cnt its st la tg pr ga xs) : ∃ k, Ar Z h (A 3) .double k pr := C.2.2.2.2.2.2.2.1
theorem CN.na4 {Z : State} {h : Heap} {n0 : Nat} {c : Addr} {A : Nat → Addr} {ax : Addr} {opn cnt its : Int32} {st la tg pr ga xs : List Value} (C : CN Z h n0 c A ax opn cnt its st la tg pr ga xs) : n0 ≤ A 4 := by
  obtain ⟨O, E, ⟨o0, o1, o2, o3, o4, o5, o6, o7, o8, o9, o10, o11, o12, o13⟩, D, ⟨k0, B0⟩, ⟨k1, B1⟩, ⟨k2, B2⟩, ⟨k3, B3⟩, ⟨k4, B4⟩, ⟨k5, w5, l5, B5⟩, ⟨k6, w6, l6, B6⟩, ⟨k7, w7, l7, B7⟩, ⟨k8, w8, l8, B8⟩, ⟨kx, BX⟩⟩ := C
  omega
theorem CN.a4 {Z : State} {h : Heap} {n0 : Nat} {c : Addr} {A : Nat → Addr} {ax : Addr} {opn cnt its : Int32} {st la tg pr ga xs : List Value} (C : CN Z h n0 c A ax opn cnt its st la tg pr ga xs) : ∃ k, Ar Z h (A 4) .double k ga := C.2.2.2.2.2.2.2.2.1
theorem CN.na5 {Z : State} {h : Heap} {n0 : Nat} {c : Addr} {A : Nat → Addr} {ax : Addr} {opn cnt its : Int32} {st la tg pr ga xs : List Value} (C : CN Z h n0 c A ax opn cnt its st la tg pr ga xs) : n0 ≤ A 5 := by
  obtain ⟨O, E, ⟨o0, o1, o2, o3, o4, o5, o6, o7, o8, o9, o10, o11, o12, o13⟩, D, ⟨k0, B0⟩, ⟨k1, B1⟩, ⟨k2, B2⟩, ⟨k3, B3⟩, ⟨k4, B4⟩, ⟨k5, w5, l5, B5⟩, ⟨k6, w6, l6, B6⟩, ⟨k7, w7, l7, B7⟩, ⟨k8, w8, l8, B8⟩, ⟨kx, BX⟩⟩ := C
  omega
theorem CN.a5 {Z : State} {h : Heap} {n0 : Nat} {c : Addr} {A : Nat → Addr} {ax : Addr} {opn cnt its : Int32} {st la tg pr ga xs : List Value} (C : CN Z h n0 c A ax opn cnt its st la tg pr ga xs) : ∃ k vs, vs.length = 2 ∧ Ar Z h (A 5) .double k vs := C.2.2.2.2.2.2.2.2.2.1
theorem CN.na6 {Z : State} {h : Heap} {n0 : Nat} {c : Addr} {A : Nat → Addr} {ax : Addr} {opn cnt its : Int32} {st la tg pr ga xs : List Value} (C : CN Z h n0 c A ax opn cnt its st la tg pr ga xs) : n0 ≤ A 6 := by
  obtain ⟨O, E, ⟨o0, o1, o2, o3, o4, o5, o6, o7, o8, o9, o10, o11, o12, o13⟩, D, ⟨k0, B0⟩, ⟨k1, B1⟩, ⟨k2, B2⟩, ⟨k3, B3⟩, ⟨k4, B4⟩, ⟨k5, w5, l5, B5⟩, ⟨k6, w6, l6, B6⟩, ⟨k7, w7, l7, B7⟩, ⟨k8, w8, l8, B8⟩, ⟨kx, BX⟩⟩ := C
  omega
theorem CN.a6 {Z : State} {h : Heap} {n0 : Nat} {c : Addr} {A : Nat → Addr} {ax : Addr} {opn cnt its : Int32} {st la tg pr ga xs : List Value} (C : CN Z h n0 c A ax opn cnt its st la tg pr ga xs) : ∃ k vs, vs.length = 2 ∧ Ar Z h (A 6) .double k vs := C.2.2.2.2.2.2.2.2.2.2.1
theorem CN.na7 {Z : State} {h : Heap} {n0 : Nat} {c : Addr} {A : Nat → Addr} {ax : Addr} {opn cnt its : Int32} {st la tg pr ga xs : List Value} (C : CN Z h n0 c A ax opn cnt its st la tg pr ga xs) : n0 ≤ A 7 := by
  obtain ⟨O, E, ⟨o0, o1, o2, o3, o4, o5, o6, o7, o8, o9, o10, o11, o12, o13⟩, D, ⟨k0, B0⟩, ⟨k1, B1⟩, ⟨k2, B2⟩, ⟨k3, B3⟩, ⟨k4, B4⟩, ⟨k5, w5, l5, B5⟩, ⟨k6, w6, l6, B6⟩, ⟨k7, w7, l7, B7⟩, ⟨k8, w8, l8, B8⟩, ⟨kx, BX⟩⟩ := C
  omega
theorem CN.a7 {Z : State} {h : Heap} {n0 : Nat} {c : Addr} {A : Nat → Addr} {ax : Addr} {opn cnt its : Int32} {st la tg pr ga xs : List Value} (C : CN Z h n0 c A ax opn cnt its st la tg pr ga xs) : ∃ k vs, vs.length = 2 ∧ Ar Z h (A 7) .double k vs := C.2.2.2.2.2.2.2.2.2.2.2.1
theorem CN.na8 {Z : State} {h : Heap} {n0 : Nat} {c : Addr} {A : Nat → Addr} {ax : Addr} {opn cnt its : Int32} {st la tg pr ga xs : List Value} (C : CN Z h n0 c A ax opn cnt its st la tg pr ga xs) : n0 ≤ A 8 := by
  obtain ⟨O, E, ⟨o0, o1, o2, o3, o4, o5, o6, o7, o8, o9, o10, o11, o12, o13⟩, D, ⟨k0, B0⟩, ⟨k1, B1⟩, ⟨k2, B2⟩, ⟨k3, B3⟩, ⟨k4, B4⟩, ⟨k5, w5, l5, B5⟩, ⟨k6, w6, l6, B6⟩, ⟨k7, w7, l7, B7⟩, ⟨k8, w8, l8, B8⟩, ⟨kx, BX⟩⟩ := C
  omega
theorem CN.a8 {Z : State} {h : Heap} {n0 : Nat} {c : Addr} {A : Nat → Addr} {ax : Addr} {opn cnt its : Int32} {st la tg pr ga xs : List Value} (C : CN Z h n0 c A ax opn cnt its st la tg pr ga xs) : ∃ k vs, vs.length = 2 ∧ Ar Z h (A 8) .double k vs := C.2.2.2.2.2.2.2.2.2.2.2.2.1
theorem CN.ax {Z : State} {h : Heap} {n0 : Nat} {c : Addr} {A : Nat → Addr} {ax : Addr} {opn cnt its : Int32} {st la tg pr ga xs : List Value} (C : CN Z h n0 c A ax opn cnt its st la tg pr ga xs) : ∃ k, Ar Z h ax .double k xs := C.2.2.2.2.2.2.2.2.2.2.2.2.2
theorem CN.w0 {Z : State} {h h' : Heap} {n0 : Nat} {c : Addr} {A : Nat → Addr} {ax : Addr} {opn cnt its : Int32} {st la tg pr ga xs : List Value} {j : Nat} {v : Value} (C : CN Z h n0 c A ax opn cnt its st la tg pr ga xs) (W : Wr h h' (A 0) j v) : CN Z h' n0 c A ax opn cnt its (st.set j v) la tg pr ga xs := by
  obtain ⟨O, E, ⟨o0, o1, o2, o3, o4, o5, o6, o7, o8, o9, o10, o11, o12, o13⟩, D, ⟨k0, B0⟩, ⟨k1, B1⟩, ⟨k2, B2⟩, ⟨k3, B3⟩, ⟨k4, B4⟩, ⟨k5, w5, l5, B5⟩, ⟨k6, w6, l6, B6⟩, ⟨k7, w7, l7, B7⟩, ⟨k8, w8, l8, B8⟩, ⟨kx, BX⟩⟩ := C
  exact ⟨O.wr W (by omega), E.wr W, ⟨o0, o1, o2, o3, o4, o5, o6, o7, o8, o9, o10, o11, o12, o13⟩, D.oth W (neN (by omega)), ⟨k0, B0.set W⟩, ⟨k1, B1.other W (neN (by omega))⟩, ⟨k2, B2.other W (neN (by omega))⟩, ⟨k3, B3.other W (neN (by omega))⟩, ⟨k4, B4.other W (neN (by omega))⟩, ⟨k5, w5, l5, B5.other W (neN (by omega))⟩, ⟨k6, w6, l6, B6.other W (neN (by omega))⟩, ⟨k7, w7, l7, B7.other W (neN (by omega))⟩, ⟨k8, w8, l8, B8.other W (neN (by omega))⟩, ⟨kx, BX.other W (neN (by omega))⟩⟩
theorem CN.w1 {Z : State} {h h' : Heap} {n0 : Nat} {c : Addr} {A : Nat → Addr} {ax : Addr} {opn cnt its : Int32} {st la tg pr ga xs : List Value} {j : Nat} {v : Value} (C : CN Z h n0 c A ax opn cnt its st la tg pr ga xs) (W : Wr h h' (A 1) j v) : CN Z h' n0 c A ax opn cnt its st (la.set j v) tg pr ga xs := by
  obtain ⟨O, E, ⟨o0, o1, o2, o3, o4, o5, o6, o7, o8, o9, o10, o11, o12, o13⟩, D, ⟨k0, B0⟩, ⟨k1, B1⟩, ⟨k2, B2⟩, ⟨k3, B3⟩, ⟨k4, B4⟩, ⟨k5, w5, l5, B5⟩, ⟨k6, w6, l6, B6⟩, ⟨k7, w7, l7, B7⟩, ⟨k8, w8, l8, B8⟩, ⟨kx, BX⟩⟩ := C
  exact ⟨O.wr W (by omega), E.wr W, ⟨o0, o1, o2, o3, o4, o5, o6, o7, o8, o9, o10, o11, o12, o13⟩, D.oth W (neN (by omega)), ⟨k0, B0.other W (neN (by omega))⟩, ⟨k1, B1.set W⟩, ⟨k2, B2.other W (neN (by omega))⟩, ⟨k3, B3.other W (neN (by omega))⟩, ⟨k4, B4.other W (neN (by omega))⟩, ⟨k5, w5, l5, B5.other W (neN (by omega))⟩, ⟨k6, w6, l6, B6.other W (neN (by omega))⟩, ⟨k7, w7, l7, B7.other W (neN (by omega))⟩, ⟨k8, w8, l8, B8.other W (neN (by omega))⟩, ⟨kx, BX.other W (neN (by omega))⟩⟩
theorem CN.w2 {Z : State} {h h' : Heap} {n0 : Nat} {c : Addr} {A : Nat → Addr} {ax : Addr} {opn cnt its : Int32} {st la tg pr ga xs : List Value} {j : Nat} {v : Value} (C : CN Z h n0 c A ax opn cnt its st la tg pr ga xs) (W : Wr h h' (A 2) j v) : CN Z h' n0 c A ax opn cnt its st la (tg.set j v) pr ga xs := by
  obtain ⟨O, E, ⟨o0, o1, o2, o3, o4, o5, o6, o7, o8, o9, o10, o11, o12, o13⟩, D, ⟨k0, B0⟩, ⟨k1, B1⟩, ⟨k2, B2⟩, ⟨k3, B3⟩, ⟨k4, B4⟩, ⟨k5, w5, l5, B5⟩, ⟨k6, w6, l6, B6⟩, ⟨k7, w7, l7, B7⟩, ⟨k8, w8, l8, B8⟩, ⟨kx, BX⟩⟩ := C
  exact ⟨O.wr W (by omega), E.wr W, ⟨o0, o1, o2, o3, o4, o5, o6, o7, o8, o9, o10, o11, o12, o13⟩, D.oth W (neN (by omega)), ⟨k0, B0.other W (neN (by omega))⟩, ⟨k1, B1.other W (neN (by omega))⟩, ⟨k2, B2.set W⟩, ⟨k3, B3.other W (neN (by omega))⟩, ⟨k4, B4.other W (neN (by omega))⟩, ⟨k5, w5, l5, B5.other W (neN (by omega))⟩, ⟨k6, w6, l6, B6.other W (neN (by omega))⟩, ⟨k7, w7, l7, B7.other W (neN (by omega))⟩, ⟨k8, w8, l8, B8.other W (neN (by omega))⟩, ⟨kx, BX.other W (neN (by omega))⟩⟩
theorem CN.w3 {Z : State} {h h' : Heap} {n0 : Nat} {c : Addr} {A : Nat → Addr} {ax : Addr} {opn cnt its : Int32} {st la tg pr ga xs : List Value} {j : Nat} {v : Value} (C : CN Z h n0 c A ax opn cnt its st la tg pr ga xs) (W : Wr h h' (A 3) j v) : CN Z h' n0 c A ax opn cnt its st la tg (pr.set j v) ga xs := by
  obtain ⟨O, E, ⟨o0, o1, o2, o3, o4, o5, o6, o7, o8, o9, o10, o11, o12, o13⟩, D, ⟨k0, B0⟩, ⟨k1, B1⟩, ⟨k2, B2⟩, ⟨k3, B3⟩, ⟨k4, B4⟩, ⟨k5, w5, l5, B5⟩, ⟨k6, w6, l6, B6⟩, ⟨k7, w7, l7, B7⟩, ⟨k8, w8, l8, B8⟩, ⟨kx, BX⟩⟩ := C
  exact ⟨O.wr W (by omega), E.wr W, ⟨o0, o1, o2, o3, o4, o5, o6, o7, o8, o9, o10, o11, o12, o13⟩, D.oth W (neN (by omega)), ⟨k0, B0.other W (neN (by omega))⟩, ⟨k1, B1.other W (neN (by omega))⟩, ⟨k2, B2.other W (neN (by omega))⟩, ⟨k3, B3.set W⟩, ⟨k4, B4.other W (neN (by omega))⟩, ⟨k5, w5, l5, B5.other W (neN (by omega))⟩, ⟨k6, w6, l6, B6.other W (neN (by omega))⟩, ⟨k7, w7, l7, B7.other W (neN (by omega))⟩, ⟨k8, w8, l8, B8.other W (neN (by omega))⟩, ⟨kx, BX.other W (neN (by omega))⟩⟩
theorem CN.w4 {Z : State} {h h' : Heap} {n0 : Nat} {c : Addr} {A : Nat → Addr} {ax : Addr} {opn cnt its : Int32} {st la tg pr ga xs : List Value} {j : Nat} {v : Value} (C : CN Z h n0 c A ax opn cnt its st la tg pr ga xs) (W : Wr h h' (A 4) j v) : CN Z h' n0 c A ax opn cnt its st la tg pr (ga.set j v) xs := by
  obtain ⟨O, E, ⟨o0, o1, o2, o3, o4, o5, o6, o7, o8, o9, o10, o11, o12, o13⟩, D, ⟨k0, B0⟩, ⟨k1, B1⟩, ⟨k2, B2⟩, ⟨k3, B3⟩, ⟨k4, B4⟩, ⟨k5, w5, l5, B5⟩, ⟨k6, w6, l6, B6⟩, ⟨k7, w7, l7, B7⟩, ⟨k8, w8, l8, B8⟩, ⟨kx, BX⟩⟩ := C
  exact ⟨O.wr W (by omega), E.wr W, ⟨o0, o1, o2, o3, o4, o5, o6, o7, o8, o9, o10, o11, o12, o13⟩, D.oth W (neN (by omega)), ⟨k0, B0.other W (neN (by omega))⟩, ⟨k1, B1.other W (neN (by omega))⟩, ⟨k2, B2.other W (neN (by omega))⟩, ⟨k3, B3.other W (neN (by omega))⟩, ⟨k4, B4.set W⟩, ⟨k5, w5, l5, B5.other W (neN (by omega))⟩, ⟨k6, w6, l6, B6.other W (neN (by omega))⟩, ⟨k7, w7, l7, B7.other W (neN (by omega))⟩, ⟨k8, w8, l8, B8.other W (neN (by omega))⟩, ⟨kx, BX.other W (neN (by omega))⟩⟩
theorem CN.w5 {Z : State} {h h' : Heap} {n0 : Nat} {c : Addr} {A : Nat → Addr} {ax : Addr} {opn cnt its : Int32} {st la tg pr ga xs : List Value} {j : Nat} {v : Value} (C : CN Z h n0 c A ax opn cnt its st la tg pr ga xs) (W : Wr h h' (A 5) j v) : CN Z h' n0 c A ax opn cnt its st la tg pr ga xs := by
  obtain ⟨O, E, ⟨o0, o1, o2, o3, o4, o5, o6, o7, o8, o9, o10, o11, o12, o13⟩, D, ⟨k0, B0⟩, ⟨k1, B1⟩, ⟨k2, B2⟩, ⟨k3, B3⟩, ⟨k4, B4⟩, ⟨k5, w5, l5, B5⟩, ⟨k6, w6, l6, B6⟩, ⟨k7, w7, l7, B7⟩, ⟨k8, w8, l8, B8⟩, ⟨kx, BX⟩⟩ := C
  exact ⟨O.wr W (by omega), E.wr W, ⟨o0, o1, o2, o3, o4, o5, o6, o7, o8, o9, o10, o11, o12, o13⟩, D.oth W (neN (by omega)), ⟨k0, B0.other W (neN (by omega))⟩, ⟨k1, B1.other W (neN (by omega))⟩, ⟨k2, B2.other W (neN (by omega))⟩, ⟨k3, B3.other W (neN (by omega))⟩, ⟨k4, B4.other W (neN (by omega))⟩, ⟨k5, _, by rw [List.length_set]; exact l5, B5.set W⟩, ⟨k6, w6, l6, B6.other W (neN (by omega))⟩, ⟨k7, w7, l7, B7.other W (neN (by omega))⟩, ⟨k8, w8, l8, B8.other W (neN (by omega))⟩, ⟨kx, BX.other W (neN (by omega))⟩⟩
theorem CN.w6 {Z : State} {h h' : Heap} {n0 : Nat} {c : Addr} {A : Nat → Addr} {ax : Addr} {opn cnt its : Int32} {st la tg pr ga xs : List Value} {j : Nat} {v : Value} (C : CN Z h n0 c A ax opn cnt its st la tg pr ga xs) (W : Wr h h' (A 6) j v) : CN Z h' n0 c A ax opn cnt its st la tg pr ga xs := by
  obtain ⟨O, E, ⟨o0, o1, o2, o3, o4, o5, o6, o7, o8, o9, o10, o11, o12, o13⟩, D, ⟨k0, B0⟩, ⟨k1, B1⟩, ⟨k2, B2⟩, ⟨k3, B3⟩, ⟨k4, B4⟩, ⟨k5, w5, l5, B5⟩, ⟨k6, w6, l6, B6⟩, ⟨k7, w7, l7, B7⟩, ⟨k8, w8, l8, B8⟩, ⟨kx, BX⟩⟩ := C
  exact ⟨O.wr W (by omega), E.wr W, ⟨o0, o1, o2, o3, o4, o5, o6, o7, o8, o9, o10, o11, o12, o13⟩, D.oth W (neN (by omega)), ⟨k0, B0.other W (neN (by omega))⟩, ⟨k1, B1.other W (neN (by omega))⟩, ⟨k2, B2.other W (neN (by omega))⟩, ⟨k3, B3.other W (neN (by omega))⟩, ⟨k4, B4.other W (neN (by omega))⟩, ⟨k5, w5, l5, B5.other W (neN (by omega))⟩, ⟨k6, _, by rw [List.length_set]; exact l6, B6.set W⟩, ⟨k7, w7, l7, B7.other W (neN (by omega))⟩, ⟨k8, w8, l8, B8.other W (neN (by omega))⟩, ⟨kx, BX.other W (neN (by omega))⟩⟩
theorem CN.w7 {Z : State} {h h' : Heap} {n0 : Nat} {c : Addr} {A : Nat → Addr} {ax : Addr} {opn cnt its : Int32} {st la tg pr ga xs : List Value} {j : Nat} {v : Value} (C : CN Z h n0 c A ax opn cnt its st la tg pr ga xs) (W : Wr h h' (A 7) j v) : CN Z h' n0 c A ax opn cnt its st la tg pr ga xs := by
  obtain ⟨O, E, ⟨o0, o1, o2, o3, o4, o5, o6, o7, o8, o9, o10, o11, o12, o13⟩, D, ⟨k0, B0⟩, ⟨k1, B1⟩, ⟨k2, B2⟩, ⟨k3, B3⟩, ⟨k4, B4⟩, ⟨k5, w5, l5, B5⟩, ⟨k6, w6, l6, B6⟩, ⟨k7, w7, l7, B7⟩, ⟨k8, w8, l8, B8⟩, ⟨kx, BX⟩⟩ := C
  exact ⟨O.wr W (by omega), E.wr W, ⟨o0, o1, o2, o3, o4, o5, o6, o7, o8, o9, o10, o11, o12, o13⟩, D.oth W (neN (by omega)), ⟨k0, B0.other W (neN (by omega))⟩, ⟨k1, B1.other W (neN (by omega))⟩, ⟨k2, B2.other W (neN (by omega))⟩, ⟨k3, B3.other W (neN (by omega))⟩, ⟨k4, B4.other W (neN (by omega))⟩, ⟨k5, w5, l5, B5.other W (neN (by omega))⟩, ⟨k6, w6, l6, B6.other W (neN (by omega))⟩, ⟨k7, _, by rw [List.length_set]; exact l7, B7.set W⟩, ⟨k8, w8, l8, B8.other W (neN (by omega))⟩, ⟨kx, BX.other W (neN (by omega))⟩⟩
theorem CN.w8 {Z : State} {h h' : Heap} {n0 : Nat} {c : Addr} {A : Nat → Addr} {ax : Addr} {opn cnt its : Int32} {st la tg pr ga xs : List Value} {j : Nat} {v : Value} (C : CN Z h n0 c A ax opn cnt its st la tg pr ga xs) (W : Wr h h' (A 8) j v) : CN Z h' n0 c A ax opn cnt its st la tg pr ga xs := by
  obtain ⟨O, E, ⟨o0, o1, o2, o3, o4, o5, o6, o7, o8, o9, o10, o11, o12, o13⟩, D, ⟨k0, B0⟩, ⟨k1, B1⟩, ⟨k2, B2⟩, ⟨k3, B3⟩, ⟨k4, B4⟩, ⟨k5, w5, l5, B5⟩, ⟨k6, w6, l6, B6⟩, ⟨k7, w7, l7, B7⟩, ⟨k8, w8, l8, B8⟩, ⟨kx, BX⟩⟩ := C
  exact ⟨O.wr W (by omega), E.wr W, ⟨o0, o1, o2, o3, o4, o5, o6, o7, o8, o9, o10, o11, o12, o13⟩, D.oth W (neN (by omega)), ⟨k0, B0.other W (neN (by omega))⟩, ⟨k1, B1.other W (neN (by omega))⟩, ⟨k2, B2.other W (neN (by omega))⟩, ⟨k3, B3.other W (neN (by omega))⟩, ⟨k4, B4.other W (neN (by omega))⟩, ⟨k5, w5, l5, B5.other W (neN (by omega))⟩, ⟨k6, w6, l6, B6.other W (neN (by omega))⟩, ⟨k7, w7, l7, B7.other W (neN (by omega))⟩, ⟨k8, _, by rw [List.length_set]; exact l8, B8.set W⟩, ⟨kx, BX.other W (neN (by omega))⟩⟩
theorem CN.w_open {Z : State} {h h' : Heap} {n0 : Nat} {c : Addr} {A : Nat → Addr} {ax : Addr} {opn cnt its : Int32} {st la tg pr ga xs : List Value} {a0 : Array Value} {x : Int32} (hw : Hw a0 Z) (C : CN Z h n0 c A ax opn cnt its st la tg pr ga xs) (W : Wr h h' c (Jvm.RoadKit.slotOf Z ACN "open" "I") (.int x)) : CN Z h' n0 c A ax x cnt its st la tg pr ga xs := by
  obtain ⟨O, E, ⟨o0, o1, o2, o3, o4, o5, o6, o7, o8, o9, o10, o11, o12, o13⟩, D, ⟨k0, B0⟩, ⟨k1, B1⟩, ⟨k2, B2⟩, ⟨k3, B3⟩, ⟨k4, B4⟩, ⟨k5, w5, l5, B5⟩, ⟨k6, w6, l6, B6⟩, ⟨k7, w7, l7, B7⟩, ⟨k8, w8, l8, B8⟩, ⟨kx, BX⟩⟩ := C
  exact ⟨O.wr W (by omega), E.wr W, ⟨o0, o1, o2, o3, o4, o5, o6, o7, o8, o9, o10, o11, o12, o13⟩, D.put_open hw W, ⟨k0, B0.other W (neN (by omega))⟩, ⟨k1, B1.other W (neN (by omega))⟩, ⟨k2, B2.other W (neN (by omega))⟩, ⟨k3, B3.other W (neN (by omega))⟩, ⟨k4, B4.other W (neN (by omega))⟩, ⟨k5, w5, l5, B5.other W (neN (by omega))⟩, ⟨k6, w6, l6, B6.other W (neN (by omega))⟩, ⟨k7, w7, l7, B7.other W (neN (by omega))⟩, ⟨k8, w8, l8, B8.other W (neN (by omega))⟩, ⟨kx, BX.other W (neN (by omega))⟩⟩
theorem CN.w_count {Z : State} {h h' : Heap} {n0 : Nat} {c : Addr} {A : Nat → Addr} {ax : Addr} {opn cnt its : Int32} {st la tg pr ga xs : List Value} {a0 : Array Value} {x : Int32} (hw : Hw a0 Z) (C : CN Z h n0 c A ax opn cnt its st la tg pr ga xs) (W : Wr h h' c (Jvm.RoadKit.slotOf Z ACN "count" "I") (.int x)) : CN Z h' n0 c A ax opn x its st la tg pr ga xs := by
  obtain ⟨O, E, ⟨o0, o1, o2, o3, o4, o5, o6, o7, o8, o9, o10, o11, o12, o13⟩, D, ⟨k0, B0⟩, ⟨k1, B1⟩, ⟨k2, B2⟩, ⟨k3, B3⟩, ⟨k4, B4⟩, ⟨k5, w5, l5, B5⟩, ⟨k6, w6, l6, B6⟩, ⟨k7, w7, l7, B7⟩, ⟨k8, w8, l8, B8⟩, ⟨kx, BX⟩⟩ := C
  exact ⟨O.wr W (by omega), E.wr W, ⟨o0, o1, o2, o3, o4, o5, o6, o7, o8, o9, o10, o11, o12, o13⟩, D.put_count hw W, ⟨k0, B0.other W (neN (by omega))⟩, ⟨k1, B1.other W (neN (by omega))⟩, ⟨k2, B2.other W (neN (by omega))⟩, ⟨k3, B3.other W (neN (by omega))⟩, ⟨k4, B4.other W (neN (by omega))⟩, ⟨k5, w5, l5, B5.other W (neN (by omega))⟩, ⟨k6, w6, l6, B6.other W (neN (by omega))⟩, ⟨k7, w7, l7, B7.other W (neN (by omega))⟩, ⟨k8, w8, l8, B8.other W (neN (by omega))⟩, ⟨kx, BX.other W (neN (by omega))⟩⟩
theorem CN.w_iterations {Z : State} {h h' : Heap} {n0 : Nat} {c : Addr} {A : Nat → Addr} {ax : Addr} {opn cnt its : Int32} {st la tg pr ga xs : List Value} {a0 : Array Value} {x : Int32} (hw : Hw a0 Z) (C : CN Z h n0 c A ax opn cnt its st la tg pr ga xs) (W : Wr h h' c (Jvm.RoadKit.slotOf Z ACN "iterations" "I") (.int x)) : CN Z h' n0 c A ax opn cnt x st la tg pr ga xs := by
  obtain ⟨O, E, ⟨o0, o1, o2, o3, o4, o5, o6, o7, o8, o9, o10, o11, o12, o13⟩, D, ⟨k0, B0⟩, ⟨k1, B1⟩, ⟨k2, B2⟩, ⟨k3, B3⟩, ⟨k4, B4⟩, ⟨k5, w5, l5, B5⟩, ⟨k6, w6, l6, B6⟩, ⟨k7, w7, l7, B7⟩, ⟨k8, w8, l8, B8⟩, ⟨kx, BX⟩⟩ := C
  exact ⟨O.wr W (by omega), E.wr W, ⟨o0, o1, o2, o3, o4, o5, o6, o7, o8, o9, o10, o11, o12, o13⟩, D.put_iterations hw W, ⟨k0, B0.other W (neN (by omega))⟩, ⟨k1, B1.other W (neN (by omega))⟩, ⟨k2, B2.other W (neN (by omega))⟩, ⟨k3, B3.other W (neN (by omega))⟩, ⟨k4, B4.other W (neN (by omega))⟩, ⟨k5, w5, l5, B5.other W (neN (by omega))⟩, ⟨k6, w6, l6, B6.other W (neN (by omega))⟩, ⟨k7, w7, l7, B7.other W (neN (by omega))⟩, ⟨k8, w8, l8, B8.other W (neN (by omega))⟩, ⟨kx, BX.other W (neN (by omega))⟩⟩
theorem sx_32 : Sx 1 (4584664420663164928 : UInt64) := sx_of (by decide +kernel)
theorem fin17 : ∀ k : Fin 17, sxb (2 * (Int32.ofNat k.val).toInt) (FP.ddiv (FP.i2d (Int32.ofNat k.val)) (4625196817309499392 : UInt64)) = true := by decide +kernel
theorem sx_p {e : Int32} (h : 0 ≤ e.toInt ∧ e.toInt ≤ 16) : Sx (2 * e.toInt) (FP.ddiv (FP.i2d e) (4625196817309499392 : UInt64)) := by
  have n : ¬ e < 0 := nonneg_iff.mpr h.1
  have q : e = Int32.ofNat e.toNatClampNeg := (back32 n).1.symm
  have r : e.toNatClampNeg < 17 := by show e.toInt.toNat < 17; omega
  have w := fin17 ⟨e.toNatClampNeg, r⟩
  rw [← q] at w
  exact sx_of w
theorem cmpI_lt {i j : Int} (h : i < j) : cmpI i j = -1 := by unfold cmpI; rw [if_pos h]
theorem cmpI_eq {i j : Int} (h : i = j) : cmpI i j = 0 := by unfold cmpI; rw [if_neg (by omega), if_pos h]
theorem cmpI_gt {i j : Int} (h : j < i) : cmpI i j = 1 := by unfold cmpI; rw [if_neg (by omega), if_neg (by omega)]
set_option maxRecDepth 65536 in
set_option maxHeartbeats 40000000 in
theorem ini (l : Launch) (Z : State) (a0 : Array Value) (hw : Hw a0 Z) (n0 : Nat) (h : Heap) (O : Old Z n0 h) (c : Addr) (nc : n0 ≤ c) (E : Exa Z h c ACN) (D : FD Z h c (.int 0) (.int 0) .null .null .null .null .null .null .null .null .null .null .null .null (.int 0) (.int 0)) (ax : Addr) (hax : @LT.lt Nat instLTNat ax c) (kx : ClassId) (x0 x1 : UInt64) (BX : Ar Z h ax .double kx [.double x0, .double x1]) {Q : Option Value → Heap → Prop} (hQ : ∀ h' A, CN Z h' n0 c A ax (-1 : Int32) (0 : Int32) (0 : Int32) [(.int (0 : Int32)), (.int (0 : Int32)), (.int (0 : Int32))] [(.int (0 : Int32)), (.int (0 : Int32))] [(.int (0 : Int32)), (.int (0 : Int32))] [(.double 0), (.double 0)] [(.double 0), (.double 0)] [(.double x0), (.double x1)] → Q none h') :
    Go l Z (⟨"com/example/nona/nona/solver/ApproximateChain", "<init>", "(II)V"⟩ : MethodName) prog_136_method_1_code 3 none ({ frames := 1, cells := 12, slots := 25, locals := 13 } : Room) n0 Q h 0 0 0 #[.val (.ref c), .val (.int (2 : Int32)), .val (.int (2 : Int32))] [] := by
  refine Go.aloadN d1_0 (q := 1) rfl rfl rfl ?_
  refine Go.initObj d1_1 (q := 4) rfl (w9 hw) (w10 hw) (w11 hw) rfl (by decide) rfl (by decide) ?_
  refine Go.aloadN d1_4 (q := 5) rfl rfl rfl ?_
  refine Go.iconst d1_5 (q := 6) rfl (x := ((-1) : Int32)) (by decide) ?_
  refine Go.putF d1_6 (q := 9) rfl (host := "") (Or.inl (w12 hw)) Via.refl D.open E (Or.inl (w13 hw)) (w4 hw) pTn rfl rfl nc ?_
  intro g1 Wg1
  have O1 := O.wr Wg1 nc
  have E1 := E.wr Wg1
  have D1 := D.put_open hw Wg1
  have BX1 := BX.other Wg1 (neN (by omega))
  refine Go.aloadN d1_9 (q := 10) rfl rfl rfl ?_
  refine Go.iloadN d1_10 (q := 11) rfl rfl ?_
  refine Go.putF d1_11 (q := 14) rfl (host := "") (Or.inl (w14 hw)) Via.refl D1.size E1 (Or.inr ⟨(w15 hw), rfl, rfl⟩) (w4 hw) pTn rfl rfl nc ?_
  intro g2 Wg2
  have O2 := O1.wr Wg2 nc
  have E2 := E1.wr Wg2
  have D2 := D1.put_size hw Wg2
  have BX2 := BX1.other Wg2 (neN (by omega))
  refine Go.aloadN d1_14 (q := 15) rfl rfl rfl ?_
  refine Go.iloadN d1_15 (q := 16) rfl rfl ?_
  refine Go.iconst d1_16 (q := 17) rfl (x := (1 : Int32)) (by decide) ?_
  refine Go.iadd d1_17 (q := 18) rfl ?_
  rw [show ((2 : Int32) + (1 : Int32)) = (3 : Int32) from rfl]
  refine Go.newarray (cap := 3) d1_18 (q := 20) rfl (w16 hw) (by decide) (by decide) (by decide) (by decide) (by decide) ?_
  intro i0 a0 k0 e0 X0 B0_0
  have q0 : @LT.lt Nat instLTNat c a0 := by rw [e0]; exact (E2).lt
  have O3 := O2.ext X0
  have E3 := E2.ext X0
  have D3 := D2.ext X0
  have BX3 := BX2.ext X0
  refine Go.putF d1_20 (q := 23) rfl (host := "") (Or.inl (w17 hw)) Via.refl D3.starts E3 (Or.inr ⟨(w18 hw), rfl, rfl⟩) (w4 hw) pTi rfl rfl nc ?_
  intro g3 Wg3
  have O4 := O3.wr Wg3 nc
  have E4 := E3.wr Wg3
  have D4 := D3.put_starts hw Wg3
  have B0_4 := B0_0.other Wg3 (neN (by omega))
  have BX4 := BX3.other Wg3 (neN (by omega))
  refine Go.aloadN d1_23 (q := 24) rfl rfl rfl ?_
  refine Go.iloadN d1_24 (q := 25) rfl rfl ?_
  refine Go.newarray (cap := 2) d1_25 (q := 27) rfl (w16 hw) (by decide) (by decide) (by decide) (by decide) (by decide) ?_
  intro i1 a1 k1 e1 X1 B1_0
  have q1 : @LT.lt Nat instLTNat a0 a1 := by rw [e1]; exact (B0_4).lt
  have O5 := O4.ext X1
  have E5 := E4.ext X1
  have D5 := D4.ext X1
  have B0_5 := B0_4.ext X1
  have BX5 := BX4.ext X1
  refine Go.putF d1_27 (q := 30) rfl (host := "") (Or.inl (w19 hw)) Via.refl D5.laters E5 (Or.inr ⟨(w20 hw), rfl, rfl⟩) (w4 hw) pTi rfl rfl nc ?_
  intro g4 Wg4
  have O6 := O5.wr Wg4 nc
  have E6 := E5.wr Wg4
  have D6 := D5.put_laters hw Wg4
  have B0_6 := B0_5.other Wg4 (neN (by omega))
  have B1_6 := B1_0.other Wg4 (neN (by omega))
  have BX6 := BX5.other Wg4 (neN (by omega))
  refine Go.aloadN d1_30 (q := 31) rfl rfl rfl ?_
  refine Go.iloadN d1_31 (q := 32) rfl rfl ?_
  refine Go.newarray (cap := 2) d1_32 (q := 34) rfl (w16 hw) (by decide) (by decide) (by decide) (by decide) (by decide) ?_
  intro i2 a2 k2 e2 X2 B2_0
  have q2 : @LT.lt Nat instLTNat a1 a2 := by rw [e2]; exact (B1_6).lt
  have O7 := O6.ext X2
  have E7 := E6.ext X2
  have D7 := D6.ext X2
  have B0_7 := B0_6.ext X2
  have B1_7 := B1_6.ext X2
  have BX7 := BX6.ext X2
  refine Go.putF d1_34 (q := 37) rfl (host := "") (Or.inl (w21 hw)) Via.refl D7.targets E7 (Or.inr ⟨(w22 hw), rfl, rfl⟩) (w4 hw) pTi rfl rfl nc ?_
  intro g5 Wg5
  have O8 := O7.wr Wg5 nc
  have E8 := E7.wr Wg5
  have D8 := D7.put_targets hw Wg5
  have B0_8 := B0_7.other Wg5 (neN (by omega))
  have B1_8 := B1_7.other Wg5 (neN (by omega))
  have B2_8 := B2_0.other Wg5 (neN (by omega))
  have BX8 := BX7.other Wg5 (neN (by omega))
  refine Go.aloadN d1_37 (q := 38) rfl rfl rfl ?_
  refine Go.iloadN d1_38 (q := 39) rfl rfl ?_
  refine Go.newarray (cap := 2) d1_39 (q := 41) rfl (w2 hw) (by decide) (by decide) (by decide) (by decide) (by decide) ?_
  intro i3 a3 k3 e3 X3 B3_0
  have q3 : @LT.lt Nat instLTNat a2 a3 := by rw [e3]; exact (B2_8).lt
  have O9 := O8.ext X3
  have E9 := E8.ext X3
  have D9 := D8.ext X3
  have B0_9 := B0_8.ext X3
  have B1_9 := B1_8.ext X3
  have B2_9 := B2_8.ext X3
  have BX9 := BX8.ext X3
  refine Go.putF d1_41 (q := 44) rfl (host := "") (Or.inl (w23 hw)) Via.refl D9.probabilities E9 (Or.inr ⟨(w24 hw), rfl, rfl⟩) (w4 hw) pTd rfl rfl nc ?_
  intro g6 Wg6
  have O10 := O9.wr Wg6 nc
  have E10 := E9.wr Wg6
  have D10 := D9.put_probabilities hw Wg6
  have B0_10 := B0_9.other Wg6 (neN (by omega))
  have B1_10 := B1_9.other Wg6 (neN (by omega))
  have B2_10 := B2_9.other Wg6 (neN (by omega))
  have B3_10 := B3_0.other Wg6 (neN (by omega))
  have BX10 := BX9.other Wg6 (neN (by omega))
  refine Go.aloadN d1_44 (q := 45) rfl rfl rfl ?_
  refine Go.iloadN d1_45 (q := 46) rfl rfl ?_
  refine Go.newarray (cap := 2) d1_46 (q := 48) rfl (w2 hw) (by decide) (by decide) (by decide) (by decide) (by decide) ?_
  intro i4 a4 k4 e4 X4 B4_0
  have q4 : @LT.lt Nat instLTNat a3 a4 := by rw [e4]; exact (B3_10).lt
  have O11 := O10.ext X4
  have E11 := E10.ext X4
  have D11 := D10.ext X4
  have B0_11 := B0_10.ext X4
  have B1_11 := B1_10.ext X4
  have B2_11 := B2_10.ext X4
  have B3_11 := B3_10.ext X4
  have BX11 := BX10.ext X4
  refine Go.putF d1_48 (q := 51) rfl (host := "") (Or.inl (w25 hw)) Via.refl D11.gains E11 (Or.inr ⟨(w26 hw), rfl, rfl⟩) (w4 hw) pTd rfl rfl nc ?_
  intro g7 Wg7
  have O12 := O11.wr Wg7 nc
  have E12 := E11.wr Wg7
  have D12 := D11.put_gains hw Wg7
  have B0_12 := B0_11.other Wg7 (neN (by omega))
  have B1_12 := B1_11.other Wg7 (neN (by omega))
  have B2_12 := B2_11.other Wg7 (neN (by omega))
  have B3_12 := B3_11.other Wg7 (neN (by omega))
  have B4_12 := B4_0.other Wg7 (neN (by omega))
  have BX12 := BX11.other Wg7 (neN (by omega))
  refine Go.aloadN d1_51 (q := 52) rfl rfl rfl ?_
  refine Go.iloadN d1_52 (q := 53) rfl rfl ?_
  refine Go.newarray (cap := 2) d1_53 (q := 55) rfl (w2 hw) (by decide) (by decide) (by decide) (by decide) (by decide) ?_
  intro i5 a5 k5 e5 X5 B5_0
  have q5 : @LT.lt Nat instLTNat a4 a5 := by rw [e5]; exact (B4_12).lt
  have O13 := O12.ext X5
  have E13 := E12.ext X5
  have D13 := D12.ext X5
  have B0_13 := B0_12.ext X5
  have B1_13 := B1_12.ext X5
  have B2_13 := B2_12.ext X5
  have B3_13 := B3_12.ext X5
  have B4_13 := B4_12.ext X5
  have BX13 := BX12.ext X5
  refine Go.putF d1_55 (q := 58) rfl (host := "") (Or.inl (w27 hw)) Via.refl D13.residual E13 (Or.inr ⟨(w28 hw), rfl, rfl⟩) (w4 hw) pTd rfl rfl nc ?_
  intro g8 Wg8
  have O14 := O13.wr Wg8 nc
  have E14 := E13.wr Wg8
  have D14 := D13.put_residual hw Wg8
  have B0_14 := B0_13.other Wg8 (neN (by omega))
  have B1_14 := B1_13.other Wg8 (neN (by omega))
  have B2_14 := B2_13.other Wg8 (neN (by omega))
  have B3_14 := B3_13.other Wg8 (neN (by omega))
  have B4_14 := B4_13.other Wg8 (neN (by omega))
  have B5_14 := B5_0.other Wg8 (neN (by omega))
  have BX14 := BX13.other Wg8 (neN (by omega))
  refine Go.aloadN d1_58 (q := 59) rfl rfl rfl ?_
  refine Go.iloadN d1_59 (q := 60) rfl rfl ?_
  refine Go.newarray (cap := 2) d1_60 (q := 62) rfl (w2 hw) (by decide) (by decide) (by decide) (by decide) (by decide) ?_
  intro i6 a6 k6 e6 X6 B6_0
  have q6 : @LT.lt Nat instLTNat a5 a6 := by rw [e6]; exact (B5_14).lt
  have O15 := O14.ext X6
  have E15 := E14.ext X6
  have D15 := D14.ext X6
  have B0_15 := B0_14.ext X6
  have B1_15 := B1_14.ext X6
  have B2_15 := B2_14.ext X6
  have B3_15 := B3_14.ext X6
  have B4_15 := B4_14.ext X6
  have B5_15 := B5_14.ext X6
  have BX15 := BX14.ext X6
  refine Go.putF d1_62 (q := 65) rfl (host := "") (Or.inl (w29 hw)) Via.refl D15.shadow E15 (Or.inr ⟨(w30 hw), rfl, rfl⟩) (w4 hw) pTd rfl rfl nc ?_
  intro g9 Wg9
  have O16 := O15.wr Wg9 nc
  have E16 := E15.wr Wg9
  have D16 := D15.put_shadow hw Wg9
  have B0_16 := B0_15.other Wg9 (neN (by omega))
  have B1_16 := B1_15.other Wg9 (neN (by omega))
  have B2_16 := B2_15.other Wg9 (neN (by omega))
  have B3_16 := B3_15.other Wg9 (neN (by omega))
  have B4_16 := B4_15.other Wg9 (neN (by omega))
  have B5_16 := B5_15.other Wg9 (neN (by omega))
  have B6_16 := B6_0.other Wg9 (neN (by omega))
  have BX16 := BX15.other Wg9 (neN (by omega))
  refine Go.aloadN d1_65 (q := 66) rfl rfl rfl ?_
  refine Go.iloadN d1_66 (q := 67) rfl rfl ?_
  refine Go.newarray (cap := 2) d1_67 (q := 69) rfl (w2 hw) (by decide) (by decide) (by decide) (by decide) (by decide) ?_
  intro i7 a7 k7 e7 X7 B7_0
  have q7 : @LT.lt Nat instLTNat a6 a7 := by rw [e7]; exact (B6_16).lt
  have O17 := O16.ext X7
  have E17 := E16.ext X7
  have D17 := D16.ext X7
  have B0_17 := B0_16.ext X7
  have B1_17 := B1_16.ext X7
  have B2_17 := B2_16.ext X7
  have B3_17 := B3_16.ext X7
  have B4_17 := B4_16.ext X7
  have B5_17 := B5_16.ext X7
  have B6_17 := B6_16.ext X7
  have BX17 := BX16.ext X7
  refine Go.putF d1_69 (q := 72) rfl (host := "") (Or.inl (w31 hw)) Via.refl D17.direction E17 (Or.inr ⟨(w32 hw), rfl, rfl⟩) (w4 hw) pTd rfl rfl nc ?_
  intro g10 Wg10
  have O18 := O17.wr Wg10 nc
  have E18 := E17.wr Wg10
  have D18 := D17.put_direction hw Wg10
  have B0_18 := B0_17.other Wg10 (neN (by omega))
  have B1_18 := B1_17.other Wg10 (neN (by omega))
  have B2_18 := B2_17.other Wg10 (neN (by omega))
  have B3_18 := B3_17.other Wg10 (neN (by omega))
  have B4_18 := B4_17.other Wg10 (neN (by omega))
  have B5_18 := B5_17.other Wg10 (neN (by omega))
  have B6_18 := B6_17.other Wg10 (neN (by omega))
  have B7_18 := B7_0.other Wg10 (neN (by omega))
  have BX18 := BX17.other Wg10 (neN (by omega))
  refine Go.aloadN d1_72 (q := 73) rfl rfl rfl ?_
  refine Go.iloadN d1_73 (q := 74) rfl rfl ?_
  refine Go.newarray (cap := 2) d1_74 (q := 76) rfl (w2 hw) (by decide) (by decide) (by decide) (by decide) (by decide) ?_
  intro i8 a8 k8 e8 X8 B8_0
  have q8 : @LT.lt Nat instLTNat a7 a8 := by rw [e8]; exact (B7_18).lt
  have O19 := O18.ext X8
  have E19 := E18.ext X8
  have D19 := D18.ext X8
  have B0_19 := B0_18.ext X8
  have B1_19 := B1_18.ext X8
  have B2_19 := B2_18.ext X8
  have B3_19 := B3_18.ext X8
  have B4_19 := B4_18.ext X8
  have B5_19 := B5_18.ext X8
  have B6_19 := B6_18.ext X8
  have B7_19 := B7_18.ext X8
  have BX19 := BX18.ext X8
  refine Go.putF d1_76 (q := 79) rfl (host := "") (Or.inl (w33 hw)) Via.refl D19.image E19 (Or.inr ⟨(w34 hw), rfl, rfl⟩) (w4 hw) pTd rfl rfl nc ?_
  intro g11 Wg11
  have O20 := O19.wr Wg11 nc
  have E20 := E19.wr Wg11
  have D20 := D19.put_image hw Wg11
  have B0_20 := B0_19.other Wg11 (neN (by omega))
  have B1_20 := B1_19.other Wg11 (neN (by omega))
  have B2_20 := B2_19.other Wg11 (neN (by omega))
  have B3_20 := B3_19.other Wg11 (neN (by omega))
  have B4_20 := B4_19.other Wg11 (neN (by omega))
  have B5_20 := B5_19.other Wg11 (neN (by omega))
  have B6_20 := B6_19.other Wg11 (neN (by omega))
  have B7_20 := B7_19.other Wg11 (neN (by omega))
  have B8_20 := B8_0.other Wg11 (neN (by omega))
  have BX20 := BX19.other Wg11 (neN (by omega))
  refine Go.aloadN d1_79 (q := 80) rfl rfl rfl ?_
  refine Go.iloadN d1_80 (q := 81) rfl rfl ?_
  refine Go.newarray (cap := 2) d1_81 (q := 83) rfl (w2 hw) (by decide) (by decide) (by decide) (by decide) (by decide) ?_
  intro i9 a9 k9 e9 X9 B9_0
  have q9 : @LT.lt Nat instLTNat a8 a9 := by rw [e9]; exact (B8_20).lt
  have O21 := O20.ext X9
  have E21 := E20.ext X9
  have D21 := D20.ext X9
  have B0_21 := B0_20.ext X9
  have B1_21 := B1_20.ext X9
  have B2_21 := B2_20.ext X9
  have B3_21 := B3_20.ext X9
  have B4_21 := B4_20.ext X9
  have B5_21 := B5_20.ext X9
  have B6_21 := B6_20.ext X9
  have B7_21 := B7_20.ext X9
  have B8_21 := B8_20.ext X9
  have BX21 := BX20.ext X9
  refine Go.putF d1_83 (q := 86) rfl (host := "") (Or.inl (w35 hw)) Via.refl D21.preconditioned E21 (Or.inr ⟨(w36 hw), rfl, rfl⟩) (w4 hw) pTd rfl rfl nc ?_
  intro g12 Wg12
  have O22 := O21.wr Wg12 nc
  have E22 := E21.wr Wg12
  have D22 := D21.put_preconditioned hw Wg12
  have B0_22 := B0_21.other Wg12 (neN (by omega))
  have B1_22 := B1_21.other Wg12 (neN (by omega))
  have B2_22 := B2_21.other Wg12 (neN (by omega))
  have B3_22 := B3_21.other Wg12 (neN (by omega))
  have B4_22 := B4_21.other Wg12 (neN (by omega))
  have B5_22 := B5_21.other Wg12 (neN (by omega))
  have B6_22 := B6_21.other Wg12 (neN (by omega))
  have B7_22 := B7_21.other Wg12 (neN (by omega))
  have B8_22 := B8_21.other Wg12 (neN (by omega))
  have B9_22 := B9_0.other Wg12 (neN (by omega))
  have BX22 := BX21.other Wg12 (neN (by omega))
  refine Go.aloadN d1_86 (q := 87) rfl rfl rfl ?_
  refine Go.iloadN d1_87 (q := 88) rfl rfl ?_
  refine Go.newarray (cap := 2) d1_88 (q := 90) rfl (w2 hw) (by decide) (by decide) (by decide) (by decide) (by decide) ?_
  intro i10 a10 k10 e10 X10 B10_0
  have q10 : @LT.lt Nat instLTNat a9 a10 := by rw [e10]; exact (B9_22).lt
  have O23 := O22.ext X10
  have E23 := E22.ext X10
  have D23 := D22.ext X10
  have B0_23 := B0_22.ext X10
  have B1_23 := B1_22.ext X10
  have B2_23 := B2_22.ext X10
  have B3_23 := B3_22.ext X10
  have B4_23 := B4_22.ext X10
  have B5_23 := B5_22.ext X10
  have B6_23 := B6_22.ext X10
  have B7_23 := B7_22.ext X10
  have B8_23 := B8_22.ext X10
  have B9_23 := B9_22.ext X10
  have BX23 := BX22.ext X10
  refine Go.putF d1_90 (q := 93) rfl (host := "") (Or.inl (w37 hw)) Via.refl D23.correction E23 (Or.inr ⟨(w38 hw), rfl, rfl⟩) (w4 hw) pTd rfl rfl nc ?_
  intro g13 Wg13
  have O24 := O23.wr Wg13 nc
  have E24 := E23.wr Wg13
  have D24 := D23.put_correction hw Wg13
  have B0_24 := B0_23.other Wg13 (neN (by omega))
  have B1_24 := B1_23.other Wg13 (neN (by omega))
  have B2_24 := B2_23.other Wg13 (neN (by omega))
  have B3_24 := B3_23.other Wg13 (neN (by omega))
  have B4_24 := B4_23.other Wg13 (neN (by omega))
  have B5_24 := B5_23.other Wg13 (neN (by omega))
  have B6_24 := B6_23.other Wg13 (neN (by omega))
  have B7_24 := B7_23.other Wg13 (neN (by omega))
  have B8_24 := B8_23.other Wg13 (neN (by omega))
  have B9_24 := B9_23.other Wg13 (neN (by omega))
  have B10_24 := B10_0.other Wg13 (neN (by omega))
  have BX24 := BX23.other Wg13 (neN (by omega))
  refine Go.aloadN d1_93 (q := 94) rfl rfl rfl ?_
  refine Go.iloadN d1_94 (q := 95) rfl rfl ?_
  refine Go.newarray (cap := 2) d1_95 (q := 97) rfl (w2 hw) (by decide) (by decide) (by decide) (by decide) (by decide) ?_
  intro i11 a11 k11 e11 X11 B11_0
  have q11 : @LT.lt Nat instLTNat a10 a11 := by rw [e11]; exact (B10_24).lt
  have O25 := O24.ext X11
  have E25 := E24.ext X11
  have D25 := D24.ext X11
  have B0_25 := B0_24.ext X11
  have B1_25 := B1_24.ext X11
  have B2_25 := B2_24.ext X11
  have B3_25 := B3_24.ext X11
  have B4_25 := B4_24.ext X11
  have B5_25 := B5_24.ext X11
  have B6_25 := B6_24.ext X11
  have B7_25 := B7_24.ext X11
  have B8_25 := B8_24.ext X11
  have B9_25 := B9_24.ext X11
  have B10_25 := B10_24.ext X11
  have BX25 := BX24.ext X11
  refine Go.putF d1_97 (q := 100) rfl (host := "") (Or.inl (w39 hw)) Via.refl D25.product E25 (Or.inr ⟨(w40 hw), rfl, rfl⟩) (w4 hw) pTd rfl rfl nc ?_
  intro g14 Wg14
  have O26 := O25.wr Wg14 nc
  have E26 := E25.wr Wg14
  have D26 := D25.put_product hw Wg14
  have B0_26 := B0_25.other Wg14 (neN (by omega))
  have B1_26 := B1_25.other Wg14 (neN (by omega))
  have B2_26 := B2_25.other Wg14 (neN (by omega))
  have B3_26 := B3_25.other Wg14 (neN (by omega))
  have B4_26 := B4_25.other Wg14 (neN (by omega))
  have B5_26 := B5_25.other Wg14 (neN (by omega))
  have B6_26 := B6_25.other Wg14 (neN (by omega))
  have B7_26 := B7_25.other Wg14 (neN (by omega))
  have B8_26 := B8_25.other Wg14 (neN (by omega))
  have B9_26 := B9_25.other Wg14 (neN (by omega))
  have B10_26 := B10_25.other Wg14 (neN (by omega))
  have B11_26 := B11_0.other Wg14 (neN (by omega))
  have BX26 := BX25.other Wg14 (neN (by omega))
  refine Go.vreturn d1_100 (by decide) (by decide) ?_
  exact hQ g14 (fun i => [a0, a1, a2, a3, a4, a5, a6, a7, a8, a9, a10, a11].getD i 0) ⟨O26, E26, ⟨nc, hax, q0, q1, q2, q3, q4, q5, q6, q7, q8, q9, q10, q11⟩, D26, ⟨k0, B0_26⟩, ⟨k1, B1_26⟩, ⟨k2, B2_26⟩, ⟨k3, B3_26⟩, ⟨k4, B4_26⟩, ⟨k5, _, rfl, B5_26⟩, ⟨k6, _, rfl, B6_26⟩, ⟨k7, _, rfl, B7_26⟩, ⟨k8, _, rfl, B8_26⟩, ⟨kx, BX26⟩⟩
set_option maxRecDepth 65536 in
set_option maxHeartbeats 40000000 in
theorem closeN (l : Launch) (Z : State) (a0 : Array Value) (hw : Hw a0 Z) (n0 : Nat) (h : Heap) {c : Addr} {A : Nat → Addr} {ax : Addr} {cn its s0 s1 s2 l0 l1 g0 g1 : Int32} {p0 p1 u0 u1 x0 x1 : UInt64}  (C0 : CN Z h n0 c A ax (-1 : Int32) cn its [(.int s0), (.int s1), (.int s2)] [(.int l0), (.int l1)] [(.int g0), (.int g1)] [(.double p0), (.double p1)] [(.double u0), (.double u1)] [(.double x0), (.double x1)]) {Q : Option Value → Heap → Prop} (hQ : Q none h) :
    Go l Z (⟨"com/example/nona/nona/solver/ApproximateChain", "close", "()V"⟩ : MethodName) prog_136_method_5_code 7 none ({ frames := 0, cells := 0, slots := 0, locals := 0 } : Room) n0 Q h 0 0 0 #[.val (.ref c), .unset, .unset, .unset, .unset, .unset, .unset] [] := by
  refine Go.aloadN d4_0 (q := 1) rfl rfl rfl ?_
  refine Go.getF d4_1 (q := 4) rfl (host := "") (Or.inl (w12 hw)) Via.refl C0.fd.open ?_
  refine Go.if_lt d4_4 (q := 128) (q' := 7) (by decide) rfl rfl (fun _ => ?_) (fun c_ => absurd (by decide) c_)
  refine Go.vreturn d4_128 (by decide) (by decide) ?_
  exact hQ
set_option maxRecDepth 65536 in
set_option maxHeartbeats 40000000 in
theorem close0_0 (l : Launch) (Z : State) (a0 : Array Value) (hw : Hw a0 Z) (n0 : Nat) (h : Heap) {c : Addr} {A : Nat → Addr} {ax : Addr} {its s1 s2 l0 l1 g0 g1 : Int32} {p0 p1 u0 u1 x0 x1 : UInt64} (t0 : ¬ g0 < 0) (t1 : ¬ g1 < 0) (C0 : CN Z h n0 c A ax (0 : Int32) (0 : Int32) its [(.int (0 : Int32)), (.int s1), (.int s2)] [(.int l0), (.int l1)] [(.int g0), (.int g1)] [(.double p0), (.double p1)] [(.double u0), (.double u1)] [(.double x0), (.double x1)]) {Q : Option Value → Heap → Prop} (hQ : ∀ h', CN Z h' n0 c A ax (-1 : Int32) (0 : Int32) its [(.int (0 : Int32)), (.int (0 : Int32)), (.int s2)] [(.int (0 : Int32)), (.int l1)] [(.int g0), (.int g1)] [(.double p0), (.double p1)] [(.double u0), (.double u1)] [(.double x0), (.double x1)] → Q none h') :
    Go l Z (⟨"com/example/nona/nona/solver/ApproximateChain", "close", "()V"⟩ : MethodName) prog_136_method_5_code 7 none ({ frames := 0, cells := 0, slots := 0, locals := 0 } : Room) n0 Q h 0 0 0 #[.val (.ref c), .unset, .unset, .unset, .unset, .unset, .unset] [] := by
  refine Go.aloadN d4_0 (q := 1) rfl rfl rfl ?_
  refine Go.getF d4_1 (q := 4) rfl (host := "") (Or.inl (w12 hw)) Via.refl C0.fd.open ?_
  refine Go.if_lt d4_4 (q := 128) (q' := 7) (by decide) rfl rfl (fun c_ => absurd c_ (by decide)) (fun _ => ?_)
  refine Go.aloadN d4_7 (q := 8) rfl rfl rfl ?_
  refine Go.getF d4_8 (q := 11) rfl (host := "") (Or.inl (w12 hw)) Via.refl C0.fd.open ?_
  refine Go.istoreN d4_11 (q := 12) rfl (Ls' := #[.val (.ref c), .val (.int (0 : Int32)), .unset, .unset, .unset, .unset, .unset]) rfl ?_
  refine Go.aloadN d4_12 (q := 13) rfl rfl rfl ?_
  refine Go.getF d4_13 (q := 16) rfl (host := "") (Or.inl (w17 hw)) Via.refl C0.fd.starts ?_
  refine Go.iloadN d4_16 (q := 17) rfl rfl ?_
  refine Go.iaload d4_17 (q := 18) rfl (C0.a0).choose_spec (by decide) rfl ?_
  refine Go.istoreN d4_18 (q := 19) rfl (Ls' := #[.val (.ref c), .val (.int (0 : Int32)), .val (.int (0 : Int32)), .unset, .unset, .unset, .unset]) rfl ?_
  refine Go.iloadN d4_19 (q := 20) rfl rfl ?_
  refine Go.istoreN d4_20 (q := 21) rfl (Ls' := #[.val (.ref c), .val (.int (0 : Int32)), .val (.int (0 : Int32)), .val (.int (0 : Int32)), .unset, .unset, .unset]) rfl ?_
  refine Go.iloadN d4_21 (q := 22) rfl rfl ?_
  refine Go.aloadN d4_22 (q := 23) rfl rfl rfl ?_
  refine Go.getF d4_23 (q := 26) rfl (host := "") (Or.inl (w50 hw)) Via.refl C0.fd.count ?_
  refine Go.icmp_ge d4_26 (q := 104) (q' := 29) (by decide) rfl rfl (fun _ => ?_) (fun c_ => absurd c_ (by decide))
  refine Go.aloadN d4_104 (q := 105) rfl rfl rfl ?_
  refine Go.getF d4_105 (q := 108) rfl (host := "") (Or.inl (w19 hw)) Via.refl C0.fd.laters ?_
  refine Go.iloadN d4_108 (q := 109) rfl rfl ?_
  refine Go.iloadN d4_109 (q := 110) rfl rfl ?_
  refine Go.iastore d4_110 (q := 111) rfl (C0.a1).choose_spec (by decide) (by exact (by decide : (0 : Nat) < 2)) C0.na1 ?_
  intro g18 Wg18
  have Cg18 : CN Z g18 n0 c A ax (0 : Int32) (0 : Int32) its [(.int (0 : Int32)), (.int s1), (.int s2)] [(.int (0 : Int32)), (.int l1)] [(.int g0), (.int g1)] [(.double p0), (.double p1)] [(.double u0), (.double u1)] [(.double x0), (.double x1)] := C0.w1 Wg18
  refine Go.aloadN d4_111 (q := 112) rfl rfl rfl ?_
  refine Go.getF d4_112 (q := 115) rfl (host := "") (Or.inl (w17 hw)) Via.refl Cg18.fd.starts ?_
  refine Go.iloadN d4_115 (q := 116) rfl rfl ?_
  refine Go.iconst d4_116 (q := 117) rfl (x := (1 : Int32)) (by decide) ?_
  refine Go.iadd d4_117 (q := 118) rfl ?_
  rw [show ((0 : Int32) + (1 : Int32)) = (1 : Int32) from rfl]
  refine Go.aloadN d4_118 (q := 119) rfl rfl rfl ?_
  refine Go.getF d4_119 (q := 122) rfl (host := "") (Or.inl (w50 hw)) Via.refl Cg18.fd.count ?_
  refine Go.iastore d4_122 (q := 123) rfl (Cg18.a0).choose_spec (by decide) (by exact (by decide : (1 : Nat) < 3)) Cg18.na0 ?_
  intro g19 Wg19
  have Cg19 : CN Z g19 n0 c A ax (0 : Int32) (0 : Int32) its [(.int (0 : Int32)), (.int (0 : Int32)), (.int s2)] [(.int (0 : Int32)), (.int l1)] [(.int g0), (.int g1)] [(.double p0), (.double p1)] [(.double u0), (.double u1)] [(.double x0), (.double x1)] := Cg18.w0 Wg19
  refine Go.aloadN d4_123 (q := 124) rfl rfl rfl ?_
  refine Go.iconst d4_124 (q := 125) rfl (x := ((-1) : Int32)) (by decide) ?_
  refine Go.putF d4_125 (q := 128) rfl (host := "") (Or.inl (w12 hw)) Via.refl Cg19.fd.open Cg19.exa (Or.inl (w13 hw)) (w4 hw) pTn rfl rfl Cg19.nc ?_
  intro g20 Wg20
  have Cg20 : CN Z g20 n0 c A ax ((-1) : Int32) (0 : Int32) its [(.int (0 : Int32)), (.int (0 : Int32)), (.int s2)] [(.int (0 : Int32)), (.int l1)] [(.int g0), (.int g1)] [(.double p0), (.double p1)] [(.double u0), (.double u1)] [(.double x0), (.double x1)] := Cg19.w_open hw Wg20
  refine Go.vreturn d4_128 (by decide) (by decide) ?_
  exact hQ g20 Cg20
set_option maxRecDepth 65536 in
set_option maxHeartbeats 40000000 in
theorem close1_0 (l : Launch) (Z : State) (a0 : Array Value) (hw : Hw a0 Z) (n0 : Nat) (h : Heap) {c : Addr} {A : Nat → Addr} {ax : Addr} {its s2 l0 l1 g0 g1 : Int32} {p0 p1 u0 u1 x0 x1 : UInt64}  (C0 : CN Z h n0 c A ax (1 : Int32) (0 : Int32) its [(.int (0 : Int32)), (.int (0 : Int32)), (.int s2)] [(.int l0), (.int l1)] [(.int g0), (.int g1)] [(.double p0), (.double p1)] [(.double u0), (.double u1)] [(.double x0), (.double x1)]) {Q : Option Value → Heap → Prop} (hQ : ∀ h', CN Z h' n0 c A ax (-1 : Int32) (0 : Int32) its [(.int (0 : Int32)), (.int (0 : Int32)), (.int (0 : Int32))] [(.int l0), (.int (0 : Int32))] [(.int g0), (.int g1)] [(.double p0), (.double p1)] [(.double u0), (.double u1)] [(.double x0), (.double x1)] → Q none h') :
    Go l Z (⟨"com/example/nona/nona/solver/ApproximateChain", "close", "()V"⟩ : MethodName) prog_136_method_5_code 7 none ({ frames := 0, cells := 0, slots := 0, locals := 0 } : Room) n0 Q h 0 0 0 #[.val (.ref c), .unset, .unset, .unset, .unset, .unset, .unset] [] := by
  refine Go.aloadN d4_0 (q := 1) rfl rfl rfl ?_
  refine Go.getF d4_1 (q := 4) rfl (host := "") (Or.inl (w12 hw)) Via.refl C0.fd.open ?_
  refine Go.if_lt d4_4 (q := 128) (q' := 7) (by decide) rfl rfl (fun c_ => absurd c_ (by decide)) (fun _ => ?_)
  refine Go.aloadN d4_7 (q := 8) rfl rfl rfl ?_
  refine Go.getF d4_8 (q := 11) rfl (host := "") (Or.inl (w12 hw)) Via.refl C0.fd.open ?_
  refine Go.istoreN d4_11 (q := 12) rfl (Ls' := #[.val (.ref c), .val (.int (1 : Int32)), .unset, .unset, .unset, .unset, .unset]) rfl ?_
  refine Go.aloadN d4_12 (q := 13) rfl rfl rfl ?_
  refine Go.getF d4_13 (q := 16) rfl (host := "") (Or.inl (w17 hw)) Via.refl C0.fd.starts ?_
  refine Go.iloadN d4_16 (q := 17) rfl rfl ?_
  refine Go.iaload d4_17 (q := 18) rfl (C0.a0).choose_spec (by decide) rfl ?_
  refine Go.istoreN d4_18 (q := 19) rfl (Ls' := #[.val (.ref c), .val (.int (1 : Int32)), .val (.int (0 : Int32)), .unset, .unset, .unset, .unset]) rfl ?_
  refine Go.iloadN d4_19 (q := 20) rfl rfl ?_
  refine Go.istoreN d4_20 (q := 21) rfl (Ls' := #[.val (.ref c), .val (.int (1 : Int32)), .val (.int (0 : Int32)), .val (.int (0 : Int32)), .unset, .unset, .unset]) rfl ?_
  refine Go.iloadN d4_21 (q := 22) rfl rfl ?_
  refine Go.aloadN d4_22 (q := 23) rfl rfl rfl ?_
  refine Go.getF d4_23 (q := 26) rfl (host := "") (Or.inl (w50 hw)) Via.refl C0.fd.count ?_
  refine Go.icmp_ge d4_26 (q := 104) (q' := 29) (by decide) rfl rfl (fun _ => ?_) (fun c_ => absurd c_ (by decide))
  refine Go.aloadN d4_104 (q := 105) rfl rfl rfl ?_
  refine Go.getF d4_105 (q := 108) rfl (host := "") (Or.inl (w19 hw)) Via.refl C0.fd.laters ?_
  refine Go.iloadN d4_108 (q := 109) rfl rfl ?_
  refine Go.iloadN d4_109 (q := 110) rfl rfl ?_
  refine Go.iastore d4_110 (q := 111) rfl (C0.a1).choose_spec (by decide) (by exact (by decide : (1 : Nat) < 2)) C0.na1 ?_
  intro g23 Wg23
  have Cg23 : CN Z g23 n0 c A ax (1 : Int32) (0 : Int32) its [(.int (0 : Int32)), (.int (0 : Int32)), (.int s2)] [(.int l0), (.int (0 : Int32))] [(.int g0), (.int g1)] [(.double p0), (.double p1)] [(.double u0), (.double u1)] [(.double x0), (.double x1)] := C0.w1 Wg23
  refine Go.aloadN d4_111 (q := 112) rfl rfl rfl ?_
  refine Go.getF d4_112 (q := 115) rfl (host := "") (Or.inl (w17 hw)) Via.refl Cg23.fd.starts ?_
  refine Go.iloadN d4_115 (q := 116) rfl rfl ?_
  refine Go.iconst d4_116 (q := 117) rfl (x := (1 : Int32)) (by decide) ?_
  refine Go.iadd d4_117 (q := 118) rfl ?_
  rw [show ((1 : Int32) + (1 : Int32)) = (2 : Int32) from rfl]
  refine Go.aloadN d4_118 (q := 119) rfl rfl rfl ?_
  refine Go.getF d4_119 (q := 122) rfl (host := "") (Or.inl (w50 hw)) Via.refl Cg23.fd.count ?_
  refine Go.iastore d4_122 (q := 123) rfl (Cg23.a0).choose_spec (by decide) (by exact (by decide : (2 : Nat) < 3)) Cg23.na0 ?_
  intro g24 Wg24
  have Cg24 : CN Z g24 n0 c A ax (1 : Int32) (0 : Int32) its [(.int (0 : Int32)), (.int (0 : Int32)), (.int (0 : Int32))] [(.int l0), (.int (0 : Int32))] [(.int g0), (.int g1)] [(.double p0), (.double p1)] [(.double u0), (.double u1)] [(.double x0), (.double x1)] := Cg23.w0 Wg24
  refine Go.aloadN d4_123 (q := 124) rfl rfl rfl ?_
  refine Go.iconst d4_124 (q := 125) rfl (x := ((-1) : Int32)) (by decide) ?_
  refine Go.putF d4_125 (q := 128) rfl (host := "") (Or.inl (w12 hw)) Via.refl Cg24.fd.open Cg24.exa (Or.inl (w13 hw)) (w4 hw) pTn rfl rfl Cg24.nc ?_
  intro g25 Wg25
  have Cg25 : CN Z g25 n0 c A ax ((-1) : Int32) (0 : Int32) its [(.int (0 : Int32)), (.int (0 : Int32)), (.int (0 : Int32))] [(.int l0), (.int (0 : Int32))] [(.int g0), (.int g1)] [(.double p0), (.double p1)] [(.double u0), (.double u1)] [(.double x0), (.double x1)] := Cg24.w_open hw Wg25
  refine Go.vreturn d4_128 (by decide) (by decide) ?_
  exact hQ g25 Cg25
set_option maxRecDepth 65536 in
set_option maxHeartbeats 40000000 in
theorem close0_1 (l : Launch) (Z : State) (a0 : Array Value) (hw : Hw a0 Z) (n0 : Nat) (h : Heap) {c : Addr} {A : Nat → Addr} {ax : Addr} {its s1 s2 l0 l1 g0 g1 : Int32} {p0 p1 u0 u1 x0 x1 : UInt64} (t0 : ¬ g0 < 0) (t1 : ¬ g1 < 0) (C0 : CN Z h n0 c A ax (0 : Int32) (1 : Int32) its [(.int (0 : Int32)), (.int s1), (.int s2)] [(.int l0), (.int l1)] [(.int g0), (.int g1)] [(.double p0), (.double p1)] [(.double u0), (.double u1)] [(.double x0), (.double x1)]) {Q : Option Value → Heap → Prop} (hQ : ∀ h', CN Z h' n0 c A ax (-1 : Int32) (1 : Int32) its [(.int (0 : Int32)), (.int (1 : Int32)), (.int s2)] [(.int (0 : Int32)), (.int l1)] [(.int g0), (.int g1)] [(.double p0), (.double p1)] [(.double u0), (.double u1)] [(.double x0), (.double x1)] → Q none h') :
    Go l Z (⟨"com/example/nona/nona/solver/ApproximateChain", "close", "()V"⟩ : MethodName) prog_136_method_5_code 7 none ({ frames := 0, cells := 0, slots := 0, locals := 0 } : Room) n0 Q h 0 0 0 #[.val (.ref c), .unset, .unset, .unset, .unset, .unset, .unset] [] := by
  refine Go.aloadN d4_0 (q := 1) rfl rfl rfl ?_
  refine Go.getF d4_1 (q := 4) rfl (host := "") (Or.inl (w12 hw)) Via.refl C0.fd.open ?_
  refine Go.if_lt d4_4 (q := 128) (q' := 7) (by decide) rfl rfl (fun c_ => absurd c_ (by decide)) (fun _ => ?_)
  refine Go.aloadN d4_7 (q := 8) rfl rfl rfl ?_
  refine Go.getF d4_8 (q := 11) rfl (host := "") (Or.inl (w12 hw)) Via.refl C0.fd.open ?_
  refine Go.istoreN d4_11 (q := 12) rfl (Ls' := #[.val (.ref c), .val (.int (0 : Int32)), .unset, .unset, .unset, .unset, .unset]) rfl ?_
  refine Go.aloadN d4_12 (q := 13) rfl rfl rfl ?_
  refine Go.getF d4_13 (q := 16) rfl (host := "") (Or.inl (w17 hw)) Via.refl C0.fd.starts ?_
  refine Go.iloadN d4_16 (q := 17) rfl rfl ?_
  refine Go.iaload d4_17 (q := 18) rfl (C0.a0).choose_spec (by decide) rfl ?_
  refine Go.istoreN d4_18 (q := 19) rfl (Ls' := #[.val (.ref c), .val (.int (0 : Int32)), .val (.int (0 : Int32)), .unset, .unset, .unset, .unset]) rfl ?_
  refine Go.iloadN d4_19 (q := 20) rfl rfl ?_
  refine Go.istoreN d4_20 (q := 21) rfl (Ls' := #[.val (.ref c), .val (.int (0 : Int32)), .val (.int (0 : Int32)), .val (.int (0 : Int32)), .unset, .unset, .unset]) rfl ?_
  refine Go.iloadN d4_21 (q := 22) rfl rfl ?_
  refine Go.aloadN d4_22 (q := 23) rfl rfl rfl ?_
  refine Go.getF d4_23 (q := 26) rfl (host := "") (Or.inl (w50 hw)) Via.refl C0.fd.count ?_
  refine Go.icmp_ge d4_26 (q := 104) (q' := 29) (by decide) rfl rfl (fun c_ => absurd (by decide) c_) (fun _ => ?_)
  refine Go.aloadN d4_29 (q := 30) rfl rfl rfl ?_
  refine Go.getF d4_30 (q := 33) rfl (host := "") (Or.inl (w21 hw)) Via.refl C0.fd.targets ?_
  refine Go.iloadN d4_33 (q := 34) rfl rfl ?_
  refine Go.iaload d4_34 (q := 35) rfl (C0.a2).choose_spec (by decide) rfl ?_
  refine Go.iloadN d4_35 (q := 36) rfl rfl ?_
  refine Go.icmp_ge d4_36 (q := 98) (q' := 39) (by decide) rfl rfl (fun _ => ?_) (fun c_ => absurd c_ t0)
  refine Go.iinc d4_98 (q := 101) rfl rfl (w := (1 : Int32)) rfl (Ls' := #[.val (.ref c), .val (.int (0 : Int32)), .val (.int (0 : Int32)), .val (.int (1 : Int32)), .unset, .unset, .unset]) rfl ?_
  refine Go.goto d4_101 (q := 21) (by decide) rfl ?_
  refine Go.iloadN d4_21 (q := 22) rfl rfl ?_
  refine Go.aloadN d4_22 (q := 23) rfl rfl rfl ?_
  refine Go.getF d4_23 (q := 26) rfl (host := "") (Or.inl (w50 hw)) Via.refl C0.fd.count ?_
  refine Go.icmp_ge d4_26 (q := 104) (q' := 29) (by decide) rfl rfl (fun _ => ?_) (fun c_ => absurd c_ (by decide))
  refine Go.aloadN d4_104 (q := 105) rfl rfl rfl ?_
  refine Go.getF d4_105 (q := 108) rfl (host := "") (Or.inl (w19 hw)) Via.refl C0.fd.laters ?_
  refine Go.iloadN d4_108 (q := 109) rfl rfl ?_
  refine Go.iloadN d4_109 (q := 110) rfl rfl ?_
  refine Go.iastore d4_110 (q := 111) rfl (C0.a1).choose_spec (by decide) (by exact (by decide : (0 : Nat) < 2)) C0.na1 ?_
  intro g30 Wg30
  have Cg30 : CN Z g30 n0 c A ax (0 : Int32) (1 : Int32) its [(.int (0 : Int32)), (.int s1), (.int s2)] [(.int (0 : Int32)), (.int l1)] [(.int g0), (.int g1)] [(.double p0), (.double p1)] [(.double u0), (.double u1)] [(.double x0), (.double x1)] := C0.w1 Wg30
  refine Go.aloadN d4_111 (q := 112) rfl rfl rfl ?_
  refine Go.getF d4_112 (q := 115) rfl (host := "") (Or.inl (w17 hw)) Via.refl Cg30.fd.starts ?_
  refine Go.iloadN d4_115 (q := 116) rfl rfl ?_
  refine Go.iconst d4_116 (q := 117) rfl (x := (1 : Int32)) (by decide) ?_
  refine Go.iadd d4_117 (q := 118) rfl ?_
  rw [show ((0 : Int32) + (1 : Int32)) = (1 : Int32) from rfl]
  refine Go.aloadN d4_118 (q := 119) rfl rfl rfl ?_
  refine Go.getF d4_119 (q := 122) rfl (host := "") (Or.inl (w50 hw)) Via.refl Cg30.fd.count ?_
  refine Go.iastore d4_122 (q := 123) rfl (Cg30.a0).choose_spec (by decide) (by exact (by decide : (1 : Nat) < 3)) Cg30.na0 ?_
  intro g31 Wg31
  have Cg31 : CN Z g31 n0 c A ax (0 : Int32) (1 : Int32) its [(.int (0 : Int32)), (.int (1 : Int32)), (.int s2)] [(.int (0 : Int32)), (.int l1)] [(.int g0), (.int g1)] [(.double p0), (.double p1)] [(.double u0), (.double u1)] [(.double x0), (.double x1)] := Cg30.w0 Wg31
  refine Go.aloadN d4_123 (q := 124) rfl rfl rfl ?_
  refine Go.iconst d4_124 (q := 125) rfl (x := ((-1) : Int32)) (by decide) ?_
  refine Go.putF d4_125 (q := 128) rfl (host := "") (Or.inl (w12 hw)) Via.refl Cg31.fd.open Cg31.exa (Or.inl (w13 hw)) (w4 hw) pTn rfl rfl Cg31.nc ?_
  intro g32 Wg32
  have Cg32 : CN Z g32 n0 c A ax ((-1) : Int32) (1 : Int32) its [(.int (0 : Int32)), (.int (1 : Int32)), (.int s2)] [(.int (0 : Int32)), (.int l1)] [(.int g0), (.int g1)] [(.double p0), (.double p1)] [(.double u0), (.double u1)] [(.double x0), (.double x1)] := Cg31.w_open hw Wg32
  refine Go.vreturn d4_128 (by decide) (by decide) ?_
  exact hQ g32 Cg32
set_option maxRecDepth 65536 in
set_option maxHeartbeats 40000000 in
theorem close1_1 (l : Launch) (Z : State) (a0 : Array Value) (hw : Hw a0 Z) (n0 : Nat) (h : Heap) {c : Addr} {A : Nat → Addr} {ax : Addr} {its s2 l0 l1 g0 g1 : Int32} {p0 p1 u0 u1 x0 x1 : UInt64}  (C0 : CN Z h n0 c A ax (1 : Int32) (1 : Int32) its [(.int (0 : Int32)), (.int (1 : Int32)), (.int s2)] [(.int l0), (.int l1)] [(.int g0), (.int g1)] [(.double p0), (.double p1)] [(.double u0), (.double u1)] [(.double x0), (.double x1)]) {Q : Option Value → Heap → Prop} (hQ : ∀ h', CN Z h' n0 c A ax (-1 : Int32) (1 : Int32) its [(.int (0 : Int32)), (.int (1 : Int32)), (.int (1 : Int32))] [(.int l0), (.int (1 : Int32))] [(.int g0), (.int g1)] [(.double p0), (.double p1)] [(.double u0), (.double u1)] [(.double x0), (.double x1)] → Q none h') :
    Go l Z (⟨"com/example/nona/nona/solver/ApproximateChain", "close", "()V"⟩ : MethodName) prog_136_method_5_code 7 none ({ frames := 0, cells := 0, slots := 0, locals := 0 } : Room) n0 Q h 0 0 0 #[.val (.ref c), .unset, .unset, .unset, .unset, .unset, .unset] [] := by
  refine Go.aloadN d4_0 (q := 1) rfl rfl rfl ?_
  refine Go.getF d4_1 (q := 4) rfl (host := "") (Or.inl (w12 hw)) Via.refl C0.fd.open ?_
  refine Go.if_lt d4_4 (q := 128) (q' := 7) (by decide) rfl rfl (fun c_ => absurd c_ (by decide)) (fun _ => ?_)
  refine Go.aloadN d4_7 (q := 8) rfl rfl rfl ?_
  refine Go.getF d4_8 (q := 11) rfl (host := "") (Or.inl (w12 hw)) Via.refl C0.fd.open ?_
  refine Go.istoreN d4_11 (q := 12) rfl (Ls' := #[.val (.ref c), .val (.int (1 : Int32)), .unset, .unset, .unset, .unset, .unset]) rfl ?_
  refine Go.aloadN d4_12 (q := 13) rfl rfl rfl ?_
  refine Go.getF d4_13 (q := 16) rfl (host := "") (Or.inl (w17 hw)) Via.refl C0.fd.starts ?_
  refine Go.iloadN d4_16 (q := 17) rfl rfl ?_
  refine Go.iaload d4_17 (q := 18) rfl (C0.a0).choose_spec (by decide) rfl ?_
  refine Go.istoreN d4_18 (q := 19) rfl (Ls' := #[.val (.ref c), .val (.int (1 : Int32)), .val (.int (1 : Int32)), .unset, .unset, .unset, .unset]) rfl ?_
  refine Go.iloadN d4_19 (q := 20) rfl rfl ?_
  refine Go.istoreN d4_20 (q := 21) rfl (Ls' := #[.val (.ref c), .val (.int (1 : Int32)), .val (.int (1 : Int32)), .val (.int (1 : Int32)), .unset, .unset, .unset]) rfl ?_
  refine Go.iloadN d4_21 (q := 22) rfl rfl ?_
  refine Go.aloadN d4_22 (q := 23) rfl rfl rfl ?_
  refine Go.getF d4_23 (q := 26) rfl (host := "") (Or.inl (w50 hw)) Via.refl C0.fd.count ?_
  refine Go.icmp_ge d4_26 (q := 104) (q' := 29) (by decide) rfl rfl (fun _ => ?_) (fun c_ => absurd c_ (by decide))
  refine Go.aloadN d4_104 (q := 105) rfl rfl rfl ?_
  refine Go.getF d4_105 (q := 108) rfl (host := "") (Or.inl (w19 hw)) Via.refl C0.fd.laters ?_
  refine Go.iloadN d4_108 (q := 109) rfl rfl ?_
  refine Go.iloadN d4_109 (q := 110) rfl rfl ?_
  refine Go.iastore d4_110 (q := 111) rfl (C0.a1).choose_spec (by decide) (by exact (by decide : (1 : Nat) < 2)) C0.na1 ?_
  intro g35 Wg35
  have Cg35 : CN Z g35 n0 c A ax (1 : Int32) (1 : Int32) its [(.int (0 : Int32)), (.int (1 : Int32)), (.int s2)] [(.int l0), (.int (1 : Int32))] [(.int g0), (.int g1)] [(.double p0), (.double p1)] [(.double u0), (.double u1)] [(.double x0), (.double x1)] := C0.w1 Wg35
  refine Go.aloadN d4_111 (q := 112) rfl rfl rfl ?_
  refine Go.getF d4_112 (q := 115) rfl (host := "") (Or.inl (w17 hw)) Via.refl Cg35.fd.starts ?_
  refine Go.iloadN d4_115 (q := 116) rfl rfl ?_
  refine Go.iconst d4_116 (q := 117) rfl (x := (1 : Int32)) (by decide) ?_
  refine Go.iadd d4_117 (q := 118) rfl ?_
  rw [show ((1 : Int32) + (1 : Int32)) = (2 : Int32) from rfl]
  refine Go.aloadN d4_118 (q := 119) rfl rfl rfl ?_
  refine Go.getF d4_119 (q := 122) rfl (host := "") (Or.inl (w50 hw)) Via.refl Cg35.fd.count ?_
  refine Go.iastore d4_122 (q := 123) rfl (Cg35.a0).choose_spec (by decide) (by exact (by decide : (2 : Nat) < 3)) Cg35.na0 ?_
  intro g36 Wg36
  have Cg36 : CN Z g36 n0 c A ax (1 : Int32) (1 : Int32) its [(.int (0 : Int32)), (.int (1 : Int32)), (.int (1 : Int32))] [(.int l0), (.int (1 : Int32))] [(.int g0), (.int g1)] [(.double p0), (.double p1)] [(.double u0), (.double u1)] [(.double x0), (.double x1)] := Cg35.w0 Wg36
  refine Go.aloadN d4_123 (q := 124) rfl rfl rfl ?_
  refine Go.iconst d4_124 (q := 125) rfl (x := ((-1) : Int32)) (by decide) ?_
  refine Go.putF d4_125 (q := 128) rfl (host := "") (Or.inl (w12 hw)) Via.refl Cg36.fd.open Cg36.exa (Or.inl (w13 hw)) (w4 hw) pTn rfl rfl Cg36.nc ?_
  intro g37 Wg37
  have Cg37 : CN Z g37 n0 c A ax ((-1) : Int32) (1 : Int32) its [(.int (0 : Int32)), (.int (1 : Int32)), (.int (1 : Int32))] [(.int l0), (.int (1 : Int32))] [(.int g0), (.int g1)] [(.double p0), (.double p1)] [(.double u0), (.double u1)] [(.double x0), (.double x1)] := Cg36.w_open hw Wg37
  refine Go.vreturn d4_128 (by decide) (by decide) ?_
  exact hQ g37 Cg37
set_option maxRecDepth 65536 in
set_option maxHeartbeats 40000000 in
theorem close0_2 (l : Launch) (Z : State) (a0 : Array Value) (hw : Hw a0 Z) (n0 : Nat) (h : Heap) {c : Addr} {A : Nat → Addr} {ax : Addr} {its s1 s2 l0 l1 g0 g1 : Int32} {p0 p1 u0 u1 x0 x1 : UInt64} (t0 : ¬ g0 < 0) (t1 : ¬ g1 < 0) (C0 : CN Z h n0 c A ax (0 : Int32) (2 : Int32) its [(.int (0 : Int32)), (.int s1), (.int s2)] [(.int l0), (.int l1)] [(.int g0), (.int g1)] [(.double p0), (.double p1)] [(.double u0), (.double u1)] [(.double x0), (.double x1)]) {Q : Option Value → Heap → Prop} (hQ : ∀ h', CN Z h' n0 c A ax (-1 : Int32) (2 : Int32) its [(.int (0 : Int32)), (.int (2 : Int32)), (.int s2)] [(.int (0 : Int32)), (.int l1)] [(.int g0), (.int g1)] [(.double p0), (.double p1)] [(.double u0), (.double u1)] [(.double x0), (.double x1)] → Q none h') :
    Go l Z (⟨"com/example/nona/nona/solver/ApproximateChain", "close", "()V"⟩ : MethodName) prog_136_method_5_code 7 none ({ frames := 0, cells := 0, slots := 0, locals := 0 } : Room) n0 Q h 0 0 0 #[.val (.ref c), .unset, .unset, .unset, .unset, .unset, .unset] [] := by
  refine Go.aloadN d4_0 (q := 1) rfl rfl rfl ?_
  refine Go.getF d4_1 (q := 4) rfl (host := "") (Or.inl (w12 hw)) Via.refl C0.fd.open ?_
  refine Go.if_lt d4_4 (q := 128) (q' := 7) (by decide) rfl rfl (fun c_ => absurd c_ (by decide)) (fun _ => ?_)
  refine Go.aloadN d4_7 (q := 8) rfl rfl rfl ?_
  refine Go.getF d4_8 (q := 11) rfl (host := "") (Or.inl (w12 hw)) Via.refl C0.fd.open ?_
  refine Go.istoreN d4_11 (q := 12) rfl (Ls' := #[.val (.ref c), .val (.int (0 : Int32)), .unset, .unset, .unset, .unset, .unset]) rfl ?_
  refine Go.aloadN d4_12 (q := 13) rfl rfl rfl ?_
  refine Go.getF d4_13 (q := 16) rfl (host := "") (Or.inl (w17 hw)) Via.refl C0.fd.starts ?_
  refine Go.iloadN d4_16 (q := 17) rfl rfl ?_
  refine Go.iaload d4_17 (q := 18) rfl (C0.a0).choose_spec (by decide) rfl ?_
  refine Go.istoreN d4_18 (q := 19) rfl (Ls' := #[.val (.ref c), .val (.int (0 : Int32)), .val (.int (0 : Int32)), .unset, .unset, .unset, .unset]) rfl ?_
  refine Go.iloadN d4_19 (q := 20) rfl rfl ?_
  refine Go.istoreN d4_20 (q := 21) rfl (Ls' := #[.val (.ref c), .val (.int (0 : Int32)), .val (.int (0 : Int32)), .val (.int (0 : Int32)), .unset, .unset, .unset]) rfl ?_
  refine Go.iloadN d4_21 (q := 22) rfl rfl ?_
  refine Go.aloadN d4_22 (q := 23) rfl rfl rfl ?_
  refine Go.getF d4_23 (q := 26) rfl (host := "") (Or.inl (w50 hw)) Via.refl C0.fd.count ?_
  refine Go.icmp_ge d4_26 (q := 104) (q' := 29) (by decide) rfl rfl (fun c_ => absurd (by decide) c_) (fun _ => ?_)
  refine Go.aloadN d4_29 (q := 30) rfl rfl rfl ?_
  refine Go.getF d4_30 (q := 33) rfl (host := "") (Or.inl (w21 hw)) Via.refl C0.fd.targets ?_
  refine Go.iloadN d4_33 (q := 34) rfl rfl ?_
  refine Go.iaload d4_34 (q := 35) rfl (C0.a2).choose_spec (by decide) rfl ?_
  refine Go.iloadN d4_35 (q := 36) rfl rfl ?_
  refine Go.icmp_ge d4_36 (q := 98) (q' := 39) (by decide) rfl rfl (fun _ => ?_) (fun c_ => absurd c_ t0)
  refine Go.iinc d4_98 (q := 101) rfl rfl (w := (1 : Int32)) rfl (Ls' := #[.val (.ref c), .val (.int (0 : Int32)), .val (.int (0 : Int32)), .val (.int (1 : Int32)), .unset, .unset, .unset]) rfl ?_
  refine Go.goto d4_101 (q := 21) (by decide) rfl ?_
  refine Go.iloadN d4_21 (q := 22) rfl rfl ?_
  refine Go.aloadN d4_22 (q := 23) rfl rfl rfl ?_
  refine Go.getF d4_23 (q := 26) rfl (host := "") (Or.inl (w50 hw)) Via.refl C0.fd.count ?_
  refine Go.icmp_ge d4_26 (q := 104) (q' := 29) (by decide) rfl rfl (fun c_ => absurd (by decide) c_) (fun _ => ?_)
  refine Go.aloadN d4_29 (q := 30) rfl rfl rfl ?_
  refine Go.getF d4_30 (q := 33) rfl (host := "") (Or.inl (w21 hw)) Via.refl C0.fd.targets ?_
  refine Go.iloadN d4_33 (q := 34) rfl rfl ?_
  refine Go.iaload d4_34 (q := 35) rfl (C0.a2).choose_spec (by decide) rfl ?_
  refine Go.iloadN d4_35 (q := 36) rfl rfl ?_
  refine Go.icmp_ge d4_36 (q := 98) (q' := 39) (by decide) rfl rfl (fun _ => ?_) (fun c_ => absurd c_ t1)
  refine Go.iinc d4_98 (q := 101) rfl rfl (w := (2 : Int32)) rfl (Ls' := #[.val (.ref c), .val (.int (0 : Int32)), .val (.int (0 : Int32)), .val (.int (2 : Int32)), .unset, .unset, .unset]) rfl ?_
  refine Go.goto d4_101 (q := 21) (by decide) rfl ?_
  refine Go.iloadN d4_21 (q := 22) rfl rfl ?_
  refine Go.aloadN d4_22 (q := 23) rfl rfl rfl ?_
  refine Go.getF d4_23 (q := 26) rfl (host := "") (Or.inl (w50 hw)) Via.refl C0.fd.count ?_
  refine Go.icmp_ge d4_26 (q := 104) (q' := 29) (by decide) rfl rfl (fun _ => ?_) (fun c_ => absurd c_ (by decide))
  refine Go.aloadN d4_104 (q := 105) rfl rfl rfl ?_
  refine Go.getF d4_105 (q := 108) rfl (host := "") (Or.inl (w19 hw)) Via.refl C0.fd.laters ?_
  refine Go.iloadN d4_108 (q := 109) rfl rfl ?_
  refine Go.iloadN d4_109 (q := 110) rfl rfl ?_
  refine Go.iastore d4_110 (q := 111) rfl (C0.a1).choose_spec (by decide) (by exact (by decide : (0 : Nat) < 2)) C0.na1 ?_
  intro g44 Wg44
  have Cg44 : CN Z g44 n0 c A ax (0 : Int32) (2 : Int32) its [(.int (0 : Int32)), (.int s1), (.int s2)] [(.int (0 : Int32)), (.int l1)] [(.int g0), (.int g1)] [(.double p0), (.double p1)] [(.double u0), (.double u1)] [(.double x0), (.double x1)] := C0.w1 Wg44
  refine Go.aloadN d4_111 (q := 112) rfl rfl rfl ?_
  refine Go.getF d4_112 (q := 115) rfl (host := "") (Or.inl (w17 hw)) Via.refl Cg44.fd.starts ?_
  refine Go.iloadN d4_115 (q := 116) rfl rfl ?_
  refine Go.iconst d4_116 (q := 117) rfl (x := (1 : Int32)) (by decide) ?_
  refine Go.iadd d4_117 (q := 118) rfl ?_
  rw [show ((0 : Int32) + (1 : Int32)) = (1 : Int32) from rfl]
  refine Go.aloadN d4_118 (q := 119) rfl rfl rfl ?_
  refine Go.getF d4_119 (q := 122) rfl (host := "") (Or.inl (w50 hw)) Via.refl Cg44.fd.count ?_
  refine Go.iastore d4_122 (q := 123) rfl (Cg44.a0).choose_spec (by decide) (by exact (by decide : (1 : Nat) < 3)) Cg44.na0 ?_
  intro g45 Wg45
  have Cg45 : CN Z g45 n0 c A ax (0 : Int32) (2 : Int32) its [(.int (0 : Int32)), (.int (2 : Int32)), (.int s2)] [(.int (0 : Int32)), (.int l1)] [(.int g0), (.int g1)] [(.double p0), (.double p1)] [(.double u0), (.double u1)] [(.double x0), (.double x1)] := Cg44.w0 Wg45
  refine Go.aloadN d4_123 (q := 124) rfl rfl rfl ?_
  refine Go.iconst d4_124 (q := 125) rfl (x := ((-1) : Int32)) (by decide) ?_
  refine Go.putF d4_125 (q := 128) rfl (host := "") (Or.inl (w12 hw)) Via.refl Cg45.fd.open Cg45.exa (Or.inl (w13 hw)) (w4 hw) pTn rfl rfl Cg45.nc ?_
  intro g46 Wg46
  have Cg46 : CN Z g46 n0 c A ax ((-1) : Int32) (2 : Int32) its [(.int (0 : Int32)), (.int (2 : Int32)), (.int s2)] [(.int (0 : Int32)), (.int l1)] [(.int g0), (.int g1)] [(.double p0), (.double p1)] [(.double u0), (.double u1)] [(.double x0), (.double x1)] := Cg45.w_open hw Wg46
  refine Go.vreturn d4_128 (by decide) (by decide) ?_
  exact hQ g46 Cg46
set_option maxRecDepth 65536 in
set_option maxHeartbeats 40000000 in
theorem close1_2 (l : Launch) (Z : State) (a0 : Array Value) (hw : Hw a0 Z) (n0 : Nat) (h : Heap) {c : Addr} {A : Nat → Addr} {ax : Addr} {its s2 l0 l1 g0 g1 : Int32} {p0 p1 u0 u1 x0 x1 : UInt64}  (C0 : CN Z h n0 c A ax (1 : Int32) (2 : Int32) its [(.int (0 : Int32)), (.int (2 : Int32)), (.int s2)] [(.int l0), (.int l1)] [(.int g0), (.int g1)] [(.double p0), (.double p1)] [(.double u0), (.double u1)] [(.double x0), (.double x1)]) {Q : Option Value → Heap → Prop} (hQ : ∀ h', CN Z h' n0 c A ax (-1 : Int32) (2 : Int32) its [(.int (0 : Int32)), (.int (2 : Int32)), (.int (2 : Int32))] [(.int l0), (.int (2 : Int32))] [(.int g0), (.int g1)] [(.double p0), (.double p1)] [(.double u0), (.double u1)] [(.double x0), (.double x1)] → Q none h') :
    Go l Z (⟨"com/example/nona/nona/solver/ApproximateChain", "close", "()V"⟩ : MethodName) prog_136_method_5_code 7 none ({ frames := 0, cells := 0, slots := 0, locals := 0 } : Room) n0 Q h 0 0 0 #[.val (.ref c), .unset, .unset, .unset, .unset, .unset, .unset] [] := by
  refine Go.aloadN d4_0 (q := 1) rfl rfl rfl ?_
  refine Go.getF d4_1 (q := 4) rfl (host := "") (Or.inl (w12 hw)) Via.refl C0.fd.open ?_
  refine Go.if_lt d4_4 (q := 128) (q' := 7) (by decide) rfl rfl (fun c_ => absurd c_ (by decide)) (fun _ => ?_)
  refine Go.aloadN d4_7 (q := 8) rfl rfl rfl ?_
  refine Go.getF d4_8 (q := 11) rfl (host := "") (Or.inl (w12 hw)) Via.refl C0.fd.open ?_
  refine Go.istoreN d4_11 (q := 12) rfl (Ls' := #[.val (.ref c), .val (.int (1 : Int32)), .unset, .unset, .unset, .unset, .unset]) rfl ?_
  refine Go.aloadN d4_12 (q := 13) rfl rfl rfl ?_
  refine Go.getF d4_13 (q := 16) rfl (host := "") (Or.inl (w17 hw)) Via.refl C0.fd.starts ?_
  refine Go.iloadN d4_16 (q := 17) rfl rfl ?_
  refine Go.iaload d4_17 (q := 18) rfl (C0.a0).choose_spec (by decide) rfl ?_
  refine Go.istoreN d4_18 (q := 19) rfl (Ls' := #[.val (.ref c), .val (.int (1 : Int32)), .val (.int (2 : Int32)), .unset, .unset, .unset, .unset]) rfl ?_
  refine Go.iloadN d4_19 (q := 20) rfl rfl ?_
  refine Go.istoreN d4_20 (q := 21) rfl (Ls' := #[.val (.ref c), .val (.int (1 : Int32)), .val (.int (2 : Int32)), .val (.int (2 : Int32)), .unset, .unset, .unset]) rfl ?_
  refine Go.iloadN d4_21 (q := 22) rfl rfl ?_
  refine Go.aloadN d4_22 (q := 23) rfl rfl rfl ?_
  refine Go.getF d4_23 (q := 26) rfl (host := "") (Or.inl (w50 hw)) Via.refl C0.fd.count ?_
  refine Go.icmp_ge d4_26 (q := 104) (q' := 29) (by decide) rfl rfl (fun _ => ?_) (fun c_ => absurd c_ (by decide))
  refine Go.aloadN d4_104 (q := 105) rfl rfl rfl ?_
  refine Go.getF d4_105 (q := 108) rfl (host := "") (Or.inl (w19 hw)) Via.refl C0.fd.laters ?_
  refine Go.iloadN d4_108 (q := 109) rfl rfl ?_
  refine Go.iloadN d4_109 (q := 110) rfl rfl ?_
  refine Go.iastore d4_110 (q := 111) rfl (C0.a1).choose_spec (by decide) (by exact (by decide : (1 : Nat) < 2)) C0.na1 ?_
  intro g49 Wg49
  have Cg49 : CN Z g49 n0 c A ax (1 : Int32) (2 : Int32) its [(.int (0 : Int32)), (.int (2 : Int32)), (.int s2)] [(.int l0), (.int (2 : Int32))] [(.int g0), (.int g1)] [(.double p0), (.double p1)] [(.double u0), (.double u1)] [(.double x0), (.double x1)] := C0.w1 Wg49
  refine Go.aloadN d4_111 (q := 112) rfl rfl rfl ?_
  refine Go.getF d4_112 (q := 115) rfl (host := "") (Or.inl (w17 hw)) Via.refl Cg49.fd.starts ?_
  refine Go.iloadN d4_115 (q := 116) rfl rfl ?_
  refine Go.iconst d4_116 (q := 117) rfl (x := (1 : Int32)) (by decide) ?_
  refine Go.iadd d4_117 (q := 118) rfl ?_
  rw [show ((1 : Int32) + (1 : Int32)) = (2 : Int32) from rfl]
  refine Go.aloadN d4_118 (q := 119) rfl rfl rfl ?_
  refine Go.getF d4_119 (q := 122) rfl (host := "") (Or.inl (w50 hw)) Via.refl Cg49.fd.count ?_
  refine Go.iastore d4_122 (q := 123) rfl (Cg49.a0).choose_spec (by decide) (by exact (by decide : (2 : Nat) < 3)) Cg49.na0 ?_
  intro g50 Wg50
  have Cg50 : CN Z g50 n0 c A ax (1 : Int32) (2 : Int32) its [(.int (0 : Int32)), (.int (2 : Int32)), (.int (2 : Int32))] [(.int l0), (.int (2 : Int32))] [(.int g0), (.int g1)] [(.double p0), (.double p1)] [(.double u0), (.double u1)] [(.double x0), (.double x1)] := Cg49.w0 Wg50
  refine Go.aloadN d4_123 (q := 124) rfl rfl rfl ?_
  refine Go.iconst d4_124 (q := 125) rfl (x := ((-1) : Int32)) (by decide) ?_
  refine Go.putF d4_125 (q := 128) rfl (host := "") (Or.inl (w12 hw)) Via.refl Cg50.fd.open Cg50.exa (Or.inl (w13 hw)) (w4 hw) pTn rfl rfl Cg50.nc ?_
  intro g51 Wg51
  have Cg51 : CN Z g51 n0 c A ax ((-1) : Int32) (2 : Int32) its [(.int (0 : Int32)), (.int (2 : Int32)), (.int (2 : Int32))] [(.int l0), (.int (2 : Int32))] [(.int g0), (.int g1)] [(.double p0), (.double p1)] [(.double u0), (.double u1)] [(.double x0), (.double x1)] := Cg50.w_open hw Wg51
  refine Go.vreturn d4_128 (by decide) (by decide) ?_
  exact hQ g51 Cg51
set_option maxRecDepth 65536 in
set_option maxHeartbeats 40000000 in
theorem state0 (l : Launch) (Z : State) (a0 : Array Value) (hw : Hw a0 Z) (n0 : Nat) (h : Heap) {c : Addr} {A : Nat → Addr} {ax : Addr} {cn its s0 s1 s2 l0 l1 g0 g1 : Int32} {p0 p1 u0 u1 x0 x1 : UInt64}  (C0 : CN Z h n0 c A ax (-1 : Int32) cn its [(.int s0), (.int s1), (.int s2)] [(.int l0), (.int l1)] [(.int g0), (.int g1)] [(.double p0), (.double p1)] [(.double u0), (.double u1)] [(.double x0), (.double x1)]) {Q : Option Value → Heap → Prop} (hQ : ∀ h', CN Z h' n0 c A ax (0 : Int32) (0 : Int32) its [(.int (0 : Int32)), (.int s1), (.int s2)] [(.int l0), (.int l1)] [(.int g0), (.int g1)] [(.double p0), (.double p1)] [(.double 0), (.double u1)] [(.double x0), (.double x1)] → Q none h') :
    Go l Z (⟨"com/example/nona/nona/solver/ApproximateChain", "state", "(I)V"⟩ : MethodName) prog_136_method_2_code 2 none ({ frames := 1, cells := 0, slots := 0, locals := 18 } : Room) n0 Q h 0 0 0 #[.val (.ref c), .val (.int (0 : Int32))] [] := by
  refine Go.aloadN d3_0 (q := 1) rfl rfl rfl ?_
  refine Go.callPN (P := fun h' => h = h') (argsL := []) (rest := []) (wd := 0) (Ls1 := #[.val (.ref c), .unset, .unset, .unset, .unset, .unset, .unset]) d3_1 (q := 4) rfl (w46 hw) (w48 hw) (w44 hw) rfl (w47 hw) (w49 hw) (w5 hw) (by decide) pn4 pd4 rfl rfl C0.exa (fun m_ => by simp [entryFrame, mkF, argsToLocals, Value.category]) rfl (by decide) rfl (by decide) (by decide) (by decide) (closeN l Z a0 hw n0 h C0 (Q := RN (fun h' => h = h')) ⟨rfl, rfl⟩) ?_
  rintro _ rfl
  refine Go.aloadN d3_4 (q := 5) rfl rfl rfl ?_
  refine Go.iloadN d3_5 (q := 6) rfl rfl ?_
  refine Go.if_ne d3_6 (q := 13) (q' := 9) (by decide) rfl rfl (fun c_ => absurd (by decide) c_) (fun _ => ?_)
  refine Go.iconst d3_9 (q := 10) rfl (x := (0 : Int32)) (by decide) ?_
  refine Go.goto d3_10 (q := 17) (by decide) rfl ?_
  refine Go.putF d3_17 (q := 20) rfl (host := "") (Or.inl (w50 hw)) Via.refl C0.fd.count C0.exa (Or.inl (w51 hw)) (w4 hw) pTn rfl rfl C0.nc ?_
  intro g53 Wg53
  have Cg53 : CN Z g53 n0 c A ax (-1 : Int32) (0 : Int32) its [(.int s0), (.int s1), (.int s2)] [(.int l0), (.int l1)] [(.int g0), (.int g1)] [(.double p0), (.double p1)] [(.double u0), (.double u1)] [(.double x0), (.double x1)] := C0.w_count hw Wg53
  refine Go.aloadN d3_20 (q := 21) rfl rfl rfl ?_
  refine Go.iloadN d3_21 (q := 22) rfl rfl ?_
  refine Go.putF d3_22 (q := 25) rfl (host := "") (Or.inl (w12 hw)) Via.refl Cg53.fd.open Cg53.exa (Or.inl (w13 hw)) (w4 hw) pTn rfl rfl Cg53.nc ?_
  intro g54 Wg54
  have Cg54 : CN Z g54 n0 c A ax (0 : Int32) (0 : Int32) its [(.int s0), (.int s1), (.int s2)] [(.int l0), (.int l1)] [(.int g0), (.int g1)] [(.double p0), (.double p1)] [(.double u0), (.double u1)] [(.double x0), (.double x1)] := Cg53.w_open hw Wg54
  refine Go.aloadN d3_25 (q := 26) rfl rfl rfl ?_
  refine Go.getF d3_26 (q := 29) rfl (host := "") (Or.inl (w17 hw)) Via.refl Cg54.fd.starts ?_
  refine Go.iloadN d3_29 (q := 30) rfl rfl ?_
  refine Go.aloadN d3_30 (q := 31) rfl rfl rfl ?_
  refine Go.getF d3_31 (q := 34) rfl (host := "") (Or.inl (w50 hw)) Via.refl Cg54.fd.count ?_
  refine Go.iastore d3_34 (q := 35) rfl (Cg54.a0).choose_spec (by decide) (by exact (by decide : (0 : Nat) < 3)) Cg54.na0 ?_
  intro g55 Wg55
  have Cg55 : CN Z g55 n0 c A ax (0 : Int32) (0 : Int32) its [(.int (0 : Int32)), (.int s1), (.int s2)] [(.int l0), (.int l1)] [(.int g0), (.int g1)] [(.double p0), (.double p1)] [(.double u0), (.double u1)] [(.double x0), (.double x1)] := Cg54.w0 Wg55
  refine Go.aloadN d3_35 (q := 36) rfl rfl rfl ?_
  refine Go.getF d3_36 (q := 39) rfl (host := "") (Or.inl (w25 hw)) Via.refl Cg55.fd.gains ?_
  refine Go.iloadN d3_39 (q := 40) rfl rfl ?_
  refine Go.dconst0 d3_40 (q := 41) rfl ?_
  refine Go.dastore d3_41 (q := 42) rfl (Cg55.a4).choose_spec (by decide) (by exact (by decide : (0 : Nat) < 2)) Cg55.na4 ?_
  intro g56 Wg56
  have Cg56 : CN Z g56 n0 c A ax (0 : Int32) (0 : Int32) its [(.int (0 : Int32)), (.int s1), (.int s2)] [(.int l0), (.int l1)] [(.int g0), (.int g1)] [(.double p0), (.double p1)] [(.double 0), (.double u1)] [(.double x0), (.double x1)] := Cg55.w4 Wg56
  refine Go.vreturn d3_42 (by decide) (by decide) ?_
  exact hQ g56 Cg56
set_option maxRecDepth 65536 in
set_option maxHeartbeats 40000000 in
theorem state1_0 (l : Launch) (Z : State) (a0 : Array Value) (hw : Hw a0 Z) (n0 : Nat) (h : Heap) {c : Addr} {A : Nat → Addr} {ax : Addr} {its s1 s2 l0 l1 g0 g1 : Int32} {p0 p1 u0 u1 x0 x1 : UInt64} (t0 : ¬ g0 < 0) (t1 : ¬ g1 < 0) (C0 : CN Z h n0 c A ax (0 : Int32) (0 : Int32) its [(.int (0 : Int32)), (.int s1), (.int s2)] [(.int l0), (.int l1)] [(.int g0), (.int g1)] [(.double p0), (.double p1)] [(.double u0), (.double u1)] [(.double x0), (.double x1)]) {Q : Option Value → Heap → Prop} (hQ : ∀ h', CN Z h' n0 c A ax (1 : Int32) (0 : Int32) its [(.int (0 : Int32)), (.int (0 : Int32)), (.int s2)] [(.int (0 : Int32)), (.int l1)] [(.int g0), (.int g1)] [(.double p0), (.double p1)] [(.double u0), (.double 0)] [(.double x0), (.double x1)] → Q none h') :
    Go l Z (⟨"com/example/nona/nona/solver/ApproximateChain", "state", "(I)V"⟩ : MethodName) prog_136_method_2_code 2 none ({ frames := 1, cells := 0, slots := 0, locals := 18 } : Room) n0 Q h 0 0 0 #[.val (.ref c), .val (.int (1 : Int32))] [] := by
  refine Go.aloadN d3_0 (q := 1) rfl rfl rfl ?_
  refine Go.callPN (P := fun h' => CN Z h' n0 c A ax (-1 : Int32) (0 : Int32) its [(.int (0 : Int32)), (.int (0 : Int32)), (.int s2)] [(.int (0 : Int32)), (.int l1)] [(.int g0), (.int g1)] [(.double p0), (.double p1)] [(.double u0), (.double u1)] [(.double x0), (.double x1)]) (argsL := []) (rest := []) (wd := 0) (Ls1 := #[.val (.ref c), .unset, .unset, .unset, .unset, .unset, .unset]) d3_1 (q := 4) rfl (w46 hw) (w48 hw) (w44 hw) rfl (w47 hw) (w49 hw) (w5 hw) (by decide) pn4 pd4 rfl rfl C0.exa (fun m_ => by simp [entryFrame, mkF, argsToLocals, Value.category]) rfl (by decide) rfl (by decide) (by decide) (by decide) (close0_0 l Z a0 hw n0 h t0 t1 C0 (Q := RN (fun h' => CN Z h' n0 c A ax (-1 : Int32) (0 : Int32) its [(.int (0 : Int32)), (.int (0 : Int32)), (.int s2)] [(.int (0 : Int32)), (.int l1)] [(.int g0), (.int g1)] [(.double p0), (.double p1)] [(.double u0), (.double u1)] [(.double x0), (.double x1)])) (fun h' q => ⟨rfl, q⟩)) ?_
  intro g57 Cg57
  refine Go.aloadN d3_4 (q := 5) rfl rfl rfl ?_
  refine Go.iloadN d3_5 (q := 6) rfl rfl ?_
  refine Go.if_ne d3_6 (q := 13) (q' := 9) (by decide) rfl rfl (fun _ => ?_) (fun c_ => absurd c_ (by decide))
  refine Go.aloadN d3_13 (q := 14) rfl rfl rfl ?_
  refine Go.getF d3_14 (q := 17) rfl (host := "") (Or.inl (w50 hw)) Via.refl Cg57.fd.count ?_
  refine Go.putF d3_17 (q := 20) rfl (host := "") (Or.inl (w50 hw)) Via.refl Cg57.fd.count Cg57.exa (Or.inl (w51 hw)) (w4 hw) pTn rfl rfl Cg57.nc ?_
  intro g59 Wg59
  have Cg59 : CN Z g59 n0 c A ax (-1 : Int32) (0 : Int32) its [(.int (0 : Int32)), (.int (0 : Int32)), (.int s2)] [(.int (0 : Int32)), (.int l1)] [(.int g0), (.int g1)] [(.double p0), (.double p1)] [(.double u0), (.double u1)] [(.double x0), (.double x1)] := Cg57.w_count hw Wg59
  refine Go.aloadN d3_20 (q := 21) rfl rfl rfl ?_
  refine Go.iloadN d3_21 (q := 22) rfl rfl ?_
  refine Go.putF d3_22 (q := 25) rfl (host := "") (Or.inl (w12 hw)) Via.refl Cg59.fd.open Cg59.exa (Or.inl (w13 hw)) (w4 hw) pTn rfl rfl Cg59.nc ?_
  intro g60 Wg60
  have Cg60 : CN Z g60 n0 c A ax (1 : Int32) (0 : Int32) its [(.int (0 : Int32)), (.int (0 : Int32)), (.int s2)] [(.int (0 : Int32)), (.int l1)] [(.int g0), (.int g1)] [(.double p0), (.double p1)] [(.double u0), (.double u1)] [(.double x0), (.double x1)] := Cg59.w_open hw Wg60
  refine Go.aloadN d3_25 (q := 26) rfl rfl rfl ?_
  refine Go.getF d3_26 (q := 29) rfl (host := "") (Or.inl (w17 hw)) Via.refl Cg60.fd.starts ?_
  refine Go.iloadN d3_29 (q := 30) rfl rfl ?_
  refine Go.aloadN d3_30 (q := 31) rfl rfl rfl ?_
  refine Go.getF d3_31 (q := 34) rfl (host := "") (Or.inl (w50 hw)) Via.refl Cg60.fd.count ?_
  refine Go.iastore d3_34 (q := 35) rfl (Cg60.a0).choose_spec (by decide) (by exact (by decide : (1 : Nat) < 3)) Cg60.na0 ?_
  intro g61 Wg61
  have Cg61 : CN Z g61 n0 c A ax (1 : Int32) (0 : Int32) its [(.int (0 : Int32)), (.int (0 : Int32)), (.int s2)] [(.int (0 : Int32)), (.int l1)] [(.int g0), (.int g1)] [(.double p0), (.double p1)] [(.double u0), (.double u1)] [(.double x0), (.double x1)] := Cg60.w0 Wg61
  refine Go.aloadN d3_35 (q := 36) rfl rfl rfl ?_
  refine Go.getF d3_36 (q := 39) rfl (host := "") (Or.inl (w25 hw)) Via.refl Cg61.fd.gains ?_
  refine Go.iloadN d3_39 (q := 40) rfl rfl ?_
  refine Go.dconst0 d3_40 (q := 41) rfl ?_
  refine Go.dastore d3_41 (q := 42) rfl (Cg61.a4).choose_spec (by decide) (by exact (by decide : (1 : Nat) < 2)) Cg61.na4 ?_
  intro g62 Wg62
  have Cg62 : CN Z g62 n0 c A ax (1 : Int32) (0 : Int32) its [(.int (0 : Int32)), (.int (0 : Int32)), (.int s2)] [(.int (0 : Int32)), (.int l1)] [(.int g0), (.int g1)] [(.double p0), (.double p1)] [(.double u0), (.double 0)] [(.double x0), (.double x1)] := Cg61.w4 Wg62
  refine Go.vreturn d3_42 (by decide) (by decide) ?_
  exact hQ g62 Cg62
set_option maxRecDepth 65536 in
set_option maxHeartbeats 40000000 in
theorem state1_1 (l : Launch) (Z : State) (a0 : Array Value) (hw : Hw a0 Z) (n0 : Nat) (h : Heap) {c : Addr} {A : Nat → Addr} {ax : Addr} {its s1 s2 l0 l1 g0 g1 : Int32} {p0 p1 u0 u1 x0 x1 : UInt64} (t0 : ¬ g0 < 0) (t1 : ¬ g1 < 0) (C0 : CN Z h n0 c A ax (0 : Int32) (1 : Int32) its [(.int (0 : Int32)), (.int s1), (.int s2)] [(.int l0), (.int l1)] [(.int g0), (.int g1)] [(.double p0), (.double p1)] [(.double u0), (.double u1)] [(.double x0), (.double x1)]) {Q : Option Value → Heap → Prop} (hQ : ∀ h', CN Z h' n0 c A ax (1 : Int32) (1 : Int32) its [(.int (0 : Int32)), (.int (1 : Int32)), (.int s2)] [(.int (0 : Int32)), (.int l1)] [(.int g0), (.int g1)] [(.double p0), (.double p1)] [(.double u0), (.double 0)] [(.double x0), (.double x1)] → Q none h') :
    Go l Z (⟨"com/example/nona/nona/solver/ApproximateChain", "state", "(I)V"⟩ : MethodName) prog_136_method_2_code 2 none ({ frames := 1, cells := 0, slots := 0, locals := 18 } : Room) n0 Q h 0 0 0 #[.val (.ref c), .val (.int (1 : Int32))] [] := by
  refine Go.aloadN d3_0 (q := 1) rfl rfl rfl ?_
  refine Go.callPN (P := fun h' => CN Z h' n0 c A ax (-1 : Int32) (1 : Int32) its [(.int (0 : Int32)), (.int (1 : Int32)), (.int s2)] [(.int (0 : Int32)), (.int l1)] [(.int g0), (.int g1)] [(.double p0), (.double p1)] [(.double u0), (.double u1)] [(.double x0), (.double x1)]) (argsL := []) (rest := []) (wd := 0) (Ls1 := #[.val (.ref c), .unset, .unset, .unset, .unset, .unset, .unset]) d3_1 (q := 4) rfl (w46 hw) (w48 hw) (w44 hw) rfl (w47 hw) (w49 hw) (w5 hw) (by decide) pn4 pd4 rfl rfl C0.exa (fun m_ => by simp [entryFrame, mkF, argsToLocals, Value.category]) rfl (by decide) rfl (by decide) (by decide) (by decide) (close0_1 l Z a0 hw n0 h t0 t1 C0 (Q := RN (fun h' => CN Z h' n0 c A ax (-1 : Int32) (1 : Int32) its [(.int (0 : Int32)), (.int (1 : Int32)), (.int s2)] [(.int (0 : Int32)), (.int l1)] [(.int g0), (.int g1)] [(.double p0), (.double p1)] [(.double u0), (.double u1)] [(.double x0), (.double x1)])) (fun h' q => ⟨rfl, q⟩)) ?_
  intro g63 Cg63
  refine Go.aloadN d3_4 (q := 5) rfl rfl rfl ?_
  refine Go.iloadN d3_5 (q := 6) rfl rfl ?_
  refine Go.if_ne d3_6 (q := 13) (q' := 9) (by decide) rfl rfl (fun _ => ?_) (fun c_ => absurd c_ (by decide))
  refine Go.aloadN d3_13 (q := 14) rfl rfl rfl ?_
  refine Go.getF d3_14 (q := 17) rfl (host := "") (Or.inl (w50 hw)) Via.refl Cg63.fd.count ?_
  refine Go.putF d3_17 (q := 20) rfl (host := "") (Or.inl (w50 hw)) Via.refl Cg63.fd.count Cg63.exa (Or.inl (w51 hw)) (w4 hw) pTn rfl rfl Cg63.nc ?_
  intro g65 Wg65
  have Cg65 : CN Z g65 n0 c A ax (-1 : Int32) (1 : Int32) its [(.int (0 : Int32)), (.int (1 : Int32)), (.int s2)] [(.int (0 : Int32)), (.int l1)] [(.int g0), (.int g1)] [(.double p0), (.double p1)] [(.double u0), (.double u1)] [(.double x0), (.double x1)] := Cg63.w_count hw Wg65
  refine Go.aloadN d3_20 (q := 21) rfl rfl rfl ?_
  refine Go.iloadN d3_21 (q := 22) rfl rfl ?_
  refine Go.putF d3_22 (q := 25) rfl (host := "") (Or.inl (w12 hw)) Via.refl Cg65.fd.open Cg65.exa (Or.inl (w13 hw)) (w4 hw) pTn rfl rfl Cg65.nc ?_
  intro g66 Wg66
  have Cg66 : CN Z g66 n0 c A ax (1 : Int32) (1 : Int32) its [(.int (0 : Int32)), (.int (1 : Int32)), (.int s2)] [(.int (0 : Int32)), (.int l1)] [(.int g0), (.int g1)] [(.double p0), (.double p1)] [(.double u0), (.double u1)] [(.double x0), (.double x1)] := Cg65.w_open hw Wg66
  refine Go.aloadN d3_25 (q := 26) rfl rfl rfl ?_
  refine Go.getF d3_26 (q := 29) rfl (host := "") (Or.inl (w17 hw)) Via.refl Cg66.fd.starts ?_
  refine Go.iloadN d3_29 (q := 30) rfl rfl ?_
  refine Go.aloadN d3_30 (q := 31) rfl rfl rfl ?_
  refine Go.getF d3_31 (q := 34) rfl (host := "") (Or.inl (w50 hw)) Via.refl Cg66.fd.count ?_
  refine Go.iastore d3_34 (q := 35) rfl (Cg66.a0).choose_spec (by decide) (by exact (by decide : (1 : Nat) < 3)) Cg66.na0 ?_
  intro g67 Wg67
  have Cg67 : CN Z g67 n0 c A ax (1 : Int32) (1 : Int32) its [(.int (0 : Int32)), (.int (1 : Int32)), (.int s2)] [(.int (0 : Int32)), (.int l1)] [(.int g0), (.int g1)] [(.double p0), (.double p1)] [(.double u0), (.double u1)] [(.double x0), (.double x1)] := Cg66.w0 Wg67
  refine Go.aloadN d3_35 (q := 36) rfl rfl rfl ?_
  refine Go.getF d3_36 (q := 39) rfl (host := "") (Or.inl (w25 hw)) Via.refl Cg67.fd.gains ?_
  refine Go.iloadN d3_39 (q := 40) rfl rfl ?_
  refine Go.dconst0 d3_40 (q := 41) rfl ?_
  refine Go.dastore d3_41 (q := 42) rfl (Cg67.a4).choose_spec (by decide) (by exact (by decide : (1 : Nat) < 2)) Cg67.na4 ?_
  intro g68 Wg68
  have Cg68 : CN Z g68 n0 c A ax (1 : Int32) (1 : Int32) its [(.int (0 : Int32)), (.int (1 : Int32)), (.int s2)] [(.int (0 : Int32)), (.int l1)] [(.int g0), (.int g1)] [(.double p0), (.double p1)] [(.double u0), (.double 0)] [(.double x0), (.double x1)] := Cg67.w4 Wg68
  refine Go.vreturn d3_42 (by decide) (by decide) ?_
  exact hQ g68 Cg68
set_option maxRecDepth 65536 in
set_option maxHeartbeats 40000000 in
theorem state1_2 (l : Launch) (Z : State) (a0 : Array Value) (hw : Hw a0 Z) (n0 : Nat) (h : Heap) {c : Addr} {A : Nat → Addr} {ax : Addr} {its s1 s2 l0 l1 g0 g1 : Int32} {p0 p1 u0 u1 x0 x1 : UInt64} (t0 : ¬ g0 < 0) (t1 : ¬ g1 < 0) (C0 : CN Z h n0 c A ax (0 : Int32) (2 : Int32) its [(.int (0 : Int32)), (.int s1), (.int s2)] [(.int l0), (.int l1)] [(.int g0), (.int g1)] [(.double p0), (.double p1)] [(.double u0), (.double u1)] [(.double x0), (.double x1)]) {Q : Option Value → Heap → Prop} (hQ : ∀ h', CN Z h' n0 c A ax (1 : Int32) (2 : Int32) its [(.int (0 : Int32)), (.int (2 : Int32)), (.int s2)] [(.int (0 : Int32)), (.int l1)] [(.int g0), (.int g1)] [(.double p0), (.double p1)] [(.double u0), (.double 0)] [(.double x0), (.double x1)] → Q none h') :
    Go l Z (⟨"com/example/nona/nona/solver/ApproximateChain", "state", "(I)V"⟩ : MethodName) prog_136_method_2_code 2 none ({ frames := 1, cells := 0, slots := 0, locals := 18 } : Room) n0 Q h 0 0 0 #[.val (.ref c), .val (.int (1 : Int32))] [] := by
  refine Go.aloadN d3_0 (q := 1) rfl rfl rfl ?_
  refine Go.callPN (P := fun h' => CN Z h' n0 c A ax (-1 : Int32) (2 : Int32) its [(.int (0 : Int32)), (.int (2 : Int32)), (.int s2)] [(.int (0 : Int32)), (.int l1)] [(.int g0), (.int g1)] [(.double p0), (.double p1)] [(.double u0), (.double u1)] [(.double x0), (.double x1)]) (argsL := []) (rest := []) (wd := 0) (Ls1 := #[.val (.ref c), .unset, .unset, .unset, .unset, .unset, .unset]) d3_1 (q := 4) rfl (w46 hw) (w48 hw) (w44 hw) rfl (w47 hw) (w49 hw) (w5 hw) (by decide) pn4 pd4 rfl rfl C0.exa (fun m_ => by simp [entryFrame, mkF, argsToLocals, Value.category]) rfl (by decide) rfl (by decide) (by decide) (by decide) (close0_2 l Z a0 hw n0 h t0 t1 C0 (Q := RN (fun h' => CN Z h' n0 c A ax (-1 : Int32) (2 : Int32) its [(.int (0 : Int32)), (.int (2 : Int32)), (.int s2)] [(.int (0 : Int32)), (.int l1)] [(.int g0), (.int g1)] [(.double p0), (.double p1)] [(.double u0), (.double u1)] [(.double x0), (.double x1)])) (fun h' q => ⟨rfl, q⟩)) ?_
  intro g69 Cg69
  refine Go.aloadN d3_4 (q := 5) rfl rfl rfl ?_
  refine Go.iloadN d3_5 (q := 6) rfl rfl ?_
  refine Go.if_ne d3_6 (q := 13) (q' := 9) (by decide) rfl rfl (fun _ => ?_) (fun c_ => absurd c_ (by decide))
  refine Go.aloadN d3_13 (q := 14) rfl rfl rfl ?_
  refine Go.getF d3_14 (q := 17) rfl (host := "") (Or.inl (w50 hw)) Via.refl Cg69.fd.count ?_
  refine Go.putF d3_17 (q := 20) rfl (host := "") (Or.inl (w50 hw)) Via.refl Cg69.fd.count Cg69.exa (Or.inl (w51 hw)) (w4 hw) pTn rfl rfl Cg69.nc ?_
  intro g71 Wg71
  have Cg71 : CN Z g71 n0 c A ax (-1 : Int32) (2 : Int32) its [(.int (0 : Int32)), (.int (2 : Int32)), (.int s2)] [(.int (0 : Int32)), (.int l1)] [(.int g0), (.int g1)] [(.double p0), (.double p1)] [(.double u0), (.double u1)] [(.double x0), (.double x1)] := Cg69.w_count hw Wg71
  refine Go.aloadN d3_20 (q := 21) rfl rfl rfl ?_
  refine Go.iloadN d3_21 (q := 22) rfl rfl ?_
  refine Go.putF d3_22 (q := 25) rfl (host := "") (Or.inl (w12 hw)) Via.refl Cg71.fd.open Cg71.exa (Or.inl (w13 hw)) (w4 hw) pTn rfl rfl Cg71.nc ?_
  intro g72 Wg72
  have Cg72 : CN Z g72 n0 c A ax (1 : Int32) (2 : Int32) its [(.int (0 : Int32)), (.int (2 : Int32)), (.int s2)] [(.int (0 : Int32)), (.int l1)] [(.int g0), (.int g1)] [(.double p0), (.double p1)] [(.double u0), (.double u1)] [(.double x0), (.double x1)] := Cg71.w_open hw Wg72
  refine Go.aloadN d3_25 (q := 26) rfl rfl rfl ?_
  refine Go.getF d3_26 (q := 29) rfl (host := "") (Or.inl (w17 hw)) Via.refl Cg72.fd.starts ?_
  refine Go.iloadN d3_29 (q := 30) rfl rfl ?_
  refine Go.aloadN d3_30 (q := 31) rfl rfl rfl ?_
  refine Go.getF d3_31 (q := 34) rfl (host := "") (Or.inl (w50 hw)) Via.refl Cg72.fd.count ?_
  refine Go.iastore d3_34 (q := 35) rfl (Cg72.a0).choose_spec (by decide) (by exact (by decide : (1 : Nat) < 3)) Cg72.na0 ?_
  intro g73 Wg73
  have Cg73 : CN Z g73 n0 c A ax (1 : Int32) (2 : Int32) its [(.int (0 : Int32)), (.int (2 : Int32)), (.int s2)] [(.int (0 : Int32)), (.int l1)] [(.int g0), (.int g1)] [(.double p0), (.double p1)] [(.double u0), (.double u1)] [(.double x0), (.double x1)] := Cg72.w0 Wg73
  refine Go.aloadN d3_35 (q := 36) rfl rfl rfl ?_
  refine Go.getF d3_36 (q := 39) rfl (host := "") (Or.inl (w25 hw)) Via.refl Cg73.fd.gains ?_
  refine Go.iloadN d3_39 (q := 40) rfl rfl ?_
  refine Go.dconst0 d3_40 (q := 41) rfl ?_
  refine Go.dastore d3_41 (q := 42) rfl (Cg73.a4).choose_spec (by decide) (by exact (by decide : (1 : Nat) < 2)) Cg73.na4 ?_
  intro g74 Wg74
  have Cg74 : CN Z g74 n0 c A ax (1 : Int32) (2 : Int32) its [(.int (0 : Int32)), (.int (2 : Int32)), (.int s2)] [(.int (0 : Int32)), (.int l1)] [(.int g0), (.int g1)] [(.double p0), (.double p1)] [(.double u0), (.double 0)] [(.double x0), (.double x1)] := Cg73.w4 Wg74
  refine Go.vreturn d3_42 (by decide) (by decide) ?_
  exact hQ g74 Cg74
set_option maxRecDepth 65536 in
set_option maxHeartbeats 40000000 in
theorem move0 (l : Launch) (Z : State) (a0 : Array Value) (hw : Hw a0 Z) (n0 : Nat) (h : Heap) {c : Addr} {A : Nat → Addr} {ax : Addr} {opn its s0 s1 s2 l0 l1 g0 g1 : Int32} {p0 p1 u0 u1 x0 x1 : UInt64} (t : Int32) (pv : UInt64) (C0 : CN Z h n0 c A ax opn (0 : Int32) its [(.int s0), (.int s1), (.int s2)] [(.int l0), (.int l1)] [(.int g0), (.int g1)] [(.double p0), (.double p1)] [(.double u0), (.double u1)] [(.double x0), (.double x1)]) {Q : Option Value → Heap → Prop} (hQ : ∀ h', CN Z h' n0 c A ax opn (1 : Int32) its [(.int s0), (.int s1), (.int s2)] [(.int l0), (.int l1)] [(.int t), (.int g1)] [(.double pv), (.double p1)] [(.double u0), (.double u1)] [(.double x0), (.double x1)] → Q none h') :
    Go l Z (⟨"com/example/nona/nona/solver/ApproximateChain", "move", "(ID)V"⟩ : MethodName) prog_136_method_3_code 4 none ({ frames := 0, cells := 0, slots := 0, locals := 0 } : Room) n0 Q h 0 0 0 #[.val (.ref c), .val (.int t), .val (.double pv), .second] [] := by
  refine Go.aloadN d10_0 (q := 1) rfl rfl rfl ?_
  refine Go.getF d10_1 (q := 4) rfl (host := "") (Or.inl (w21 hw)) Via.refl C0.fd.targets ?_
  refine Go.aloadN d10_4 (q := 5) rfl rfl rfl ?_
  refine Go.getF d10_5 (q := 8) rfl (host := "") (Or.inl (w50 hw)) Via.refl C0.fd.count ?_
  refine Go.iloadN d10_8 (q := 9) rfl rfl ?_
  refine Go.iastore d10_9 (q := 10) rfl (C0.a2).choose_spec (by decide) (by exact (by decide : (0 : Nat) < 2)) C0.na2 ?_
  intro g75 Wg75
  have Cg75 : CN Z g75 n0 c A ax opn (0 : Int32) its [(.int s0), (.int s1), (.int s2)] [(.int l0), (.int l1)] [(.int t), (.int g1)] [(.double p0), (.double p1)] [(.double u0), (.double u1)] [(.double x0), (.double x1)] := C0.w2 Wg75
  refine Go.aloadN d10_10 (q := 11) rfl rfl rfl ?_
  refine Go.getF d10_11 (q := 14) rfl (host := "") (Or.inl (w23 hw)) Via.refl Cg75.fd.probabilities ?_
  refine Go.aloadN d10_14 (q := 15) rfl rfl rfl ?_
  refine Go.getF d10_15 (q := 18) rfl (host := "") (Or.inl (w50 hw)) Via.refl Cg75.fd.count ?_
  refine Go.dloadN d10_18 (q := 19) rfl rfl ?_
  refine Go.dastore d10_19 (q := 20) rfl (Cg75.a3).choose_spec (by decide) (by exact (by decide : (0 : Nat) < 2)) Cg75.na3 ?_
  intro g76 Wg76
  have Cg76 : CN Z g76 n0 c A ax opn (0 : Int32) its [(.int s0), (.int s1), (.int s2)] [(.int l0), (.int l1)] [(.int t), (.int g1)] [(.double pv), (.double p1)] [(.double u0), (.double u1)] [(.double x0), (.double x1)] := Cg75.w3 Wg76
  refine Go.aloadN d10_20 (q := 21) rfl rfl rfl ?_
  refine Go.dup d10_21 (q := 22) rfl rfl ?_
  refine Go.getF d10_22 (q := 25) rfl (host := "") (Or.inl (w50 hw)) Via.refl Cg76.fd.count ?_
  refine Go.iconst d10_25 (q := 26) rfl (x := (1 : Int32)) (by decide) ?_
  refine Go.iadd d10_26 (q := 27) rfl ?_
  rw [show ((0 : Int32) + (1 : Int32)) = (1 : Int32) from rfl]
  refine Go.putF d10_27 (q := 30) rfl (host := "") (Or.inl (w50 hw)) Via.refl Cg76.fd.count Cg76.exa (Or.inl (w51 hw)) (w4 hw) pTn rfl rfl Cg76.nc ?_
  intro g77 Wg77
  have Cg77 : CN Z g77 n0 c A ax opn (1 : Int32) its [(.int s0), (.int s1), (.int s2)] [(.int l0), (.int l1)] [(.int t), (.int g1)] [(.double pv), (.double p1)] [(.double u0), (.double u1)] [(.double x0), (.double x1)] := Cg76.w_count hw Wg77
  refine Go.vreturn d10_30 (by decide) (by decide) ?_
  exact hQ g77 Cg77
set_option maxRecDepth 65536 in
set_option maxHeartbeats 40000000 in
theorem move1 (l : Launch) (Z : State) (a0 : Array Value) (hw : Hw a0 Z) (n0 : Nat) (h : Heap) {c : Addr} {A : Nat → Addr} {ax : Addr} {opn its s0 s1 s2 l0 l1 g0 g1 : Int32} {p0 p1 u0 u1 x0 x1 : UInt64} (t : Int32) (pv : UInt64) (C0 : CN Z h n0 c A ax opn (1 : Int32) its [(.int s0), (.int s1), (.int s2)] [(.int l0), (.int l1)] [(.int g0), (.int g1)] [(.double p0), (.double p1)] [(.double u0), (.double u1)] [(.double x0), (.double x1)]) {Q : Option Value → Heap → Prop} (hQ : ∀ h', CN Z h' n0 c A ax opn (2 : Int32) its [(.int s0), (.int s1), (.int s2)] [(.int l0), (.int l1)] [(.int g0), (.int t)] [(.double p0), (.double pv)] [(.double u0), (.double u1)] [(.double x0), (.double x1)] → Q none h') :
    Go l Z (⟨"com/example/nona/nona/solver/ApproximateChain", "move", "(ID)V"⟩ : MethodName) prog_136_method_3_code 4 none ({ frames := 0, cells := 0, slots := 0, locals := 0 } : Room) n0 Q h 0 0 0 #[.val (.ref c), .val (.int t), .val (.double pv), .second] [] := by
  refine Go.aloadN d10_0 (q := 1) rfl rfl rfl ?_
  refine Go.getF d10_1 (q := 4) rfl (host := "") (Or.inl (w21 hw)) Via.refl C0.fd.targets ?_
  refine Go.aloadN d10_4 (q := 5) rfl rfl rfl ?_
  refine Go.getF d10_5 (q := 8) rfl (host := "") (Or.inl (w50 hw)) Via.refl C0.fd.count ?_
  refine Go.iloadN d10_8 (q := 9) rfl rfl ?_
  refine Go.iastore d10_9 (q := 10) rfl (C0.a2).choose_spec (by decide) (by exact (by decide : (1 : Nat) < 2)) C0.na2 ?_
  intro g78 Wg78
  have Cg78 : CN Z g78 n0 c A ax opn (1 : Int32) its [(.int s0), (.int s1), (.int s2)] [(.int l0), (.int l1)] [(.int g0), (.int t)] [(.double p0), (.double p1)] [(.double u0), (.double u1)] [(.double x0), (.double x1)] := C0.w2 Wg78
  refine Go.aloadN d10_10 (q := 11) rfl rfl rfl ?_
  refine Go.getF d10_11 (q := 14) rfl (host := "") (Or.inl (w23 hw)) Via.refl Cg78.fd.probabilities ?_
  refine Go.aloadN d10_14 (q := 15) rfl rfl rfl ?_
  refine Go.getF d10_15 (q := 18) rfl (host := "") (Or.inl (w50 hw)) Via.refl Cg78.fd.count ?_
  refine Go.dloadN d10_18 (q := 19) rfl rfl ?_
  refine Go.dastore d10_19 (q := 20) rfl (Cg78.a3).choose_spec (by decide) (by exact (by decide : (1 : Nat) < 2)) Cg78.na3 ?_
  intro g79 Wg79
  have Cg79 : CN Z g79 n0 c A ax opn (1 : Int32) its [(.int s0), (.int s1), (.int s2)] [(.int l0), (.int l1)] [(.int g0), (.int t)] [(.double p0), (.double pv)] [(.double u0), (.double u1)] [(.double x0), (.double x1)] := Cg78.w3 Wg79
  refine Go.aloadN d10_20 (q := 21) rfl rfl rfl ?_
  refine Go.dup d10_21 (q := 22) rfl rfl ?_
  refine Go.getF d10_22 (q := 25) rfl (host := "") (Or.inl (w50 hw)) Via.refl Cg79.fd.count ?_
  refine Go.iconst d10_25 (q := 26) rfl (x := (1 : Int32)) (by decide) ?_
  refine Go.iadd d10_26 (q := 27) rfl ?_
  rw [show ((1 : Int32) + (1 : Int32)) = (2 : Int32) from rfl]
  refine Go.putF d10_27 (q := 30) rfl (host := "") (Or.inl (w50 hw)) Via.refl Cg79.fd.count Cg79.exa (Or.inl (w51 hw)) (w4 hw) pTn rfl rfl Cg79.nc ?_
  intro g80 Wg80
  have Cg80 : CN Z g80 n0 c A ax opn (2 : Int32) its [(.int s0), (.int s1), (.int s2)] [(.int l0), (.int l1)] [(.int g0), (.int t)] [(.double p0), (.double pv)] [(.double u0), (.double u1)] [(.double x0), (.double x1)] := Cg79.w_count hw Wg80
  refine Go.vreturn d10_30 (by decide) (by decide) ?_
  exact hQ g80 Cg80
set_option maxRecDepth 65536 in
set_option maxHeartbeats 40000000 in
theorem gain (l : Launch) (Z : State) (a0 : Array Value) (hw : Hw a0 Z) (n0 : Nat) (h : Heap) {c : Addr} {A : Nat → Addr} {ax : Addr} {cn its s0 s1 s2 l0 l1 g0 g1 : Int32} {p0 p1 u0 x0 x1 : UInt64} (am : UInt64) {M : Int} (sa : Sx M am) (bM : M.natAbs ≤ 16384) (C0 : CN Z h n0 c A ax (1 : Int32) cn its [(.int s0), (.int s1), (.int s2)] [(.int l0), (.int l1)] [(.int g0), (.int g1)] [(.double p0), (.double p1)] [(.double u0), (.double 0)] [(.double x0), (.double x1)]) {Q : Option Value → Heap → Prop} (hQ : ∀ h' v, Sx (0 + M) v → CN Z h' n0 c A ax (1 : Int32) cn its [(.int s0), (.int s1), (.int s2)] [(.int l0), (.int l1)] [(.int g0), (.int g1)] [(.double p0), (.double p1)] [(.double u0), (.double v)] [(.double x0), (.double x1)] → Q none h') :
    Go l Z (⟨"com/example/nona/nona/solver/ApproximateChain", "gain", "(D)V"⟩ : MethodName) prog_136_method_4_code 3 none ({ frames := 0, cells := 0, slots := 0, locals := 0 } : Room) n0 Q h 0 0 0 #[.val (.ref c), .val (.double am), .second] [] := by
  refine Go.aloadN d5_0 (q := 1) rfl rfl rfl ?_
  refine Go.getF d5_1 (q := 4) rfl (host := "") (Or.inl (w25 hw)) Via.refl C0.fd.gains ?_
  refine Go.aloadN d5_4 (q := 5) rfl rfl rfl ?_
  refine Go.getF d5_5 (q := 8) rfl (host := "") (Or.inl (w12 hw)) Via.refl C0.fd.open ?_
  refine Go.dup2 d5_8 (q := 9) rfl rfl rfl ?_
  refine Go.daload d5_9 (q := 10) rfl (C0.a4).choose_spec (by decide) rfl ?_
  refine Go.dloadN d5_10 (q := 11) rfl rfl ?_
  refine Go.daddX d5_11 (q := 12) rfl (sx_add sx_zero sa (by omega)) ?_
  intro v81 sv81
  refine Go.dastore d5_12 (q := 13) rfl (C0.a4).choose_spec (by decide) (by exact (by decide : (1 : Nat) < 2)) C0.na4 ?_
  intro g82 Wg82
  have Cg82 : CN Z g82 n0 c A ax (1 : Int32) cn its [(.int s0), (.int s1), (.int s2)] [(.int l0), (.int l1)] [(.int g0), (.int g1)] [(.double p0), (.double p1)] [(.double u0), (.double v81)] [(.double x0), (.double x1)] := C0.w4 Wg82
  refine Go.vreturn d5_13 (by decide) (by decide) ?_
  exact hQ g82 v81 sv81 Cg82
set_option maxRecDepth 65536 in
set_option maxHeartbeats 40000000 in
theorem sv4_0_eq (l : Launch) (Z : State) (a0 : Array Value) (hw : Hw a0 Z) (n0 : Nat) (h : Heap) {c : Addr} {A : Nat → Addr} {ax : Addr} {its l0 l1 g0 g1 : Int32} {p0 p1 u1 x0 x1 : UInt64} (X0 X1 U1 T  : Int) (tol  : UInt64) (sx0 : Sx X0 x0) (sx1 : Sx X1 x1) (su1 : Sx U1 u1) (hU : U1 = X1) (bX0 : X0.natAbs ≤ 16384) (bX1 : X1.natAbs ≤ 16384) (sT : Sx T tol) (hT : T = ((0 - X0).natAbs : Int)) (C0 : CN Z h n0 c A ax (-1 : Int32) (0 : Int32) its [(.int (0 : Int32)), (.int (0 : Int32)), (.int (0 : Int32))] [(.int l0), (.int l1)] [(.int g0), (.int g1)] [(.double p0), (.double p1)] [(.double 0), (.double u1)] [(.double x0), (.double x1)]) {Q : Option Value → Heap → Prop} (hQ : ∀ h', CN Z h' n0 c A ax (-1 : Int32) (0 : Int32) (0 : Int32) [(.int (0 : Int32)), (.int (0 : Int32)), (.int (0 : Int32))] [(.int l0), (.int l1)] [(.int g0), (.int g1)] [(.double p0), (.double p1)] [(.double 0), (.double u1)] [(.double x0), (.double x1)] → Q (some (.int 1)) h') :
    Go l Z (⟨"com/example/nona/nona/solver/ApproximateChain", "solve", "([D[DDI)Z"⟩ : MethodName) prog_136_method_8_code 27 (some .boolean) ({ frames := 1, cells := 0, slots := 0, locals := 18 } : Room) n0 Q h 0 0 4 #[.val (.ref c), .val (.ref ax), .val (.ref (A 4)), .val (.double tol), .second, .val (.int (0 : Int32)), .unset, .unset, .unset, .unset, .unset, .unset, .unset, .unset, .unset, .unset, .unset, .unset, .unset, .unset, .unset, .unset, .unset, .unset, .unset, .unset, .unset] [] := by
  refine Go.aloadN d7_4 (q := 5) rfl rfl rfl ?_
  refine Go.getF d7_5 (q := 8) rfl (host := "") (Or.inl (w14 hw)) Via.refl C0.fd.size ?_
  refine Go.istore d7_8 (q := 10) rfl (Ls' := #[.val (.ref c), .val (.ref ax), .val (.ref (A 4)), .val (.double tol), .second, .val (.int (0 : Int32)), .val (.int (2 : Int32)), .unset, .unset, .unset, .unset, .unset, .unset, .unset, .unset, .unset, .unset, .unset, .unset, .unset, .unset, .unset, .unset, .unset, .unset, .unset, .unset]) rfl ?_
  refine Go.aloadN d7_10 (q := 11) rfl rfl rfl ?_
  refine Go.getF d7_11 (q := 14) rfl (host := "") (Or.inl (w27 hw)) Via.refl C0.fd.residual ?_
  refine Go.astore d7_14 (q := 16) rfl rfl (Ls' := #[.val (.ref c), .val (.ref ax), .val (.ref (A 4)), .val (.double tol), .second, .val (.int (0 : Int32)), .val (.int (2 : Int32)), .val (.ref (A 5)), .unset, .unset, .unset, .unset, .unset, .unset, .unset, .unset, .unset, .unset, .unset, .unset, .unset, .unset, .unset, .unset, .unset, .unset, .unset]) rfl ?_
  refine Go.aloadN d7_16 (q := 17) rfl rfl rfl ?_
  refine Go.getF d7_17 (q := 20) rfl (host := "") (Or.inl (w33 hw)) Via.refl C0.fd.image ?_
  refine Go.astore d7_20 (q := 22) rfl rfl (Ls' := #[.val (.ref c), .val (.ref ax), .val (.ref (A 4)), .val (.double tol), .second, .val (.int (0 : Int32)), .val (.int (2 : Int32)), .val (.ref (A 5)), .val (.ref (A 8)), .unset, .unset, .unset, .unset, .unset, .unset, .unset, .unset, .unset, .unset, .unset, .unset, .unset, .unset, .unset, .unset, .unset, .unset]) rfl ?_
  refine Go.aloadN d7_22 (q := 23) rfl rfl rfl ?_
  refine Go.getF d7_23 (q := 26) rfl (host := "") (Or.inl (w31 hw)) Via.refl C0.fd.direction ?_
  refine Go.astore d7_26 (q := 28) rfl rfl (Ls' := #[.val (.ref c), .val (.ref ax), .val (.ref (A 4)), .val (.double tol), .second, .val (.int (0 : Int32)), .val (.int (2 : Int32)), .val (.ref (A 5)), .val (.ref (A 8)), .val (.ref (A 7)), .unset, .unset, .unset, .unset, .unset, .unset, .unset, .unset, .unset, .unset, .unset, .unset, .unset, .unset, .unset, .unset, .unset]) rfl ?_
  refine Go.aloadN d7_28 (q := 29) rfl rfl rfl ?_
  refine Go.getF d7_29 (q := 32) rfl (host := "") (Or.inl (w39 hw)) Via.refl C0.fd.product ?_
  refine Go.astore d7_32 (q := 34) rfl rfl (Ls' := #[.val (.ref c), .val (.ref ax), .val (.ref (A 4)), .val (.double tol), .second, .val (.int (0 : Int32)), .val (.int (2 : Int32)), .val (.ref (A 5)), .val (.ref (A 8)), .val (.ref (A 7)), .val (.ref (A 11)), .unset, .unset, .unset, .unset, .unset, .unset, .unset, .unset, .unset, .unset, .unset, .unset, .unset, .unset, .unset, .unset]) rfl ?_
  refine Go.dconst0 d7_34 (q := 35) rfl ?_
  refine Go.dstore d7_35 (q := 37) rfl (Ls' := #[.val (.ref c), .val (.ref ax), .val (.ref (A 4)), .val (.double tol), .second, .val (.int (0 : Int32)), .val (.int (2 : Int32)), .val (.ref (A 5)), .val (.ref (A 8)), .val (.ref (A 7)), .val (.ref (A 11)), .val (.double 0), .second, .unset, .unset, .unset, .unset, .unset, .unset, .unset, .unset, .unset, .unset, .unset, .unset, .unset, .unset]) rfl ?_
  refine Go.iconst d7_37 (q := 38) rfl (x := (0 : Int32)) (by decide) ?_
  refine Go.istore d7_38 (q := 40) rfl (Ls' := #[.val (.ref c), .val (.ref ax), .val (.ref (A 4)), .val (.double tol), .second, .val (.int (0 : Int32)), .val (.int (2 : Int32)), .val (.ref (A 5)), .val (.ref (A 8)), .val (.ref (A 7)), .val (.ref (A 11)), .val (.double 0), .second, .val (.int (0 : Int32)), .unset, .unset, .unset, .unset, .unset, .unset, .unset, .unset, .unset, .unset, .unset, .unset, .unset]) rfl ?_
  refine Go.iload d7_40 (q := 42) rfl rfl ?_
  refine Go.iload d7_42 (q := 44) rfl rfl ?_
  refine Go.icmp_ge d7_44 (q := 155) (q' := 47) (by decide) rfl rfl (fun c_ => absurd (by decide) c_) (fun _ => ?_)
  refine Go.aloadN d7_47 (q := 48) rfl rfl rfl ?_
  refine Go.iload d7_48 (q := 50) rfl rfl ?_
  refine Go.daload d7_50 (q := 51) rfl (C0.a4).choose_spec (by decide) rfl ?_
  refine Go.aloadN d7_51 (q := 52) rfl rfl rfl ?_
  refine Go.iload d7_52 (q := 54) rfl rfl ?_
  refine Go.daload d7_54 (q := 55) rfl (C0.ax).choose_spec (by decide) rfl ?_
  refine Go.dsubX d7_55 (q := 56) rfl (sx_sub sx_zero sx0 (by omega)) ?_
  intro v84 sv84
  refine Go.dstore d7_56 (q := 58) rfl (Ls' := #[.val (.ref c), .val (.ref ax), .val (.ref (A 4)), .val (.double tol), .second, .val (.int (0 : Int32)), .val (.int (2 : Int32)), .val (.ref (A 5)), .val (.ref (A 8)), .val (.ref (A 7)), .val (.ref (A 11)), .val (.double 0), .second, .val (.int (0 : Int32)), .val (.double v84), .second, .unset, .unset, .unset, .unset, .unset, .unset, .unset, .unset, .unset, .unset, .unset]) rfl ?_
  refine Go.aloadN d7_58 (q := 59) rfl rfl rfl ?_
  refine Go.getF d7_59 (q := 62) rfl (host := "") (Or.inl (w17 hw)) Via.refl C0.fd.starts ?_
  refine Go.iload d7_62 (q := 64) rfl rfl ?_
  refine Go.iaload d7_64 (q := 65) rfl (C0.a0).choose_spec (by decide) rfl ?_
  refine Go.istore d7_65 (q := 67) rfl (Ls' := #[.val (.ref c), .val (.ref ax), .val (.ref (A 4)), .val (.double tol), .second, .val (.int (0 : Int32)), .val (.int (2 : Int32)), .val (.ref (A 5)), .val (.ref (A 8)), .val (.ref (A 7)), .val (.ref (A 11)), .val (.double 0), .second, .val (.int (0 : Int32)), .val (.double v84), .second, .val (.int (0 : Int32)), .unset, .unset, .unset, .unset, .unset, .unset, .unset, .unset, .unset, .unset]) rfl ?_
  refine Go.iload d7_67 (q := 69) rfl rfl ?_
  refine Go.aloadN d7_69 (q := 70) rfl rfl rfl ?_
  refine Go.getF d7_70 (q := 73) rfl (host := "") (Or.inl (w17 hw)) Via.refl C0.fd.starts ?_
  refine Go.iload d7_73 (q := 75) rfl rfl ?_
  refine Go.iconst d7_75 (q := 76) rfl (x := (1 : Int32)) (by decide) ?_
  refine Go.iadd d7_76 (q := 77) rfl ?_
  rw [show ((0 : Int32) + (1 : Int32)) = (1 : Int32) from rfl]
  refine Go.iaload d7_77 (q := 78) rfl (C0.a0).choose_spec (by decide) rfl ?_
  refine Go.icmp_ge d7_78 (q := 109) (q' := 81) (by decide) rfl rfl (fun _ => ?_) (fun c_ => absurd c_ (by decide))
  refine Go.aload d7_109 (q := 111) rfl rfl rfl ?_
  refine Go.iload d7_111 (q := 113) rfl rfl ?_
  refine Go.dload d7_113 (q := 115) rfl rfl ?_
  obtain ⟨kg86, vg86, lg86, Bg86⟩ := C0.a5
  refine Go.dastore d7_115 (q := 116) rfl Bg86 (by decide) (by rw [lg86]; decide) C0.na5 ?_
  intro g86 Wg86
  have Cg86 : CN Z g86 n0 c A ax (-1 : Int32) (0 : Int32) its [(.int (0 : Int32)), (.int (0 : Int32)), (.int (0 : Int32))] [(.int l0), (.int l1)] [(.int g0), (.int g1)] [(.double p0), (.double p1)] [(.double 0), (.double u1)] [(.double x0), (.double x1)] := C0.w5 Wg86
  refine Go.aloadN d7_116 (q := 117) rfl rfl rfl ?_
  refine Go.getF d7_117 (q := 120) rfl (host := "") (Or.inl (w29 hw)) Via.refl Cg86.fd.shadow ?_
  refine Go.iload d7_120 (q := 122) rfl rfl ?_
  refine Go.dload d7_122 (q := 124) rfl rfl ?_
  obtain ⟨kg87, vg87, lg87, Bg87⟩ := Cg86.a6
  refine Go.dastore d7_124 (q := 125) rfl Bg87 (by decide) (by rw [lg87]; decide) Cg86.na6 ?_
  intro g87 Wg87
  have Cg87 : CN Z g87 n0 c A ax (-1 : Int32) (0 : Int32) its [(.int (0 : Int32)), (.int (0 : Int32)), (.int (0 : Int32))] [(.int l0), (.int l1)] [(.int g0), (.int g1)] [(.double p0), (.double p1)] [(.double 0), (.double u1)] [(.double x0), (.double x1)] := Cg86.w6 Wg87
  refine Go.aload d7_125 (q := 127) rfl rfl rfl ?_
  refine Go.iload d7_127 (q := 129) rfl rfl ?_
  refine Go.dconst0 d7_129 (q := 130) rfl ?_
  obtain ⟨kg88, vg88, lg88, Bg88⟩ := Cg87.a7
  refine Go.dastore d7_130 (q := 131) rfl Bg88 (by decide) (by rw [lg88]; decide) Cg87.na7 ?_
  intro g88 Wg88
  have Cg88 : CN Z g88 n0 c A ax (-1 : Int32) (0 : Int32) its [(.int (0 : Int32)), (.int (0 : Int32)), (.int (0 : Int32))] [(.int l0), (.int l1)] [(.int g0), (.int g1)] [(.double p0), (.double p1)] [(.double 0), (.double u1)] [(.double x0), (.double x1)] := Cg87.w7 Wg88
  refine Go.aload d7_131 (q := 133) rfl rfl rfl ?_
  refine Go.iload d7_133 (q := 135) rfl rfl ?_
  refine Go.dconst0 d7_135 (q := 136) rfl ?_
  obtain ⟨kg89, vg89, lg89, Bg89⟩ := Cg88.a8
  refine Go.dastore d7_136 (q := 137) rfl Bg89 (by decide) (by rw [lg89]; decide) Cg88.na8 ?_
  intro g89 Wg89
  have Cg89 : CN Z g89 n0 c A ax (-1 : Int32) (0 : Int32) its [(.int (0 : Int32)), (.int (0 : Int32)), (.int (0 : Int32))] [(.int l0), (.int l1)] [(.int g0), (.int g1)] [(.double p0), (.double p1)] [(.double 0), (.double u1)] [(.double x0), (.double x1)] := Cg88.w8 Wg89
  refine Go.dload d7_137 (q := 139) rfl rfl ?_
  refine Go.dload d7_139 (q := 141) rfl rfl ?_
  refine Go.absD (wd := 2) d7_141 (q := 144) rfl (w66 hw) (w67 hw) (w68 hw) (w69 hw) sv84 rfl (by decide) rfl (by decide) (by decide) (by decide) ?_
  intro v90 sv90
  refine Go.maxD (g := (((0 - X0)).natAbs : Int)) (wd := 0) d7_144 (q := 147) rfl (w70 hw) (w71 hw) (w68 hw) (w72 hw) sx_zero sv90 (Or.inl ⟨by omega, rfl⟩) rfl (by decide) rfl (by decide) (by decide) (by decide) ?_
  intro v91 sv91
  refine Go.dstore d7_147 (q := 149) rfl (Ls' := #[.val (.ref c), .val (.ref ax), .val (.ref (A 4)), .val (.double tol), .second, .val (.int (0 : Int32)), .val (.int (2 : Int32)), .val (.ref (A 5)), .val (.ref (A 8)), .val (.ref (A 7)), .val (.ref (A 11)), .val (.double v91), .second, .val (.int (0 : Int32)), .val (.double v84), .second, .val (.int (0 : Int32)), .unset, .unset, .unset, .unset, .unset, .unset, .unset, .unset, .unset, .unset]) rfl ?_
  refine Go.iinc d7_149 (q := 152) rfl rfl (w := (1 : Int32)) rfl (Ls' := #[.val (.ref c), .val (.ref ax), .val (.ref (A 4)), .val (.double tol), .second, .val (.int (0 : Int32)), .val (.int (2 : Int32)), .val (.ref (A 5)), .val (.ref (A 8)), .val (.ref (A 7)), .val (.ref (A 11)), .val (.double v91), .second, .val (.int (1 : Int32)), .val (.double v84), .second, .val (.int (0 : Int32)), .unset, .unset, .unset, .unset, .unset, .unset, .unset, .unset, .unset, .unset]) rfl ?_
  refine Go.goto d7_152 (q := 40) (by decide) rfl ?_
  refine Go.iload d7_40 (q := 42) rfl rfl ?_
  refine Go.iload d7_42 (q := 44) rfl rfl ?_
  refine Go.icmp_ge d7_44 (q := 155) (q' := 47) (by decide) rfl rfl (fun c_ => absurd (by decide) c_) (fun _ => ?_)
  refine Go.aloadN d7_47 (q := 48) rfl rfl rfl ?_
  refine Go.iload d7_48 (q := 50) rfl rfl ?_
  refine Go.daload d7_50 (q := 51) rfl (Cg89.a4).choose_spec (by decide) rfl ?_
  refine Go.aloadN d7_51 (q := 52) rfl rfl rfl ?_
  refine Go.iload d7_52 (q := 54) rfl rfl ?_
  refine Go.daload d7_54 (q := 55) rfl (Cg89.ax).choose_spec (by decide) rfl ?_
  refine Go.dsubX d7_55 (q := 56) rfl (sx_sub su1 sx1 (by omega)) ?_
  intro v93 sv93
  refine Go.dstore d7_56 (q := 58) rfl (Ls' := #[.val (.ref c), .val (.ref ax), .val (.ref (A 4)), .val (.double tol), .second, .val (.int (0 : Int32)), .val (.int (2 : Int32)), .val (.ref (A 5)), .val (.ref (A 8)), .val (.ref (A 7)), .val (.ref (A 11)), .val (.double v91), .second, .val (.int (1 : Int32)), .val (.double v93), .second, .val (.int (0 : Int32)), .unset, .unset, .unset, .unset, .unset, .unset, .unset, .unset, .unset, .unset]) rfl ?_
  refine Go.aloadN d7_58 (q := 59) rfl rfl rfl ?_
  refine Go.getF d7_59 (q := 62) rfl (host := "") (Or.inl (w17 hw)) Via.refl Cg89.fd.starts ?_
  refine Go.iload d7_62 (q := 64) rfl rfl ?_
  refine Go.iaload d7_64 (q := 65) rfl (Cg89.a0).choose_spec (by decide) rfl ?_
  refine Go.istore d7_65 (q := 67) rfl (Ls' := #[.val (.ref c), .val (.ref ax), .val (.ref (A 4)), .val (.double tol), .second, .val (.int (0 : Int32)), .val (.int (2 : Int32)), .val (.ref (A 5)), .val (.ref (A 8)), .val (.ref (A 7)), .val (.ref (A 11)), .val (.double v91), .second, .val (.int (1 : Int32)), .val (.double v93), .second, .val (.int (0 : Int32)), .unset, .unset, .unset, .unset, .unset, .unset, .unset, .unset, .unset, .unset]) rfl ?_
  refine Go.iload d7_67 (q := 69) rfl rfl ?_
  refine Go.aloadN d7_69 (q := 70) rfl rfl rfl ?_
  refine Go.getF d7_70 (q := 73) rfl (host := "") (Or.inl (w17 hw)) Via.refl Cg89.fd.starts ?_
  refine Go.iload d7_73 (q := 75) rfl rfl ?_
  refine Go.iconst d7_75 (q := 76) rfl (x := (1 : Int32)) (by decide) ?_
  refine Go.iadd d7_76 (q := 77) rfl ?_
  rw [show ((1 : Int32) + (1 : Int32)) = (2 : Int32) from rfl]
  refine Go.iaload d7_77 (q := 78) rfl (Cg89.a0).choose_spec (by decide) rfl ?_
  refine Go.icmp_ge d7_78 (q := 109) (q' := 81) (by decide) rfl rfl (fun _ => ?_) (fun c_ => absurd c_ (by decide))
  refine Go.aload d7_109 (q := 111) rfl rfl rfl ?_
  refine Go.iload d7_111 (q := 113) rfl rfl ?_
  refine Go.dload d7_113 (q := 115) rfl rfl ?_
  obtain ⟨kg95, vg95, lg95, Bg95⟩ := Cg89.a5
  refine Go.dastore d7_115 (q := 116) rfl Bg95 (by decide) (by rw [lg95]; decide) Cg89.na5 ?_
  intro g95 Wg95
  have Cg95 : CN Z g95 n0 c A ax (-1 : Int32) (0 : Int32) its [(.int (0 : Int32)), (.int (0 : Int32)), (.int (0 : Int32))] [(.int l0), (.int l1)] [(.int g0), (.int g1)] [(.double p0), (.double p1)] [(.double 0), (.double u1)] [(.double x0), (.double x1)] := Cg89.w5 Wg95
  refine Go.aloadN d7_116 (q := 117) rfl rfl rfl ?_
  refine Go.getF d7_117 (q := 120) rfl (host := "") (Or.inl (w29 hw)) Via.refl Cg95.fd.shadow ?_
  refine Go.iload d7_120 (q := 122) rfl rfl ?_
  refine Go.dload d7_122 (q := 124) rfl rfl ?_
  obtain ⟨kg96, vg96, lg96, Bg96⟩ := Cg95.a6
  refine Go.dastore d7_124 (q := 125) rfl Bg96 (by decide) (by rw [lg96]; decide) Cg95.na6 ?_
  intro g96 Wg96
  have Cg96 : CN Z g96 n0 c A ax (-1 : Int32) (0 : Int32) its [(.int (0 : Int32)), (.int (0 : Int32)), (.int (0 : Int32))] [(.int l0), (.int l1)] [(.int g0), (.int g1)] [(.double p0), (.double p1)] [(.double 0), (.double u1)] [(.double x0), (.double x1)] := Cg95.w6 Wg96
  refine Go.aload d7_125 (q := 127) rfl rfl rfl ?_
  refine Go.iload d7_127 (q := 129) rfl rfl ?_
  refine Go.dconst0 d7_129 (q := 130) rfl ?_
  obtain ⟨kg97, vg97, lg97, Bg97⟩ := Cg96.a7
  refine Go.dastore d7_130 (q := 131) rfl Bg97 (by decide) (by rw [lg97]; decide) Cg96.na7 ?_
  intro g97 Wg97
  have Cg97 : CN Z g97 n0 c A ax (-1 : Int32) (0 : Int32) its [(.int (0 : Int32)), (.int (0 : Int32)), (.int (0 : Int32))] [(.int l0), (.int l1)] [(.int g0), (.int g1)] [(.double p0), (.double p1)] [(.double 0), (.double u1)] [(.double x0), (.double x1)] := Cg96.w7 Wg97
  refine Go.aload d7_131 (q := 133) rfl rfl rfl ?_
  refine Go.iload d7_133 (q := 135) rfl rfl ?_
  refine Go.dconst0 d7_135 (q := 136) rfl ?_
  obtain ⟨kg98, vg98, lg98, Bg98⟩ := Cg97.a8
  refine Go.dastore d7_136 (q := 137) rfl Bg98 (by decide) (by rw [lg98]; decide) Cg97.na8 ?_
  intro g98 Wg98
  have Cg98 : CN Z g98 n0 c A ax (-1 : Int32) (0 : Int32) its [(.int (0 : Int32)), (.int (0 : Int32)), (.int (0 : Int32))] [(.int l0), (.int l1)] [(.int g0), (.int g1)] [(.double p0), (.double p1)] [(.double 0), (.double u1)] [(.double x0), (.double x1)] := Cg97.w8 Wg98
  refine Go.dload d7_137 (q := 139) rfl rfl ?_
  refine Go.dload d7_139 (q := 141) rfl rfl ?_
  refine Go.absD (wd := 2) d7_141 (q := 144) rfl (w66 hw) (w67 hw) (w68 hw) (w69 hw) sv93 rfl (by decide) rfl (by decide) (by decide) (by decide) ?_
  intro v99 sv99
  refine Go.maxD (g := (((0 - X0)).natAbs : Int)) (wd := 0) d7_144 (q := 147) rfl (w70 hw) (w71 hw) (w68 hw) (w72 hw) sv91 sv99 (Or.inr ⟨by omega, rfl⟩) rfl (by decide) rfl (by decide) (by decide) (by decide) ?_
  intro v100 sv100
  refine Go.dstore d7_147 (q := 149) rfl (Ls' := #[.val (.ref c), .val (.ref ax), .val (.ref (A 4)), .val (.double tol), .second, .val (.int (0 : Int32)), .val (.int (2 : Int32)), .val (.ref (A 5)), .val (.ref (A 8)), .val (.ref (A 7)), .val (.ref (A 11)), .val (.double v100), .second, .val (.int (1 : Int32)), .val (.double v93), .second, .val (.int (0 : Int32)), .unset, .unset, .unset, .unset, .unset, .unset, .unset, .unset, .unset, .unset]) rfl ?_
  refine Go.iinc d7_149 (q := 152) rfl rfl (w := (2 : Int32)) rfl (Ls' := #[.val (.ref c), .val (.ref ax), .val (.ref (A 4)), .val (.double tol), .second, .val (.int (0 : Int32)), .val (.int (2 : Int32)), .val (.ref (A 5)), .val (.ref (A 8)), .val (.ref (A 7)), .val (.ref (A 11)), .val (.double v100), .second, .val (.int (2 : Int32)), .val (.double v93), .second, .val (.int (0 : Int32)), .unset, .unset, .unset, .unset, .unset, .unset, .unset, .unset, .unset, .unset]) rfl ?_
  refine Go.goto d7_152 (q := 40) (by decide) rfl ?_
  refine Go.iload d7_40 (q := 42) rfl rfl ?_
  refine Go.iload d7_42 (q := 44) rfl rfl ?_
  refine Go.icmp_ge d7_44 (q := 155) (q' := 47) (by decide) rfl rfl (fun _ => ?_) (fun c_ => absurd c_ (by decide))
  refine Go.dconst1 d7_155 (q := 156) rfl ?_
  refine Go.dstore d7_156 (q := 158) rfl (Ls' := #[.val (.ref c), .val (.ref ax), .val (.ref (A 4)), .val (.double tol), .second, .val (.int (0 : Int32)), .val (.int (2 : Int32)), .val (.ref (A 5)), .val (.ref (A 8)), .val (.ref (A 7)), .val (.ref (A 11)), .val (.double v100), .second, .val (.double FP.dconst1), .second, .unset, .val (.int (0 : Int32)), .unset, .unset, .unset, .unset, .unset, .unset, .unset, .unset, .unset, .unset]) rfl ?_
  refine Go.dconst1 d7_158 (q := 159) rfl ?_
  refine Go.dstore d7_159 (q := 161) rfl (Ls' := #[.val (.ref c), .val (.ref ax), .val (.ref (A 4)), .val (.double tol), .second, .val (.int (0 : Int32)), .val (.int (2 : Int32)), .val (.ref (A 5)), .val (.ref (A 8)), .val (.ref (A 7)), .val (.ref (A 11)), .val (.double v100), .second, .val (.double FP.dconst1), .second, .val (.double FP.dconst1), .second, .unset, .unset, .unset, .unset, .unset, .unset, .unset, .unset, .unset, .unset]) rfl ?_
  refine Go.dconst1 d7_161 (q := 162) rfl ?_
  refine Go.dstore d7_162 (q := 164) rfl (Ls' := #[.val (.ref c), .val (.ref ax), .val (.ref (A 4)), .val (.double tol), .second, .val (.int (0 : Int32)), .val (.int (2 : Int32)), .val (.ref (A 5)), .val (.ref (A 8)), .val (.ref (A 7)), .val (.ref (A 11)), .val (.double v100), .second, .val (.double FP.dconst1), .second, .val (.double FP.dconst1), .second, .val (.double FP.dconst1), .second, .unset, .unset, .unset, .unset, .unset, .unset, .unset, .unset]) rfl ?_
  refine Go.aloadN d7_164 (q := 165) rfl rfl rfl ?_
  refine Go.iconst d7_165 (q := 166) rfl (x := (0 : Int32)) (by decide) ?_
  refine Go.putF d7_166 (q := 169) rfl (host := "") (Or.inl (w73 hw)) Via.refl Cg98.fd.iterations Cg98.exa (Or.inl (w74 hw)) (w4 hw) pTn rfl rfl Cg98.nc ?_
  intro g102 Wg102
  have Cg102 : CN Z g102 n0 c A ax (-1 : Int32) (0 : Int32) (0 : Int32) [(.int (0 : Int32)), (.int (0 : Int32)), (.int (0 : Int32))] [(.int l0), (.int l1)] [(.int g0), (.int g1)] [(.double p0), (.double p1)] [(.double 0), (.double u1)] [(.double x0), (.double x1)] := Cg98.w_iterations hw Wg102
  refine Go.iconst d7_169 (q := 170) rfl (x := (0 : Int32)) (by decide) ?_
  refine Go.istore d7_170 (q := 172) rfl (Ls' := #[.val (.ref c), .val (.ref ax), .val (.ref (A 4)), .val (.double tol), .second, .val (.int (0 : Int32)), .val (.int (2 : Int32)), .val (.ref (A 5)), .val (.ref (A 8)), .val (.ref (A 7)), .val (.ref (A 11)), .val (.double v100), .second, .val (.double FP.dconst1), .second, .val (.double FP.dconst1), .second, .val (.double FP.dconst1), .second, .val (.int (0 : Int32)), .unset, .unset, .unset, .unset, .unset, .unset, .unset]) rfl ?_
  refine Go.dload d7_172 (q := 174) rfl rfl ?_
  refine Go.dloadN d7_174 (q := 175) rfl rfl ?_
  refine Go.dcmpX d7_175 (q := 176) rfl sv100 sT (cmpI_eq (by omega)) ?_
  refine Go.if_le d7_176 (q := 488) (q' := 179) (by decide) rfl rfl (fun _ => ?_) (fun c_ => absurd c_ (by decide))
  refine Go.dload d7_488 (q := 490) rfl rfl ?_
  refine Go.dloadN d7_490 (q := 491) rfl rfl ?_
  refine Go.dcmpX d7_491 (q := 492) rfl sv100 sT (cmpI_eq (by omega)) ?_
  refine Go.if_gt d7_492 (q := 499) (q' := 495) (by decide) rfl rfl (fun c_ => absurd c_ (by decide)) (fun _ => ?_)
  refine Go.iconst d7_495 (q := 496) rfl (x := (1 : Int32)) (by decide) ?_
  refine Go.goto d7_496 (q := 500) (by decide) rfl ?_
  refine Go.zreturn d7_500 (by decide) (by decide) (by decide) ?_
  exact hQ g102 Cg102
set_option maxRecDepth 65536 in
set_option maxHeartbeats 40000000 in
theorem sv0_0_eq (l : Launch) (Z : State) (a0 : Array Value) (hw : Hw a0 Z) (n0 : Nat) (h : Heap) {c : Addr} {A : Nat → Addr} {ax : Addr} {its s2 l0 l1 g0 g1 : Int32} {p0 p1 u1 x0 x1 : UInt64} (X0 X1 U1 T  : Int) (tol  : UInt64) (sx0 : Sx X0 x0) (sx1 : Sx X1 x1) (su1 : Sx U1 u1) (hU : U1 = X1) (bX0 : X0.natAbs ≤ 16384) (bX1 : X1.natAbs ≤ 16384) (sT : Sx T tol) (hT : T = ((0 - X0).natAbs : Int)) (C0 : CN Z h n0 c A ax (1 : Int32) (0 : Int32) its [(.int (0 : Int32)), (.int (0 : Int32)), (.int s2)] [(.int l0), (.int l1)] [(.int g0), (.int g1)] [(.double p0), (.double p1)] [(.double 0), (.double u1)] [(.double x0), (.double x1)]) {Q : Option Value → Heap → Prop} (hQ : ∀ h', CN Z h' n0 c A ax (-1 : Int32) (0 : Int32) (0 : Int32) [(.int (0 : Int32)), (.int (0 : Int32)), (.int (0 : Int32))] [(.int l0), (.int (0 : Int32))] [(.int g0), (.int g1)] [(.double p0), (.double p1)] [(.double 0), (.double u1)] [(.double x0), (.double x1)] → Q (some (.int 1)) h') :
    Go l Z (⟨"com/example/nona/nona/solver/ApproximateChain", "solve", "([D[DDI)Z"⟩ : MethodName) prog_136_method_8_code 27 (some .boolean) ({ frames := 1, cells := 0, slots := 0, locals := 18 } : Room) n0 Q h 0 0 0 #[.val (.ref c), .val (.ref ax), .val (.ref (A 4)), .val (.double tol), .second, .val (.int (0 : Int32)), .unset, .unset, .unset, .unset, .unset, .unset, .unset, .unset, .unset, .unset, .unset, .unset, .unset, .unset, .unset, .unset, .unset, .unset, .unset, .unset, .unset] [] := by
  refine Go.aloadN d7_0 (q := 1) rfl rfl rfl ?_
  refine Go.callPN (P := fun h' => CN Z h' n0 c A ax (-1 : Int32) (0 : Int32) its [(.int (0 : Int32)), (.int (0 : Int32)), (.int (0 : Int32))] [(.int l0), (.int (0 : Int32))] [(.int g0), (.int g1)] [(.double p0), (.double p1)] [(.double 0), (.double u1)] [(.double x0), (.double x1)]) (argsL := []) (rest := []) (wd := 0) (Ls1 := #[.val (.ref c), .unset, .unset, .unset, .unset, .unset, .unset]) d7_1 (q := 4) rfl (w46 hw) (w48 hw) (w44 hw) rfl (w47 hw) (w49 hw) (w5 hw) (by decide) pn4 pd4 rfl rfl C0.exa (fun m_ => by simp [entryFrame, mkF, argsToLocals, Value.category]) rfl (by decide) rfl (by decide) (by decide) (by decide) (close1_0 l Z a0 hw n0 h C0 (Q := RN (fun h' => CN Z h' n0 c A ax (-1 : Int32) (0 : Int32) its [(.int (0 : Int32)), (.int (0 : Int32)), (.int (0 : Int32))] [(.int l0), (.int (0 : Int32))] [(.int g0), (.int g1)] [(.double p0), (.double p1)] [(.double 0), (.double u1)] [(.double x0), (.double x1)])) (fun h' q => ⟨rfl, q⟩)) ?_
  intro g105 Cg105
  exact sv4_0_eq l Z a0 hw n0 g105 X0 X1 U1 T  tol  sx0 sx1 su1 hU bX0 bX1 sT  hT Cg105 hQ
set_option maxRecDepth 65536 in
set_option maxHeartbeats 40000000 in
theorem s3_0_eq (l : Launch) (Z : State) (a0 : Array Value) (hw : Hw a0 Z) (n0 : Nat) (h : Heap) {c : Addr} {A : Nat → Addr} {ax : Addr} {its s2 l0 l1 g0 g1 : Int32} {p0 p1 u1 x0 x1 : UInt64} (X0 X1 U1 T  : Int) (tol  : UInt64) (sx0 : Sx X0 x0) (sx1 : Sx X1 x1) (su1 : Sx U1 u1) (hU : U1 = X1) (bX0 : X0.natAbs ≤ 16384) (bX1 : X1.natAbs ≤ 16384) (sT : Sx T tol) (hT : T = ((0 - X0).natAbs : Int)) (C0 : CN Z h n0 c A ax (1 : Int32) (0 : Int32) its [(.int (0 : Int32)), (.int (0 : Int32)), (.int s2)] [(.int l0), (.int l1)] [(.int g0), (.int g1)] [(.double p0), (.double p1)] [(.double 0), (.double u1)] [(.double x0), (.double x1)]) {Q : Option Value → Heap → Prop} (hQ : ∀ h', CN Z h' n0 c A ax (-1 : Int32) (0 : Int32) (0 : Int32) [(.int (0 : Int32)), (.int (0 : Int32)), (.int (0 : Int32))] [(.int l0), (.int (0 : Int32))] [(.int g0), (.int g1)] [(.double p0), (.double p1)] [(.double 0), (.double u1)] [(.double x0), (.double x1)] → Q (some (.int 1)) h') :
    Go l Z (⟨"com/example/nona/nona/solver/ApproximateChain", "solve", "([DDI)Z"⟩ : MethodName) prog_136_method_6_code 5 (some .boolean) ({ frames := 2, cells := 0, slots := 0, locals := 56 } : Room) n0 Q h 0 0 0 #[.val (.ref c), .val (.ref ax), .val (.double tol), .second, .val (.int (0 : Int32))] [] := by
  refine Go.aloadN d6_0 (q := 1) rfl rfl rfl ?_
  refine Go.aloadN d6_1 (q := 2) rfl rfl rfl ?_
  refine Go.aloadN d6_2 (q := 3) rfl rfl rfl ?_
  refine Go.getF d6_3 (q := 6) rfl (host := "") (Or.inl (w25 hw)) Via.refl C0.fd.gains ?_
  refine Go.dloadN d6_6 (q := 7) rfl rfl ?_
  refine Go.iload d6_7 (q := 9) rfl rfl ?_
  refine Go.callPV (P := fun w_ h' => w_ = .int 1 ∧ CN Z h' n0 c A ax (-1 : Int32) (0 : Int32) (0 : Int32) [(.int (0 : Int32)), (.int (0 : Int32)), (.int (0 : Int32))] [(.int l0), (.int (0 : Int32))] [(.int g0), (.int g1)] [(.double p0), (.double p1)] [(.double 0), (.double u1)] [(.double x0), (.double x1)]) (argsL := [(.ref ax), (.ref (A 4)), (.double tol), (.int (0 : Int32))]) (rest := []) (wd := 0) (Ls1 := #[.val (.ref c), .val (.ref ax), .val (.ref (A 4)), .val (.double tol), .second, .val (.int (0 : Int32)), .unset, .unset, .unset, .unset, .unset, .unset, .unset, .unset, .unset, .unset, .unset, .unset, .unset, .unset, .unset, .unset, .unset, .unset, .unset, .unset, .unset]) d6_9 (q := 12) rfl (w62 hw) (w64 hw) (w44 hw) rfl (w63 hw) (w65 hw) (w5 hw) (by decide) pn7 pd7 rfl rfl C0.exa (fun m_ => by simp [entryFrame, mkF, argsToLocals, Value.category]) rfl (by decide) rfl (by decide) (by decide) (by decide) (sv0_0_eq l Z a0 hw n0 h X0 X1 U1 T  tol  sx0 sx1 su1 hU bX0 bX1 sT  hT C0 (Q := RV (fun w_ h' => w_ = .int 1 ∧ CN Z h' n0 c A ax (-1 : Int32) (0 : Int32) (0 : Int32) [(.int (0 : Int32)), (.int (0 : Int32)), (.int (0 : Int32))] [(.int l0), (.int (0 : Int32))] [(.int g0), (.int g1)] [(.double p0), (.double p1)] [(.double 0), (.double u1)] [(.double x0), (.double x1)])) (fun h' q => ⟨_, rfl, rfl, q⟩)) ?_
  rintro _ g106 ⟨rfl, Cg106⟩
  refine Go.zreturn d6_12 (by decide) (by decide) (by decide) ?_
  exact hQ g106 Cg106
set_option maxRecDepth 65536 in
set_option maxHeartbeats 40000000 in
theorem sv4_0_gt (l : Launch) (Z : State) (a0 : Array Value) (hw : Hw a0 Z) (n0 : Nat) (h : Heap) {c : Addr} {A : Nat → Addr} {ax : Addr} {its l0 l1 g0 g1 : Int32} {p0 p1 u1 x0 x1 : UInt64} (X0 X1 U1 T  : Int) (tol  : UInt64) (sx0 : Sx X0 x0) (sx1 : Sx X1 x1) (su1 : Sx U1 u1) (hU : U1 = X1) (bX0 : X0.natAbs ≤ 16384) (bX1 : X1.natAbs ≤ 16384) (sT : Sx T tol) (hT : T < ((0 - X0).natAbs : Int)) (C0 : CN Z h n0 c A ax (-1 : Int32) (0 : Int32) its [(.int (0 : Int32)), (.int (0 : Int32)), (.int (0 : Int32))] [(.int l0), (.int l1)] [(.int g0), (.int g1)] [(.double p0), (.double p1)] [(.double 0), (.double u1)] [(.double x0), (.double x1)]) {Q : Option Value → Heap → Prop} (hQ : ∀ h', CN Z h' n0 c A ax (-1 : Int32) (0 : Int32) (0 : Int32) [(.int (0 : Int32)), (.int (0 : Int32)), (.int (0 : Int32))] [(.int l0), (.int l1)] [(.int g0), (.int g1)] [(.double p0), (.double p1)] [(.double 0), (.double u1)] [(.double x0), (.double x1)] → Q (some (.int 0)) h') :
    Go l Z (⟨"com/example/nona/nona/solver/ApproximateChain", "solve", "([D[DDI)Z"⟩ : MethodName) prog_136_method_8_code 27 (some .boolean) ({ frames := 1, cells := 0, slots := 0, locals := 18 } : Room) n0 Q h 0 0 4 #[.val (.ref c), .val (.ref ax), .val (.ref (A 4)), .val (.double tol), .second, .val (.int (0 : Int32)), .unset, .unset, .unset, .unset, .unset, .unset, .unset, .unset, .unset, .unset, .unset, .unset, .unset, .unset, .unset, .unset, .unset, .unset, .unset, .unset, .unset] [] := by
  refine Go.aloadN d7_4 (q := 5) rfl rfl rfl ?_
  refine Go.getF d7_5 (q := 8) rfl (host := "") (Or.inl (w14 hw)) Via.refl C0.fd.size ?_
  refine Go.istore d7_8 (q := 10) rfl (Ls' := #[.val (.ref c), .val (.ref ax), .val (.ref (A 4)), .val (.double tol), .second, .val (.int (0 : Int32)), .val (.int (2 : Int32)), .unset, .unset, .unset, .unset, .unset, .unset, .unset, .unset, .unset, .unset, .unset, .unset, .unset, .unset, .unset, .unset, .unset, .unset, .unset, .unset]) rfl ?_
  refine Go.aloadN d7_10 (q := 11) rfl rfl rfl ?_
  refine Go.getF d7_11 (q := 14) rfl (host := "") (Or.inl (w27 hw)) Via.refl C0.fd.residual ?_
  refine Go.astore d7_14 (q := 16) rfl rfl (Ls' := #[.val (.ref c), .val (.ref ax), .val (.ref (A 4)), .val (.double tol), .second, .val (.int (0 : Int32)), .val (.int (2 : Int32)), .val (.ref (A 5)), .unset, .unset, .unset, .unset, .unset, .unset, .unset, .unset, .unset, .unset, .unset, .unset, .unset, .unset, .unset, .unset, .unset, .unset, .unset]) rfl ?_
  refine Go.aloadN d7_16 (q := 17) rfl rfl rfl ?_
  refine Go.getF d7_17 (q := 20) rfl (host := "") (Or.inl (w33 hw)) Via.refl C0.fd.image ?_
  refine Go.astore d7_20 (q := 22) rfl rfl (Ls' := #[.val (.ref c), .val (.ref ax), .val (.ref (A 4)), .val (.double tol), .second, .val (.int (0 : Int32)), .val (.int (2 : Int32)), .val (.ref (A 5)), .val (.ref (A 8)), .unset, .unset, .unset, .unset, .unset, .unset, .unset, .unset, .unset, .unset, .unset, .unset, .unset, .unset, .unset, .unset, .unset, .unset]) rfl ?_
  refine Go.aloadN d7_22 (q := 23) rfl rfl rfl ?_
  refine Go.getF d7_23 (q := 26) rfl (host := "") (Or.inl (w31 hw)) Via.refl C0.fd.direction ?_
  refine Go.astore d7_26 (q := 28) rfl rfl (Ls' := #[.val (.ref c), .val (.ref ax), .val (.ref (A 4)), .val (.double tol), .second, .val (.int (0 : Int32)), .val (.int (2 : Int32)), .val (.ref (A 5)), .val (.ref (A 8)), .val (.ref (A 7)), .unset, .unset, .unset, .unset, .unset, .unset, .unset, .unset, .unset, .unset, .unset, .unset, .unset, .unset, .unset, .unset, .unset]) rfl ?_
  refine Go.aloadN d7_28 (q := 29) rfl rfl rfl ?_
  refine Go.getF d7_29 (q := 32) rfl (host := "") (Or.inl (w39 hw)) Via.refl C0.fd.product ?_
  refine Go.astore d7_32 (q := 34) rfl rfl (Ls' := #[.val (.ref c), .val (.ref ax), .val (.ref (A 4)), .val (.double tol), .second, .val (.int (0 : Int32)), .val (.int (2 : Int32)), .val (.ref (A 5)), .val (.ref (A 8)), .val (.ref (A 7)), .val (.ref (A 11)), .unset, .unset, .unset, .unset, .unset, .unset, .unset, .unset, .unset, .unset, .unset, .unset, .unset, .unset, .unset, .unset]) rfl ?_
  refine Go.dconst0 d7_34 (q := 35) rfl ?_
  refine Go.dstore d7_35 (q := 37) rfl (Ls' := #[.val (.ref c), .val (.ref ax), .val (.ref (A 4)), .val (.double tol), .second, .val (.int (0 : Int32)), .val (.int (2 : Int32)), .val (.ref (A 5)), .val (.ref (A 8)), .val (.ref (A 7)), .val (.ref (A 11)), .val (.double 0), .second, .unset, .unset, .unset, .unset, .unset, .unset, .unset, .unset, .unset, .unset, .unset, .unset, .unset, .unset]) rfl ?_
  refine Go.iconst d7_37 (q := 38) rfl (x := (0 : Int32)) (by decide) ?_
  refine Go.istore d7_38 (q := 40) rfl (Ls' := #[.val (.ref c), .val (.ref ax), .val (.ref (A 4)), .val (.double tol), .second, .val (.int (0 : Int32)), .val (.int (2 : Int32)), .val (.ref (A 5)), .val (.ref (A 8)), .val (.ref (A 7)), .val (.ref (A 11)), .val (.double 0), .second, .val (.int (0 : Int32)), .unset, .unset, .unset, .unset, .unset, .unset, .unset, .unset, .unset, .unset, .unset, .unset, .unset]) rfl ?_
  refine Go.iload d7_40 (q := 42) rfl rfl ?_
  refine Go.iload d7_42 (q := 44) rfl rfl ?_
  refine Go.icmp_ge d7_44 (q := 155) (q' := 47) (by decide) rfl rfl (fun c_ => absurd (by decide) c_) (fun _ => ?_)
  refine Go.aloadN d7_47 (q := 48) rfl rfl rfl ?_
  refine Go.iload d7_48 (q := 50) rfl rfl ?_
  refine Go.daload d7_50 (q := 51) rfl (C0.a4).choose_spec (by decide) rfl ?_
  refine Go.aloadN d7_51 (q := 52) rfl rfl rfl ?_
  refine Go.iload d7_52 (q := 54) rfl rfl ?_
  refine Go.daload d7_54 (q := 55) rfl (C0.ax).choose_spec (by decide) rfl ?_
  refine Go.dsubX d7_55 (q := 56) rfl (sx_sub sx_zero sx0 (by omega)) ?_
  intro v108 sv108
  refine Go.dstore d7_56 (q := 58) rfl (Ls' := #[.val (.ref c), .val (.ref ax), .val (.ref (A 4)), .val (.double tol), .second, .val (.int (0 : Int32)), .val (.int (2 : Int32)), .val (.ref (A 5)), .val (.ref (A 8)), .val (.ref (A 7)), .val (.ref (A 11)), .val (.double 0), .second, .val (.int (0 : Int32)), .val (.double v108), .second, .unset, .unset, .unset, .unset, .unset, .unset, .unset, .unset, .unset, .unset, .unset]) rfl ?_
  refine Go.aloadN d7_58 (q := 59) rfl rfl rfl ?_
  refine Go.getF d7_59 (q := 62) rfl (host := "") (Or.inl (w17 hw)) Via.refl C0.fd.starts ?_
  refine Go.iload d7_62 (q := 64) rfl rfl ?_
  refine Go.iaload d7_64 (q := 65) rfl (C0.a0).choose_spec (by decide) rfl ?_
  refine Go.istore d7_65 (q := 67) rfl (Ls' := #[.val (.ref c), .val (.ref ax), .val (.ref (A 4)), .val (.double tol), .second, .val (.int (0 : Int32)), .val (.int (2 : Int32)), .val (.ref (A 5)), .val (.ref (A 8)), .val (.ref (A 7)), .val (.ref (A 11)), .val (.double 0), .second, .val (.int (0 : Int32)), .val (.double v108), .second, .val (.int (0 : Int32)), .unset, .unset, .unset, .unset, .unset, .unset, .unset, .unset, .unset, .unset]) rfl ?_
  refine Go.iload d7_67 (q := 69) rfl rfl ?_
  refine Go.aloadN d7_69 (q := 70) rfl rfl rfl ?_
  refine Go.getF d7_70 (q := 73) rfl (host := "") (Or.inl (w17 hw)) Via.refl C0.fd.starts ?_
  refine Go.iload d7_73 (q := 75) rfl rfl ?_
  refine Go.iconst d7_75 (q := 76) rfl (x := (1 : Int32)) (by decide) ?_
  refine Go.iadd d7_76 (q := 77) rfl ?_
  rw [show ((0 : Int32) + (1 : Int32)) = (1 : Int32) from rfl]
  refine Go.iaload d7_77 (q := 78) rfl (C0.a0).choose_spec (by decide) rfl ?_
  refine Go.icmp_ge d7_78 (q := 109) (q' := 81) (by decide) rfl rfl (fun _ => ?_) (fun c_ => absurd c_ (by decide))
  refine Go.aload d7_109 (q := 111) rfl rfl rfl ?_
  refine Go.iload d7_111 (q := 113) rfl rfl ?_
  refine Go.dload d7_113 (q := 115) rfl rfl ?_
  obtain ⟨kg110, vg110, lg110, Bg110⟩ := C0.a5
  refine Go.dastore d7_115 (q := 116) rfl Bg110 (by decide) (by rw [lg110]; decide) C0.na5 ?_
  intro g110 Wg110
  have Cg110 : CN Z g110 n0 c A ax (-1 : Int32) (0 : Int32) its [(.int (0 : Int32)), (.int (0 : Int32)), (.int (0 : Int32))] [(.int l0), (.int l1)] [(.int g0), (.int g1)] [(.double p0), (.double p1)] [(.double 0), (.double u1)] [(.double x0), (.double x1)] := C0.w5 Wg110
  refine Go.aloadN d7_116 (q := 117) rfl rfl rfl ?_
  refine Go.getF d7_117 (q := 120) rfl (host := "") (Or.inl (w29 hw)) Via.refl Cg110.fd.shadow ?_
  refine Go.iload d7_120 (q := 122) rfl rfl ?_
  refine Go.dload d7_122 (q := 124) rfl rfl ?_
  obtain ⟨kg111, vg111, lg111, Bg111⟩ := Cg110.a6
  refine Go.dastore d7_124 (q := 125) rfl Bg111 (by decide) (by rw [lg111]; decide) Cg110.na6 ?_
  intro g111 Wg111
  have Cg111 : CN Z g111 n0 c A ax (-1 : Int32) (0 : Int32) its [(.int (0 : Int32)), (.int (0 : Int32)), (.int (0 : Int32))] [(.int l0), (.int l1)] [(.int g0), (.int g1)] [(.double p0), (.double p1)] [(.double 0), (.double u1)] [(.double x0), (.double x1)] := Cg110.w6 Wg111
  refine Go.aload d7_125 (q := 127) rfl rfl rfl ?_
  refine Go.iload d7_127 (q := 129) rfl rfl ?_
  refine Go.dconst0 d7_129 (q := 130) rfl ?_
  obtain ⟨kg112, vg112, lg112, Bg112⟩ := Cg111.a7
  refine Go.dastore d7_130 (q := 131) rfl Bg112 (by decide) (by rw [lg112]; decide) Cg111.na7 ?_
  intro g112 Wg112
  have Cg112 : CN Z g112 n0 c A ax (-1 : Int32) (0 : Int32) its [(.int (0 : Int32)), (.int (0 : Int32)), (.int (0 : Int32))] [(.int l0), (.int l1)] [(.int g0), (.int g1)] [(.double p0), (.double p1)] [(.double 0), (.double u1)] [(.double x0), (.double x1)] := Cg111.w7 Wg112
  refine Go.aload d7_131 (q := 133) rfl rfl rfl ?_
  refine Go.iload d7_133 (q := 135) rfl rfl ?_
  refine Go.dconst0 d7_135 (q := 136) rfl ?_
  obtain ⟨kg113, vg113, lg113, Bg113⟩ := Cg112.a8
  refine Go.dastore d7_136 (q := 137) rfl Bg113 (by decide) (by rw [lg113]; decide) Cg112.na8 ?_
  intro g113 Wg113
  have Cg113 : CN Z g113 n0 c A ax (-1 : Int32) (0 : Int32) its [(.int (0 : Int32)), (.int (0 : Int32)), (.int (0 : Int32))] [(.int l0), (.int l1)] [(.int g0), (.int g1)] [(.double p0), (.double p1)] [(.double 0), (.double u1)] [(.double x0), (.double x1)] := Cg112.w8 Wg113
  refine Go.dload d7_137 (q := 139) rfl rfl ?_
  refine Go.dload d7_139 (q := 141) rfl rfl ?_
  refine Go.absD (wd := 2) d7_141 (q := 144) rfl (w66 hw) (w67 hw) (w68 hw) (w69 hw) sv108 rfl (by decide) rfl (by decide) (by decide) (by decide) ?_
  intro v114 sv114
  refine Go.maxD (g := (((0 - X0)).natAbs : Int)) (wd := 0) d7_144 (q := 147) rfl (w70 hw) (w71 hw) (w68 hw) (w72 hw) sx_zero sv114 (Or.inl ⟨by omega, rfl⟩) rfl (by decide) rfl (by decide) (by decide) (by decide) ?_
  intro v115 sv115
  refine Go.dstore d7_147 (q := 149) rfl (Ls' := #[.val (.ref c), .val (.ref ax), .val (.ref (A 4)), .val (.double tol), .second, .val (.int (0 : Int32)), .val (.int (2 : Int32)), .val (.ref (A 5)), .val (.ref (A 8)), .val (.ref (A 7)), .val (.ref (A 11)), .val (.double v115), .second, .val (.int (0 : Int32)), .val (.double v108), .second, .val (.int (0 : Int32)), .unset, .unset, .unset, .unset, .unset, .unset, .unset, .unset, .unset, .unset]) rfl ?_
  refine Go.iinc d7_149 (q := 152) rfl rfl (w := (1 : Int32)) rfl (Ls' := #[.val (.ref c), .val (.ref ax), .val (.ref (A 4)), .val (.double tol), .second, .val (.int (0 : Int32)), .val (.int (2 : Int32)), .val (.ref (A 5)), .val (.ref (A 8)), .val (.ref (A 7)), .val (.ref (A 11)), .val (.double v115), .second, .val (.int (1 : Int32)), .val (.double v108), .second, .val (.int (0 : Int32)), .unset, .unset, .unset, .unset, .unset, .unset, .unset, .unset, .unset, .unset]) rfl ?_
  refine Go.goto d7_152 (q := 40) (by decide) rfl ?_
  refine Go.iload d7_40 (q := 42) rfl rfl ?_
  refine Go.iload d7_42 (q := 44) rfl rfl ?_
  refine Go.icmp_ge d7_44 (q := 155) (q' := 47) (by decide) rfl rfl (fun c_ => absurd (by decide) c_) (fun _ => ?_)
  refine Go.aloadN d7_47 (q := 48) rfl rfl rfl ?_
  refine Go.iload d7_48 (q := 50) rfl rfl ?_
  refine Go.daload d7_50 (q := 51) rfl (Cg113.a4).choose_spec (by decide) rfl ?_
  refine Go.aloadN d7_51 (q := 52) rfl rfl rfl ?_
  refine Go.iload d7_52 (q := 54) rfl rfl ?_
  refine Go.daload d7_54 (q := 55) rfl (Cg113.ax).choose_spec (by decide) rfl ?_
  refine Go.dsubX d7_55 (q := 56) rfl (sx_sub su1 sx1 (by omega)) ?_
  intro v117 sv117
  refine Go.dstore d7_56 (q := 58) rfl (Ls' := #[.val (.ref c), .val (.ref ax), .val (.ref (A 4)), .val (.double tol), .second, .val (.int (0 : Int32)), .val (.int (2 : Int32)), .val (.ref (A 5)), .val (.ref (A 8)), .val (.ref (A 7)), .val (.ref (A 11)), .val (.double v115), .second, .val (.int (1 : Int32)), .val (.double v117), .second, .val (.int (0 : Int32)), .unset, .unset, .unset, .unset, .unset, .unset, .unset, .unset, .unset, .unset]) rfl ?_
  refine Go.aloadN d7_58 (q := 59) rfl rfl rfl ?_
  refine Go.getF d7_59 (q := 62) rfl (host := "") (Or.inl (w17 hw)) Via.refl Cg113.fd.starts ?_
  refine Go.iload d7_62 (q := 64) rfl rfl ?_
  refine Go.iaload d7_64 (q := 65) rfl (Cg113.a0).choose_spec (by decide) rfl ?_
  refine Go.istore d7_65 (q := 67) rfl (Ls' := #[.val (.ref c), .val (.ref ax), .val (.ref (A 4)), .val (.double tol), .second, .val (.int (0 : Int32)), .val (.int (2 : Int32)), .val (.ref (A 5)), .val (.ref (A 8)), .val (.ref (A 7)), .val (.ref (A 11)), .val (.double v115), .second, .val (.int (1 : Int32)), .val (.double v117), .second, .val (.int (0 : Int32)), .unset, .unset, .unset, .unset, .unset, .unset, .unset, .unset, .unset, .unset]) rfl ?_
  refine Go.iload d7_67 (q := 69) rfl rfl ?_
  refine Go.aloadN d7_69 (q := 70) rfl rfl rfl ?_
  refine Go.getF d7_70 (q := 73) rfl (host := "") (Or.inl (w17 hw)) Via.refl Cg113.fd.starts ?_
  refine Go.iload d7_73 (q := 75) rfl rfl ?_
  refine Go.iconst d7_75 (q := 76) rfl (x := (1 : Int32)) (by decide) ?_
  refine Go.iadd d7_76 (q := 77) rfl ?_
  rw [show ((1 : Int32) + (1 : Int32)) = (2 : Int32) from rfl]
  refine Go.iaload d7_77 (q := 78) rfl (Cg113.a0).choose_spec (by decide) rfl ?_
  refine Go.icmp_ge d7_78 (q := 109) (q' := 81) (by decide) rfl rfl (fun _ => ?_) (fun c_ => absurd c_ (by decide))
  refine Go.aload d7_109 (q := 111) rfl rfl rfl ?_
  refine Go.iload d7_111 (q := 113) rfl rfl ?_
  refine Go.dload d7_113 (q := 115) rfl rfl ?_
  obtain ⟨kg119, vg119, lg119, Bg119⟩ := Cg113.a5
  refine Go.dastore d7_115 (q := 116) rfl Bg119 (by decide) (by rw [lg119]; decide) Cg113.na5 ?_
  intro g119 Wg119
  have Cg119 : CN Z g119 n0 c A ax (-1 : Int32) (0 : Int32) its [(.int (0 : Int32)), (.int (0 : Int32)), (.int (0 : Int32))] [(.int l0), (.int l1)] [(.int g0), (.int g1)] [(.double p0), (.double p1)] [(.double 0), (.double u1)] [(.double x0), (.double x1)] := Cg113.w5 Wg119
  refine Go.aloadN d7_116 (q := 117) rfl rfl rfl ?_
  refine Go.getF d7_117 (q := 120) rfl (host := "") (Or.inl (w29 hw)) Via.refl Cg119.fd.shadow ?_
  refine Go.iload d7_120 (q := 122) rfl rfl ?_
  refine Go.dload d7_122 (q := 124) rfl rfl ?_
  obtain ⟨kg120, vg120, lg120, Bg120⟩ := Cg119.a6
  refine Go.dastore d7_124 (q := 125) rfl Bg120 (by decide) (by rw [lg120]; decide) Cg119.na6 ?_
  intro g120 Wg120
  have Cg120 : CN Z g120 n0 c A ax (-1 : Int32) (0 : Int32) its [(.int (0 : Int32)), (.int (0 : Int32)), (.int (0 : Int32))] [(.int l0), (.int l1)] [(.int g0), (.int g1)] [(.double p0), (.double p1)] [(.double 0), (.double u1)] [(.double x0), (.double x1)] := Cg119.w6 Wg120
  refine Go.aload d7_125 (q := 127) rfl rfl rfl ?_
  refine Go.iload d7_127 (q := 129) rfl rfl ?_
  refine Go.dconst0 d7_129 (q := 130) rfl ?_
  obtain ⟨kg121, vg121, lg121, Bg121⟩ := Cg120.a7
  refine Go.dastore d7_130 (q := 131) rfl Bg121 (by decide) (by rw [lg121]; decide) Cg120.na7 ?_
  intro g121 Wg121
  have Cg121 : CN Z g121 n0 c A ax (-1 : Int32) (0 : Int32) its [(.int (0 : Int32)), (.int (0 : Int32)), (.int (0 : Int32))] [(.int l0), (.int l1)] [(.int g0), (.int g1)] [(.double p0), (.double p1)] [(.double 0), (.double u1)] [(.double x0), (.double x1)] := Cg120.w7 Wg121
  refine Go.aload d7_131 (q := 133) rfl rfl rfl ?_
  refine Go.iload d7_133 (q := 135) rfl rfl ?_
  refine Go.dconst0 d7_135 (q := 136) rfl ?_
  obtain ⟨kg122, vg122, lg122, Bg122⟩ := Cg121.a8
  refine Go.dastore d7_136 (q := 137) rfl Bg122 (by decide) (by rw [lg122]; decide) Cg121.na8 ?_
  intro g122 Wg122
  have Cg122 : CN Z g122 n0 c A ax (-1 : Int32) (0 : Int32) its [(.int (0 : Int32)), (.int (0 : Int32)), (.int (0 : Int32))] [(.int l0), (.int l1)] [(.int g0), (.int g1)] [(.double p0), (.double p1)] [(.double 0), (.double u1)] [(.double x0), (.double x1)] := Cg121.w8 Wg122
  refine Go.dload d7_137 (q := 139) rfl rfl ?_
  refine Go.dload d7_139 (q := 141) rfl rfl ?_
  refine Go.absD (wd := 2) d7_141 (q := 144) rfl (w66 hw) (w67 hw) (w68 hw) (w69 hw) sv117 rfl (by decide) rfl (by decide) (by decide) (by decide) ?_
  intro v123 sv123
  refine Go.maxD (g := (((0 - X0)).natAbs : Int)) (wd := 0) d7_144 (q := 147) rfl (w70 hw) (w71 hw) (w68 hw) (w72 hw) sv115 sv123 (Or.inr ⟨by omega, rfl⟩) rfl (by decide) rfl (by decide) (by decide) (by decide) ?_
  intro v124 sv124
  refine Go.dstore d7_147 (q := 149) rfl (Ls' := #[.val (.ref c), .val (.ref ax), .val (.ref (A 4)), .val (.double tol), .second, .val (.int (0 : Int32)), .val (.int (2 : Int32)), .val (.ref (A 5)), .val (.ref (A 8)), .val (.ref (A 7)), .val (.ref (A 11)), .val (.double v124), .second, .val (.int (1 : Int32)), .val (.double v117), .second, .val (.int (0 : Int32)), .unset, .unset, .unset, .unset, .unset, .unset, .unset, .unset, .unset, .unset]) rfl ?_
  refine Go.iinc d7_149 (q := 152) rfl rfl (w := (2 : Int32)) rfl (Ls' := #[.val (.ref c), .val (.ref ax), .val (.ref (A 4)), .val (.double tol), .second, .val (.int (0 : Int32)), .val (.int (2 : Int32)), .val (.ref (A 5)), .val (.ref (A 8)), .val (.ref (A 7)), .val (.ref (A 11)), .val (.double v124), .second, .val (.int (2 : Int32)), .val (.double v117), .second, .val (.int (0 : Int32)), .unset, .unset, .unset, .unset, .unset, .unset, .unset, .unset, .unset, .unset]) rfl ?_
  refine Go.goto d7_152 (q := 40) (by decide) rfl ?_
  refine Go.iload d7_40 (q := 42) rfl rfl ?_
  refine Go.iload d7_42 (q := 44) rfl rfl ?_
  refine Go.icmp_ge d7_44 (q := 155) (q' := 47) (by decide) rfl rfl (fun _ => ?_) (fun c_ => absurd c_ (by decide))
  refine Go.dconst1 d7_155 (q := 156) rfl ?_
  refine Go.dstore d7_156 (q := 158) rfl (Ls' := #[.val (.ref c), .val (.ref ax), .val (.ref (A 4)), .val (.double tol), .second, .val (.int (0 : Int32)), .val (.int (2 : Int32)), .val (.ref (A 5)), .val (.ref (A 8)), .val (.ref (A 7)), .val (.ref (A 11)), .val (.double v124), .second, .val (.double FP.dconst1), .second, .unset, .val (.int (0 : Int32)), .unset, .unset, .unset, .unset, .unset, .unset, .unset, .unset, .unset, .unset]) rfl ?_
  refine Go.dconst1 d7_158 (q := 159) rfl ?_
  refine Go.dstore d7_159 (q := 161) rfl (Ls' := #[.val (.ref c), .val (.ref ax), .val (.ref (A 4)), .val (.double tol), .second, .val (.int (0 : Int32)), .val (.int (2 : Int32)), .val (.ref (A 5)), .val (.ref (A 8)), .val (.ref (A 7)), .val (.ref (A 11)), .val (.double v124), .second, .val (.double FP.dconst1), .second, .val (.double FP.dconst1), .second, .unset, .unset, .unset, .unset, .unset, .unset, .unset, .unset, .unset, .unset]) rfl ?_
  refine Go.dconst1 d7_161 (q := 162) rfl ?_
  refine Go.dstore d7_162 (q := 164) rfl (Ls' := #[.val (.ref c), .val (.ref ax), .val (.ref (A 4)), .val (.double tol), .second, .val (.int (0 : Int32)), .val (.int (2 : Int32)), .val (.ref (A 5)), .val (.ref (A 8)), .val (.ref (A 7)), .val (.ref (A 11)), .val (.double v124), .second, .val (.double FP.dconst1), .second, .val (.double FP.dconst1), .second, .val (.double FP.dconst1), .second, .unset, .unset, .unset, .unset, .unset, .unset, .unset, .unset]) rfl ?_
  refine Go.aloadN d7_164 (q := 165) rfl rfl rfl ?_
  refine Go.iconst d7_165 (q := 166) rfl (x := (0 : Int32)) (by decide) ?_
  refine Go.putF d7_166 (q := 169) rfl (host := "") (Or.inl (w73 hw)) Via.refl Cg122.fd.iterations Cg122.exa (Or.inl (w74 hw)) (w4 hw) pTn rfl rfl Cg122.nc ?_
  intro g126 Wg126
  have Cg126 : CN Z g126 n0 c A ax (-1 : Int32) (0 : Int32) (0 : Int32) [(.int (0 : Int32)), (.int (0 : Int32)), (.int (0 : Int32))] [(.int l0), (.int l1)] [(.int g0), (.int g1)] [(.double p0), (.double p1)] [(.double 0), (.double u1)] [(.double x0), (.double x1)] := Cg122.w_iterations hw Wg126
  refine Go.iconst d7_169 (q := 170) rfl (x := (0 : Int32)) (by decide) ?_
  refine Go.istore d7_170 (q := 172) rfl (Ls' := #[.val (.ref c), .val (.ref ax), .val (.ref (A 4)), .val (.double tol), .second, .val (.int (0 : Int32)), .val (.int (2 : Int32)), .val (.ref (A 5)), .val (.ref (A 8)), .val (.ref (A 7)), .val (.ref (A 11)), .val (.double v124), .second, .val (.double FP.dconst1), .second, .val (.double FP.dconst1), .second, .val (.double FP.dconst1), .second, .val (.int (0 : Int32)), .unset, .unset, .unset, .unset, .unset, .unset, .unset]) rfl ?_
  refine Go.dload d7_172 (q := 174) rfl rfl ?_
  refine Go.dloadN d7_174 (q := 175) rfl rfl ?_
  refine Go.dcmpX d7_175 (q := 176) rfl sv124 sT (cmpI_gt (by omega)) ?_
  refine Go.if_le d7_176 (q := 488) (q' := 179) (by decide) rfl rfl (fun c_ => absurd (by decide) c_) (fun _ => ?_)
  refine Go.iload d7_179 (q := 181) rfl rfl ?_
  refine Go.if_ne d7_181 (q := 488) (q' := 184) (by decide) rfl rfl (fun c_ => absurd (by decide) c_) (fun _ => ?_)
  refine Go.aloadN d7_184 (q := 185) rfl rfl rfl ?_
  refine Go.getF d7_185 (q := 188) rfl (host := "") (Or.inl (w73 hw)) Via.refl Cg126.fd.iterations ?_
  refine Go.iload d7_188 (q := 190) rfl rfl ?_
  refine Go.icmp_ge d7_190 (q := 488) (q' := 193) (by decide) rfl rfl (fun _ => ?_) (fun c_ => absurd c_ (by decide))
  refine Go.dload d7_488 (q := 490) rfl rfl ?_
  refine Go.dloadN d7_490 (q := 491) rfl rfl ?_
  refine Go.dcmpX d7_491 (q := 492) rfl sv124 sT (cmpI_gt (by omega)) ?_
  refine Go.if_gt d7_492 (q := 499) (q' := 495) (by decide) rfl rfl (fun _ => ?_) (fun c_ => absurd (by decide) c_)
  refine Go.iconst d7_499 (q := 500) rfl (x := (0 : Int32)) (by decide) ?_
  refine Go.zreturn d7_500 (by decide) (by decide) (by decide) ?_
  exact hQ g126 Cg126
set_option maxRecDepth 65536 in
set_option maxHeartbeats 40000000 in
theorem sv0_0_gt (l : Launch) (Z : State) (a0 : Array Value) (hw : Hw a0 Z) (n0 : Nat) (h : Heap) {c : Addr} {A : Nat → Addr} {ax : Addr} {its l0 l1 g0 g1 : Int32} {p0 p1 u1 x0 x1 : UInt64} (X0 X1 U1 T  : Int) (tol  : UInt64) (sx0 : Sx X0 x0) (sx1 : Sx X1 x1) (su1 : Sx U1 u1) (hU : U1 = X1) (bX0 : X0.natAbs ≤ 16384) (bX1 : X1.natAbs ≤ 16384) (sT : Sx T tol) (hT : T < ((0 - X0).natAbs : Int)) (C0 : CN Z h n0 c A ax (-1 : Int32) (0 : Int32) its [(.int (0 : Int32)), (.int (0 : Int32)), (.int (0 : Int32))] [(.int l0), (.int l1)] [(.int g0), (.int g1)] [(.double p0), (.double p1)] [(.double 0), (.double u1)] [(.double x0), (.double x1)]) {Q : Option Value → Heap → Prop} (hQ : ∀ h', CN Z h' n0 c A ax (-1 : Int32) (0 : Int32) (0 : Int32) [(.int (0 : Int32)), (.int (0 : Int32)), (.int (0 : Int32))] [(.int l0), (.int l1)] [(.int g0), (.int g1)] [(.double p0), (.double p1)] [(.double 0), (.double u1)] [(.double x0), (.double x1)] → Q (some (.int 0)) h') :
    Go l Z (⟨"com/example/nona/nona/solver/ApproximateChain", "solve", "([D[DDI)Z"⟩ : MethodName) prog_136_method_8_code 27 (some .boolean) ({ frames := 1, cells := 0, slots := 0, locals := 18 } : Room) n0 Q h 0 0 0 #[.val (.ref c), .val (.ref ax), .val (.ref (A 4)), .val (.double tol), .second, .val (.int (0 : Int32)), .unset, .unset, .unset, .unset, .unset, .unset, .unset, .unset, .unset, .unset, .unset, .unset, .unset, .unset, .unset, .unset, .unset, .unset, .unset, .unset, .unset] [] := by
  refine Go.aloadN d7_0 (q := 1) rfl rfl rfl ?_
  refine Go.callPN (P := fun h' => h = h') (argsL := []) (rest := []) (wd := 0) (Ls1 := #[.val (.ref c), .unset, .unset, .unset, .unset, .unset, .unset]) d7_1 (q := 4) rfl (w46 hw) (w48 hw) (w44 hw) rfl (w47 hw) (w49 hw) (w5 hw) (by decide) pn4 pd4 rfl rfl C0.exa (fun m_ => by simp [entryFrame, mkF, argsToLocals, Value.category]) rfl (by decide) rfl (by decide) (by decide) (by decide) (closeN l Z a0 hw n0 h C0 (Q := RN (fun h' => h = h')) ⟨rfl, rfl⟩) ?_
  rintro _ rfl
  exact sv4_0_gt l Z a0 hw n0 h X0 X1 U1 T  tol  sx0 sx1 su1 hU bX0 bX1 sT  hT C0 hQ
set_option maxRecDepth 65536 in
set_option maxHeartbeats 40000000 in
theorem s3_0_gt (l : Launch) (Z : State) (a0 : Array Value) (hw : Hw a0 Z) (n0 : Nat) (h : Heap) {c : Addr} {A : Nat → Addr} {ax : Addr} {its l0 l1 g0 g1 : Int32} {p0 p1 u1 x0 x1 : UInt64} (X0 X1 U1 T  : Int) (tol  : UInt64) (sx0 : Sx X0 x0) (sx1 : Sx X1 x1) (su1 : Sx U1 u1) (hU : U1 = X1) (bX0 : X0.natAbs ≤ 16384) (bX1 : X1.natAbs ≤ 16384) (sT : Sx T tol) (hT : T < ((0 - X0).natAbs : Int)) (C0 : CN Z h n0 c A ax (-1 : Int32) (0 : Int32) its [(.int (0 : Int32)), (.int (0 : Int32)), (.int (0 : Int32))] [(.int l0), (.int l1)] [(.int g0), (.int g1)] [(.double p0), (.double p1)] [(.double 0), (.double u1)] [(.double x0), (.double x1)]) {Q : Option Value → Heap → Prop} (hQ : ∀ h', CN Z h' n0 c A ax (-1 : Int32) (0 : Int32) (0 : Int32) [(.int (0 : Int32)), (.int (0 : Int32)), (.int (0 : Int32))] [(.int l0), (.int l1)] [(.int g0), (.int g1)] [(.double p0), (.double p1)] [(.double 0), (.double u1)] [(.double x0), (.double x1)] → Q (some (.int 0)) h') :
    Go l Z (⟨"com/example/nona/nona/solver/ApproximateChain", "solve", "([DDI)Z"⟩ : MethodName) prog_136_method_6_code 5 (some .boolean) ({ frames := 2, cells := 0, slots := 0, locals := 56 } : Room) n0 Q h 0 0 0 #[.val (.ref c), .val (.ref ax), .val (.double tol), .second, .val (.int (0 : Int32))] [] := by
  refine Go.aloadN d6_0 (q := 1) rfl rfl rfl ?_
  refine Go.aloadN d6_1 (q := 2) rfl rfl rfl ?_
  refine Go.aloadN d6_2 (q := 3) rfl rfl rfl ?_
  refine Go.getF d6_3 (q := 6) rfl (host := "") (Or.inl (w25 hw)) Via.refl C0.fd.gains ?_
  refine Go.dloadN d6_6 (q := 7) rfl rfl ?_
  refine Go.iload d6_7 (q := 9) rfl rfl ?_
  refine Go.callPV (P := fun w_ h' => w_ = .int 0 ∧ CN Z h' n0 c A ax (-1 : Int32) (0 : Int32) (0 : Int32) [(.int (0 : Int32)), (.int (0 : Int32)), (.int (0 : Int32))] [(.int l0), (.int l1)] [(.int g0), (.int g1)] [(.double p0), (.double p1)] [(.double 0), (.double u1)] [(.double x0), (.double x1)]) (argsL := [(.ref ax), (.ref (A 4)), (.double tol), (.int (0 : Int32))]) (rest := []) (wd := 0) (Ls1 := #[.val (.ref c), .val (.ref ax), .val (.ref (A 4)), .val (.double tol), .second, .val (.int (0 : Int32)), .unset, .unset, .unset, .unset, .unset, .unset, .unset, .unset, .unset, .unset, .unset, .unset, .unset, .unset, .unset, .unset, .unset, .unset, .unset, .unset, .unset]) d6_9 (q := 12) rfl (w62 hw) (w64 hw) (w44 hw) rfl (w63 hw) (w65 hw) (w5 hw) (by decide) pn7 pd7 rfl rfl C0.exa (fun m_ => by simp [entryFrame, mkF, argsToLocals, Value.category]) rfl (by decide) rfl (by decide) (by decide) (by decide) (sv0_0_gt l Z a0 hw n0 h X0 X1 U1 T  tol  sx0 sx1 su1 hU bX0 bX1 sT  hT C0 (Q := RV (fun w_ h' => w_ = .int 0 ∧ CN Z h' n0 c A ax (-1 : Int32) (0 : Int32) (0 : Int32) [(.int (0 : Int32)), (.int (0 : Int32)), (.int (0 : Int32))] [(.int l0), (.int l1)] [(.int g0), (.int g1)] [(.double p0), (.double p1)] [(.double 0), (.double u1)] [(.double x0), (.double x1)])) (fun h' q => ⟨_, rfl, rfl, q⟩)) ?_
  rintro _ g131 ⟨rfl, Cg131⟩
  refine Go.zreturn d6_12 (by decide) (by decide) (by decide) ?_
  exact hQ g131 Cg131
set_option maxRecDepth 65536 in
set_option maxHeartbeats 40000000 in
theorem sv4_1_eq (l : Launch) (Z : State) (a0 : Array Value) (hw : Hw a0 Z) (n0 : Nat) (h : Heap) {c : Addr} {A : Nat → Addr} {ax : Addr} {its l0 l1 g0 g1 : Int32} {p0 p1 u1 x0 x1 : UInt64} (X0 X1 U1 T P0 : Int) (tol y0 : UInt64) (sx0 : Sx X0 x0) (sx1 : Sx X1 x1) (su1 : Sx U1 u1) (hU : U1 = X1) (bX0 : X0.natAbs ≤ 16384) (bX1 : X1.natAbs ≤ 16384) (sT : Sx T tol) (t0 : ¬ g0 < 0) (hy0 : [Value.double x0, .double x1][g0.toNatClampNeg]? = some (.double y0)) (m0 : Sx P0 (FP.dmul p0 y0)) (bP0 : P0.natAbs ≤ 16384) (hT : T = (((0 - X0) + P0).natAbs : Int)) (C0 : CN Z h n0 c A ax (-1 : Int32) (1 : Int32) its [(.int (0 : Int32)), (.int (1 : Int32)), (.int (1 : Int32))] [(.int l0), (.int l1)] [(.int g0), (.int g1)] [(.double p0), (.double p1)] [(.double 0), (.double u1)] [(.double x0), (.double x1)]) {Q : Option Value → Heap → Prop} (hQ : ∀ h', CN Z h' n0 c A ax (-1 : Int32) (1 : Int32) (0 : Int32) [(.int (0 : Int32)), (.int (1 : Int32)), (.int (1 : Int32))] [(.int l0), (.int l1)] [(.int g0), (.int g1)] [(.double p0), (.double p1)] [(.double 0), (.double u1)] [(.double x0), (.double x1)] → Q (some (.int 1)) h') :
    Go l Z (⟨"com/example/nona/nona/solver/ApproximateChain", "solve", "([D[DDI)Z"⟩ : MethodName) prog_136_method_8_code 27 (some .boolean) ({ frames := 1, cells := 0, slots := 0, locals := 18 } : Room) n0 Q h 0 0 4 #[.val (.ref c), .val (.ref ax), .val (.ref (A 4)), .val (.double tol), .second, .val (.int (0 : Int32)), .unset, .unset, .unset, .unset, .unset, .unset, .unset, .unset, .unset, .unset, .unset, .unset, .unset, .unset, .unset, .unset, .unset, .unset, .unset, .unset, .unset] [] := by
  refine Go.aloadN d7_4 (q := 5) rfl rfl rfl ?_
  refine Go.getF d7_5 (q := 8) rfl (host := "") (Or.inl (w14 hw)) Via.refl C0.fd.size ?_
  refine Go.istore d7_8 (q := 10) rfl (Ls' := #[.val (.ref c), .val (.ref ax), .val (.ref (A 4)), .val (.double tol), .second, .val (.int (0 : Int32)), .val (.int (2 : Int32)), .unset, .unset, .unset, .unset, .unset, .unset, .unset, .unset, .unset, .unset, .unset, .unset, .unset, .unset, .unset, .unset, .unset, .unset, .unset, .unset]) rfl ?_
  refine Go.aloadN d7_10 (q := 11) rfl rfl rfl ?_
  refine Go.getF d7_11 (q := 14) rfl (host := "") (Or.inl (w27 hw)) Via.refl C0.fd.residual ?_
  refine Go.astore d7_14 (q := 16) rfl rfl (Ls' := #[.val (.ref c), .val (.ref ax), .val (.ref (A 4)), .val (.double tol), .second, .val (.int (0 : Int32)), .val (.int (2 : Int32)), .val (.ref (A 5)), .unset, .unset, .unset, .unset, .unset, .unset, .unset, .unset, .unset, .unset, .unset, .unset, .unset, .unset, .unset, .unset, .unset, .unset, .unset]) rfl ?_
  refine Go.aloadN d7_16 (q := 17) rfl rfl rfl ?_
  refine Go.getF d7_17 (q := 20) rfl (host := "") (Or.inl (w33 hw)) Via.refl C0.fd.image ?_
  refine Go.astore d7_20 (q := 22) rfl rfl (Ls' := #[.val (.ref c), .val (.ref ax), .val (.ref (A 4)), .val (.double tol), .second, .val (.int (0 : Int32)), .val (.int (2 : Int32)), .val (.ref (A 5)), .val (.ref (A 8)), .unset, .unset, .unset, .unset, .unset, .unset, .unset, .unset, .unset, .unset, .unset, .unset, .unset, .unset, .unset, .unset, .unset, .unset]) rfl ?_
  refine Go.aloadN d7_22 (q := 23) rfl rfl rfl ?_
  refine Go.getF d7_23 (q := 26) rfl (host := "") (Or.inl (w31 hw)) Via.refl C0.fd.direction ?_
  refine Go.astore d7_26 (q := 28) rfl rfl (Ls' := #[.val (.ref c), .val (.ref ax), .val (.ref (A 4)), .val (.double tol), .second, .val (.int (0 : Int32)), .val (.int (2 : Int32)), .val (.ref (A 5)), .val (.ref (A 8)), .val (.ref (A 7)), .unset, .unset, .unset, .unset, .unset, .unset, .unset, .unset, .unset, .unset, .unset, .unset, .unset, .unset, .unset, .unset, .unset]) rfl ?_
  refine Go.aloadN d7_28 (q := 29) rfl rfl rfl ?_
  refine Go.getF d7_29 (q := 32) rfl (host := "") (Or.inl (w39 hw)) Via.refl C0.fd.product ?_
  refine Go.astore d7_32 (q := 34) rfl rfl (Ls' := #[.val (.ref c), .val (.ref ax), .val (.ref (A 4)), .val (.double tol), .second, .val (.int (0 : Int32)), .val (.int (2 : Int32)), .val (.ref (A 5)), .val (.ref (A 8)), .val (.ref (A 7)), .val (.ref (A 11)), .unset, .unset, .unset, .unset, .unset, .unset, .unset, .unset, .unset, .unset, .unset, .unset, .unset, .unset, .unset, .unset]) rfl ?_
  refine Go.dconst0 d7_34 (q := 35) rfl ?_
  refine Go.dstore d7_35 (q := 37) rfl (Ls' := #[.val (.ref c), .val (.ref ax), .val (.ref (A 4)), .val (.double tol), .second, .val (.int (0 : Int32)), .val (.int (2 : Int32)), .val (.ref (A 5)), .val (.ref (A 8)), .val (.ref (A 7)), .val (.ref (A 11)), .val (.double 0), .second, .unset, .unset, .unset, .unset, .unset, .unset, .unset, .unset, .unset, .unset, .unset, .unset, .unset, .unset]) rfl ?_
  refine Go.iconst d7_37 (q := 38) rfl (x := (0 : Int32)) (by decide) ?_
  refine Go.istore d7_38 (q := 40) rfl (Ls' := #[.val (.ref c), .val (.ref ax), .val (.ref (A 4)), .val (.double tol), .second, .val (.int (0 : Int32)), .val (.int (2 : Int32)), .val (.ref (A 5)), .val (.ref (A 8)), .val (.ref (A 7)), .val (.ref (A 11)), .val (.double 0), .second, .val (.int (0 : Int32)), .unset, .unset, .unset, .unset, .unset, .unset, .unset, .unset, .unset, .unset, .unset, .unset, .unset]) rfl ?_
  refine Go.iload d7_40 (q := 42) rfl rfl ?_
  refine Go.iload d7_42 (q := 44) rfl rfl ?_
  refine Go.icmp_ge d7_44 (q := 155) (q' := 47) (by decide) rfl rfl (fun c_ => absurd (by decide) c_) (fun _ => ?_)
  refine Go.aloadN d7_47 (q := 48) rfl rfl rfl ?_
  refine Go.iload d7_48 (q := 50) rfl rfl ?_
  refine Go.daload d7_50 (q := 51) rfl (C0.a4).choose_spec (by decide) rfl ?_
  refine Go.aloadN d7_51 (q := 52) rfl rfl rfl ?_
  refine Go.iload d7_52 (q := 54) rfl rfl ?_
  refine Go.daload d7_54 (q := 55) rfl (C0.ax).choose_spec (by decide) rfl ?_
  refine Go.dsubX d7_55 (q := 56) rfl (sx_sub sx_zero sx0 (by omega)) ?_
  intro v133 sv133
  refine Go.dstore d7_56 (q := 58) rfl (Ls' := #[.val (.ref c), .val (.ref ax), .val (.ref (A 4)), .val (.double tol), .second, .val (.int (0 : Int32)), .val (.int (2 : Int32)), .val (.ref (A 5)), .val (.ref (A 8)), .val (.ref (A 7)), .val (.ref (A 11)), .val (.double 0), .second, .val (.int (0 : Int32)), .val (.double v133), .second, .unset, .unset, .unset, .unset, .unset, .unset, .unset, .unset, .unset, .unset, .unset]) rfl ?_
  refine Go.aloadN d7_58 (q := 59) rfl rfl rfl ?_
  refine Go.getF d7_59 (q := 62) rfl (host := "") (Or.inl (w17 hw)) Via.refl C0.fd.starts ?_
  refine Go.iload d7_62 (q := 64) rfl rfl ?_
  refine Go.iaload d7_64 (q := 65) rfl (C0.a0).choose_spec (by decide) rfl ?_
  refine Go.istore d7_65 (q := 67) rfl (Ls' := #[.val (.ref c), .val (.ref ax), .val (.ref (A 4)), .val (.double tol), .second, .val (.int (0 : Int32)), .val (.int (2 : Int32)), .val (.ref (A 5)), .val (.ref (A 8)), .val (.ref (A 7)), .val (.ref (A 11)), .val (.double 0), .second, .val (.int (0 : Int32)), .val (.double v133), .second, .val (.int (0 : Int32)), .unset, .unset, .unset, .unset, .unset, .unset, .unset, .unset, .unset, .unset]) rfl ?_
  refine Go.iload d7_67 (q := 69) rfl rfl ?_
  refine Go.aloadN d7_69 (q := 70) rfl rfl rfl ?_
  refine Go.getF d7_70 (q := 73) rfl (host := "") (Or.inl (w17 hw)) Via.refl C0.fd.starts ?_
  refine Go.iload d7_73 (q := 75) rfl rfl ?_
  refine Go.iconst d7_75 (q := 76) rfl (x := (1 : Int32)) (by decide) ?_
  refine Go.iadd d7_76 (q := 77) rfl ?_
  rw [show ((0 : Int32) + (1 : Int32)) = (1 : Int32) from rfl]
  refine Go.iaload d7_77 (q := 78) rfl (C0.a0).choose_spec (by decide) rfl ?_
  refine Go.icmp_ge d7_78 (q := 109) (q' := 81) (by decide) rfl rfl (fun c_ => absurd (by decide) c_) (fun _ => ?_)
  refine Go.dload d7_81 (q := 83) rfl rfl ?_
  refine Go.aloadN d7_83 (q := 84) rfl rfl rfl ?_
  refine Go.getF d7_84 (q := 87) rfl (host := "") (Or.inl (w23 hw)) Via.refl C0.fd.probabilities ?_
  refine Go.iload d7_87 (q := 89) rfl rfl ?_
  refine Go.daload d7_89 (q := 90) rfl (C0.a3).choose_spec (by decide) rfl ?_
  refine Go.aloadN d7_90 (q := 91) rfl rfl rfl ?_
  refine Go.aloadN d7_91 (q := 92) rfl rfl rfl ?_
  refine Go.getF d7_92 (q := 95) rfl (host := "") (Or.inl (w21 hw)) Via.refl C0.fd.targets ?_
  refine Go.iload d7_95 (q := 97) rfl rfl ?_
  refine Go.iaload d7_97 (q := 98) rfl (C0.a2).choose_spec (by decide) rfl ?_
  refine Go.daload d7_98 (q := 99) rfl (C0.ax).choose_spec t0 hy0 ?_
  refine Go.dmul d7_99 (q := 100) rfl (sx_nn m0) ?_
  refine Go.daddX d7_100 (q := 101) rfl (sx_add sv133 m0 (by omega)) ?_
  intro v136 sv136
  refine Go.dstore d7_101 (q := 103) rfl (Ls' := #[.val (.ref c), .val (.ref ax), .val (.ref (A 4)), .val (.double tol), .second, .val (.int (0 : Int32)), .val (.int (2 : Int32)), .val (.ref (A 5)), .val (.ref (A 8)), .val (.ref (A 7)), .val (.ref (A 11)), .val (.double 0), .second, .val (.int (0 : Int32)), .val (.double v136), .second, .val (.int (0 : Int32)), .unset, .unset, .unset, .unset, .unset, .unset, .unset, .unset, .unset, .unset]) rfl ?_
  refine Go.iinc d7_103 (q := 106) rfl rfl (w := (1 : Int32)) rfl (Ls' := #[.val (.ref c), .val (.ref ax), .val (.ref (A 4)), .val (.double tol), .second, .val (.int (0 : Int32)), .val (.int (2 : Int32)), .val (.ref (A 5)), .val (.ref (A 8)), .val (.ref (A 7)), .val (.ref (A 11)), .val (.double 0), .second, .val (.int (0 : Int32)), .val (.double v136), .second, .val (.int (1 : Int32)), .unset, .unset, .unset, .unset, .unset, .unset, .unset, .unset, .unset, .unset]) rfl ?_
  refine Go.goto d7_106 (q := 67) (by decide) rfl ?_
  refine Go.iload d7_67 (q := 69) rfl rfl ?_
  refine Go.aloadN d7_69 (q := 70) rfl rfl rfl ?_
  refine Go.getF d7_70 (q := 73) rfl (host := "") (Or.inl (w17 hw)) Via.refl C0.fd.starts ?_
  refine Go.iload d7_73 (q := 75) rfl rfl ?_
  refine Go.iconst d7_75 (q := 76) rfl (x := (1 : Int32)) (by decide) ?_
  refine Go.iadd d7_76 (q := 77) rfl ?_
  rw [show ((0 : Int32) + (1 : Int32)) = (1 : Int32) from rfl]
  refine Go.iaload d7_77 (q := 78) rfl (C0.a0).choose_spec (by decide) rfl ?_
  refine Go.icmp_ge d7_78 (q := 109) (q' := 81) (by decide) rfl rfl (fun _ => ?_) (fun c_ => absurd c_ (by decide))
  refine Go.aload d7_109 (q := 111) rfl rfl rfl ?_
  refine Go.iload d7_111 (q := 113) rfl rfl ?_
  refine Go.dload d7_113 (q := 115) rfl rfl ?_
  obtain ⟨kg138, vg138, lg138, Bg138⟩ := C0.a5
  refine Go.dastore d7_115 (q := 116) rfl Bg138 (by decide) (by rw [lg138]; decide) C0.na5 ?_
  intro g138 Wg138
  have Cg138 : CN Z g138 n0 c A ax (-1 : Int32) (1 : Int32) its [(.int (0 : Int32)), (.int (1 : Int32)), (.int (1 : Int32))] [(.int l0), (.int l1)] [(.int g0), (.int g1)] [(.double p0), (.double p1)] [(.double 0), (.double u1)] [(.double x0), (.double x1)] := C0.w5 Wg138
  refine Go.aloadN d7_116 (q := 117) rfl rfl rfl ?_
  refine Go.getF d7_117 (q := 120) rfl (host := "") (Or.inl (w29 hw)) Via.refl Cg138.fd.shadow ?_
  refine Go.iload d7_120 (q := 122) rfl rfl ?_
  refine Go.dload d7_122 (q := 124) rfl rfl ?_
  obtain ⟨kg139, vg139, lg139, Bg139⟩ := Cg138.a6
  refine Go.dastore d7_124 (q := 125) rfl Bg139 (by decide) (by rw [lg139]; decide) Cg138.na6 ?_
  intro g139 Wg139
  have Cg139 : CN Z g139 n0 c A ax (-1 : Int32) (1 : Int32) its [(.int (0 : Int32)), (.int (1 : Int32)), (.int (1 : Int32))] [(.int l0), (.int l1)] [(.int g0), (.int g1)] [(.double p0), (.double p1)] [(.double 0), (.double u1)] [(.double x0), (.double x1)] := Cg138.w6 Wg139
  refine Go.aload d7_125 (q := 127) rfl rfl rfl ?_
  refine Go.iload d7_127 (q := 129) rfl rfl ?_
  refine Go.dconst0 d7_129 (q := 130) rfl ?_
  obtain ⟨kg140, vg140, lg140, Bg140⟩ := Cg139.a7
  refine Go.dastore d7_130 (q := 131) rfl Bg140 (by decide) (by rw [lg140]; decide) Cg139.na7 ?_
  intro g140 Wg140
  have Cg140 : CN Z g140 n0 c A ax (-1 : Int32) (1 : Int32) its [(.int (0 : Int32)), (.int (1 : Int32)), (.int (1 : Int32))] [(.int l0), (.int l1)] [(.int g0), (.int g1)] [(.double p0), (.double p1)] [(.double 0), (.double u1)] [(.double x0), (.double x1)] := Cg139.w7 Wg140
  refine Go.aload d7_131 (q := 133) rfl rfl rfl ?_
  refine Go.iload d7_133 (q := 135) rfl rfl ?_
  refine Go.dconst0 d7_135 (q := 136) rfl ?_
  obtain ⟨kg141, vg141, lg141, Bg141⟩ := Cg140.a8
  refine Go.dastore d7_136 (q := 137) rfl Bg141 (by decide) (by rw [lg141]; decide) Cg140.na8 ?_
  intro g141 Wg141
  have Cg141 : CN Z g141 n0 c A ax (-1 : Int32) (1 : Int32) its [(.int (0 : Int32)), (.int (1 : Int32)), (.int (1 : Int32))] [(.int l0), (.int l1)] [(.int g0), (.int g1)] [(.double p0), (.double p1)] [(.double 0), (.double u1)] [(.double x0), (.double x1)] := Cg140.w8 Wg141
  refine Go.dload d7_137 (q := 139) rfl rfl ?_
  refine Go.dload d7_139 (q := 141) rfl rfl ?_
  refine Go.absD (wd := 2) d7_141 (q := 144) rfl (w66 hw) (w67 hw) (w68 hw) (w69 hw) sv136 rfl (by decide) rfl (by decide) (by decide) (by decide) ?_
  intro v142 sv142
  refine Go.maxD (g := ((((0 - X0) + P0)).natAbs : Int)) (wd := 0) d7_144 (q := 147) rfl (w70 hw) (w71 hw) (w68 hw) (w72 hw) sx_zero sv142 (Or.inl ⟨by omega, rfl⟩) rfl (by decide) rfl (by decide) (by decide) (by decide) ?_
  intro v143 sv143
  refine Go.dstore d7_147 (q := 149) rfl (Ls' := #[.val (.ref c), .val (.ref ax), .val (.ref (A 4)), .val (.double tol), .second, .val (.int (0 : Int32)), .val (.int (2 : Int32)), .val (.ref (A 5)), .val (.ref (A 8)), .val (.ref (A 7)), .val (.ref (A 11)), .val (.double v143), .second, .val (.int (0 : Int32)), .val (.double v136), .second, .val (.int (1 : Int32)), .unset, .unset, .unset, .unset, .unset, .unset, .unset, .unset, .unset, .unset]) rfl ?_
  refine Go.iinc d7_149 (q := 152) rfl rfl (w := (1 : Int32)) rfl (Ls' := #[.val (.ref c), .val (.ref ax), .val (.ref (A 4)), .val (.double tol), .second, .val (.int (0 : Int32)), .val (.int (2 : Int32)), .val (.ref (A 5)), .val (.ref (A 8)), .val (.ref (A 7)), .val (.ref (A 11)), .val (.double v143), .second, .val (.int (1 : Int32)), .val (.double v136), .second, .val (.int (1 : Int32)), .unset, .unset, .unset, .unset, .unset, .unset, .unset, .unset, .unset, .unset]) rfl ?_
  refine Go.goto d7_152 (q := 40) (by decide) rfl ?_
  refine Go.iload d7_40 (q := 42) rfl rfl ?_
  refine Go.iload d7_42 (q := 44) rfl rfl ?_
  refine Go.icmp_ge d7_44 (q := 155) (q' := 47) (by decide) rfl rfl (fun c_ => absurd (by decide) c_) (fun _ => ?_)
  refine Go.aloadN d7_47 (q := 48) rfl rfl rfl ?_
  refine Go.iload d7_48 (q := 50) rfl rfl ?_
  refine Go.daload d7_50 (q := 51) rfl (Cg141.a4).choose_spec (by decide) rfl ?_
  refine Go.aloadN d7_51 (q := 52) rfl rfl rfl ?_
  refine Go.iload d7_52 (q := 54) rfl rfl ?_
  refine Go.daload d7_54 (q := 55) rfl (Cg141.ax).choose_spec (by decide) rfl ?_
  refine Go.dsubX d7_55 (q := 56) rfl (sx_sub su1 sx1 (by omega)) ?_
  intro v145 sv145
  refine Go.dstore d7_56 (q := 58) rfl (Ls' := #[.val (.ref c), .val (.ref ax), .val (.ref (A 4)), .val (.double tol), .second, .val (.int (0 : Int32)), .val (.int (2 : Int32)), .val (.ref (A 5)), .val (.ref (A 8)), .val (.ref (A 7)), .val (.ref (A 11)), .val (.double v143), .second, .val (.int (1 : Int32)), .val (.double v145), .second, .val (.int (1 : Int32)), .unset, .unset, .unset, .unset, .unset, .unset, .unset, .unset, .unset, .unset]) rfl ?_
  refine Go.aloadN d7_58 (q := 59) rfl rfl rfl ?_
  refine Go.getF d7_59 (q := 62) rfl (host := "") (Or.inl (w17 hw)) Via.refl Cg141.fd.starts ?_
  refine Go.iload d7_62 (q := 64) rfl rfl ?_
  refine Go.iaload d7_64 (q := 65) rfl (Cg141.a0).choose_spec (by decide) rfl ?_
  refine Go.istore d7_65 (q := 67) rfl (Ls' := #[.val (.ref c), .val (.ref ax), .val (.ref (A 4)), .val (.double tol), .second, .val (.int (0 : Int32)), .val (.int (2 : Int32)), .val (.ref (A 5)), .val (.ref (A 8)), .val (.ref (A 7)), .val (.ref (A 11)), .val (.double v143), .second, .val (.int (1 : Int32)), .val (.double v145), .second, .val (.int (1 : Int32)), .unset, .unset, .unset, .unset, .unset, .unset, .unset, .unset, .unset, .unset]) rfl ?_
  refine Go.iload d7_67 (q := 69) rfl rfl ?_
  refine Go.aloadN d7_69 (q := 70) rfl rfl rfl ?_
  refine Go.getF d7_70 (q := 73) rfl (host := "") (Or.inl (w17 hw)) Via.refl Cg141.fd.starts ?_
  refine Go.iload d7_73 (q := 75) rfl rfl ?_
  refine Go.iconst d7_75 (q := 76) rfl (x := (1 : Int32)) (by decide) ?_
  refine Go.iadd d7_76 (q := 77) rfl ?_
  rw [show ((1 : Int32) + (1 : Int32)) = (2 : Int32) from rfl]
  refine Go.iaload d7_77 (q := 78) rfl (Cg141.a0).choose_spec (by decide) rfl ?_
  refine Go.icmp_ge d7_78 (q := 109) (q' := 81) (by decide) rfl rfl (fun _ => ?_) (fun c_ => absurd c_ (by decide))
  refine Go.aload d7_109 (q := 111) rfl rfl rfl ?_
  refine Go.iload d7_111 (q := 113) rfl rfl ?_
  refine Go.dload d7_113 (q := 115) rfl rfl ?_
  obtain ⟨kg147, vg147, lg147, Bg147⟩ := Cg141.a5
  refine Go.dastore d7_115 (q := 116) rfl Bg147 (by decide) (by rw [lg147]; decide) Cg141.na5 ?_
  intro g147 Wg147
  have Cg147 : CN Z g147 n0 c A ax (-1 : Int32) (1 : Int32) its [(.int (0 : Int32)), (.int (1 : Int32)), (.int (1 : Int32))] [(.int l0), (.int l1)] [(.int g0), (.int g1)] [(.double p0), (.double p1)] [(.double 0), (.double u1)] [(.double x0), (.double x1)] := Cg141.w5 Wg147
  refine Go.aloadN d7_116 (q := 117) rfl rfl rfl ?_
  refine Go.getF d7_117 (q := 120) rfl (host := "") (Or.inl (w29 hw)) Via.refl Cg147.fd.shadow ?_
  refine Go.iload d7_120 (q := 122) rfl rfl ?_
  refine Go.dload d7_122 (q := 124) rfl rfl ?_
  obtain ⟨kg148, vg148, lg148, Bg148⟩ := Cg147.a6
  refine Go.dastore d7_124 (q := 125) rfl Bg148 (by decide) (by rw [lg148]; decide) Cg147.na6 ?_
  intro g148 Wg148
  have Cg148 : CN Z g148 n0 c A ax (-1 : Int32) (1 : Int32) its [(.int (0 : Int32)), (.int (1 : Int32)), (.int (1 : Int32))] [(.int l0), (.int l1)] [(.int g0), (.int g1)] [(.double p0), (.double p1)] [(.double 0), (.double u1)] [(.double x0), (.double x1)] := Cg147.w6 Wg148
  refine Go.aload d7_125 (q := 127) rfl rfl rfl ?_
  refine Go.iload d7_127 (q := 129) rfl rfl ?_
  refine Go.dconst0 d7_129 (q := 130) rfl ?_
  obtain ⟨kg149, vg149, lg149, Bg149⟩ := Cg148.a7
  refine Go.dastore d7_130 (q := 131) rfl Bg149 (by decide) (by rw [lg149]; decide) Cg148.na7 ?_
  intro g149 Wg149
  have Cg149 : CN Z g149 n0 c A ax (-1 : Int32) (1 : Int32) its [(.int (0 : Int32)), (.int (1 : Int32)), (.int (1 : Int32))] [(.int l0), (.int l1)] [(.int g0), (.int g1)] [(.double p0), (.double p1)] [(.double 0), (.double u1)] [(.double x0), (.double x1)] := Cg148.w7 Wg149
  refine Go.aload d7_131 (q := 133) rfl rfl rfl ?_
  refine Go.iload d7_133 (q := 135) rfl rfl ?_
  refine Go.dconst0 d7_135 (q := 136) rfl ?_
  obtain ⟨kg150, vg150, lg150, Bg150⟩ := Cg149.a8
  refine Go.dastore d7_136 (q := 137) rfl Bg150 (by decide) (by rw [lg150]; decide) Cg149.na8 ?_
  intro g150 Wg150
  have Cg150 : CN Z g150 n0 c A ax (-1 : Int32) (1 : Int32) its [(.int (0 : Int32)), (.int (1 : Int32)), (.int (1 : Int32))] [(.int l0), (.int l1)] [(.int g0), (.int g1)] [(.double p0), (.double p1)] [(.double 0), (.double u1)] [(.double x0), (.double x1)] := Cg149.w8 Wg150
  refine Go.dload d7_137 (q := 139) rfl rfl ?_
  refine Go.dload d7_139 (q := 141) rfl rfl ?_
  refine Go.absD (wd := 2) d7_141 (q := 144) rfl (w66 hw) (w67 hw) (w68 hw) (w69 hw) sv145 rfl (by decide) rfl (by decide) (by decide) (by decide) ?_
  intro v151 sv151
  refine Go.maxD (g := ((((0 - X0) + P0)).natAbs : Int)) (wd := 0) d7_144 (q := 147) rfl (w70 hw) (w71 hw) (w68 hw) (w72 hw) sv143 sv151 (Or.inr ⟨by omega, rfl⟩) rfl (by decide) rfl (by decide) (by decide) (by decide) ?_
  intro v152 sv152
  refine Go.dstore d7_147 (q := 149) rfl (Ls' := #[.val (.ref c), .val (.ref ax), .val (.ref (A 4)), .val (.double tol), .second, .val (.int (0 : Int32)), .val (.int (2 : Int32)), .val (.ref (A 5)), .val (.ref (A 8)), .val (.ref (A 7)), .val (.ref (A 11)), .val (.double v152), .second, .val (.int (1 : Int32)), .val (.double v145), .second, .val (.int (1 : Int32)), .unset, .unset, .unset, .unset, .unset, .unset, .unset, .unset, .unset, .unset]) rfl ?_
  refine Go.iinc d7_149 (q := 152) rfl rfl (w := (2 : Int32)) rfl (Ls' := #[.val (.ref c), .val (.ref ax), .val (.ref (A 4)), .val (.double tol), .second, .val (.int (0 : Int32)), .val (.int (2 : Int32)), .val (.ref (A 5)), .val (.ref (A 8)), .val (.ref (A 7)), .val (.ref (A 11)), .val (.double v152), .second, .val (.int (2 : Int32)), .val (.double v145), .second, .val (.int (1 : Int32)), .unset, .unset, .unset, .unset, .unset, .unset, .unset, .unset, .unset, .unset]) rfl ?_
  refine Go.goto d7_152 (q := 40) (by decide) rfl ?_
  refine Go.iload d7_40 (q := 42) rfl rfl ?_
  refine Go.iload d7_42 (q := 44) rfl rfl ?_
  refine Go.icmp_ge d7_44 (q := 155) (q' := 47) (by decide) rfl rfl (fun _ => ?_) (fun c_ => absurd c_ (by decide))
  refine Go.dconst1 d7_155 (q := 156) rfl ?_
  refine Go.dstore d7_156 (q := 158) rfl (Ls' := #[.val (.ref c), .val (.ref ax), .val (.ref (A 4)), .val (.double tol), .second, .val (.int (0 : Int32)), .val (.int (2 : Int32)), .val (.ref (A 5)), .val (.ref (A 8)), .val (.ref (A 7)), .val (.ref (A 11)), .val (.double v152), .second, .val (.double FP.dconst1), .second, .unset, .val (.int (1 : Int32)), .unset, .unset, .unset, .unset, .unset, .unset, .unset, .unset, .unset, .unset]) rfl ?_
  refine Go.dconst1 d7_158 (q := 159) rfl ?_
  refine Go.dstore d7_159 (q := 161) rfl (Ls' := #[.val (.ref c), .val (.ref ax), .val (.ref (A 4)), .val (.double tol), .second, .val (.int (0 : Int32)), .val (.int (2 : Int32)), .val (.ref (A 5)), .val (.ref (A 8)), .val (.ref (A 7)), .val (.ref (A 11)), .val (.double v152), .second, .val (.double FP.dconst1), .second, .val (.double FP.dconst1), .second, .unset, .unset, .unset, .unset, .unset, .unset, .unset, .unset, .unset, .unset]) rfl ?_
  refine Go.dconst1 d7_161 (q := 162) rfl ?_
  refine Go.dstore d7_162 (q := 164) rfl (Ls' := #[.val (.ref c), .val (.ref ax), .val (.ref (A 4)), .val (.double tol), .second, .val (.int (0 : Int32)), .val (.int (2 : Int32)), .val (.ref (A 5)), .val (.ref (A 8)), .val (.ref (A 7)), .val (.ref (A 11)), .val (.double v152), .second, .val (.double FP.dconst1), .second, .val (.double FP.dconst1), .second, .val (.double FP.dconst1), .second, .unset, .unset, .unset, .unset, .unset, .unset, .unset, .unset]) rfl ?_
  refine Go.aloadN d7_164 (q := 165) rfl rfl rfl ?_
  refine Go.iconst d7_165 (q := 166) rfl (x := (0 : Int32)) (by decide) ?_
  refine Go.putF d7_166 (q := 169) rfl (host := "") (Or.inl (w73 hw)) Via.refl Cg150.fd.iterations Cg150.exa (Or.inl (w74 hw)) (w4 hw) pTn rfl rfl Cg150.nc ?_
  intro g154 Wg154
  have Cg154 : CN Z g154 n0 c A ax (-1 : Int32) (1 : Int32) (0 : Int32) [(.int (0 : Int32)), (.int (1 : Int32)), (.int (1 : Int32))] [(.int l0), (.int l1)] [(.int g0), (.int g1)] [(.double p0), (.double p1)] [(.double 0), (.double u1)] [(.double x0), (.double x1)] := Cg150.w_iterations hw Wg154
  refine Go.iconst d7_169 (q := 170) rfl (x := (0 : Int32)) (by decide) ?_
  refine Go.istore d7_170 (q := 172) rfl (Ls' := #[.val (.ref c), .val (.ref ax), .val (.ref (A 4)), .val (.double tol), .second, .val (.int (0 : Int32)), .val (.int (2 : Int32)), .val (.ref (A 5)), .val (.ref (A 8)), .val (.ref (A 7)), .val (.ref (A 11)), .val (.double v152), .second, .val (.double FP.dconst1), .second, .val (.double FP.dconst1), .second, .val (.double FP.dconst1), .second, .val (.int (0 : Int32)), .unset, .unset, .unset, .unset, .unset, .unset, .unset]) rfl ?_
  refine Go.dload d7_172 (q := 174) rfl rfl ?_
  refine Go.dloadN d7_174 (q := 175) rfl rfl ?_
  refine Go.dcmpX d7_175 (q := 176) rfl sv152 sT (cmpI_eq (by omega)) ?_
  refine Go.if_le d7_176 (q := 488) (q' := 179) (by decide) rfl rfl (fun _ => ?_) (fun c_ => absurd c_ (by decide))
  refine Go.dload d7_488 (q := 490) rfl rfl ?_
  refine Go.dloadN d7_490 (q := 491) rfl rfl ?_
  refine Go.dcmpX d7_491 (q := 492) rfl sv152 sT (cmpI_eq (by omega)) ?_
  refine Go.if_gt d7_492 (q := 499) (q' := 495) (by decide) rfl rfl (fun c_ => absurd c_ (by decide)) (fun _ => ?_)
  refine Go.iconst d7_495 (q := 496) rfl (x := (1 : Int32)) (by decide) ?_
  refine Go.goto d7_496 (q := 500) (by decide) rfl ?_
  refine Go.zreturn d7_500 (by decide) (by decide) (by decide) ?_
  exact hQ g154 Cg154
set_option maxRecDepth 65536 in
set_option maxHeartbeats 40000000 in
theorem sv0_1_eq (l : Launch) (Z : State) (a0 : Array Value) (hw : Hw a0 Z) (n0 : Nat) (h : Heap) {c : Addr} {A : Nat → Addr} {ax : Addr} {its s2 l0 l1 g0 g1 : Int32} {p0 p1 u1 x0 x1 : UInt64} (X0 X1 U1 T P0 : Int) (tol y0 : UInt64) (sx0 : Sx X0 x0) (sx1 : Sx X1 x1) (su1 : Sx U1 u1) (hU : U1 = X1) (bX0 : X0.natAbs ≤ 16384) (bX1 : X1.natAbs ≤ 16384) (sT : Sx T tol) (t0 : ¬ g0 < 0) (hy0 : [Value.double x0, .double x1][g0.toNatClampNeg]? = some (.double y0)) (m0 : Sx P0 (FP.dmul p0 y0)) (bP0 : P0.natAbs ≤ 16384) (hT : T = (((0 - X0) + P0).natAbs : Int)) (C0 : CN Z h n0 c A ax (1 : Int32) (1 : Int32) its [(.int (0 : Int32)), (.int (1 : Int32)), (.int s2)] [(.int l0), (.int l1)] [(.int g0), (.int g1)] [(.double p0), (.double p1)] [(.double 0), (.double u1)] [(.double x0), (.double x1)]) {Q : Option Value → Heap → Prop} (hQ : ∀ h', CN Z h' n0 c A ax (-1 : Int32) (1 : Int32) (0 : Int32) [(.int (0 : Int32)), (.int (1 : Int32)), (.int (1 : Int32))] [(.int l0), (.int (1 : Int32))] [(.int g0), (.int g1)] [(.double p0), (.double p1)] [(.double 0), (.double u1)] [(.double x0), (.double x1)] → Q (some (.int 1)) h') :
    Go l Z (⟨"com/example/nona/nona/solver/ApproximateChain", "solve", "([D[DDI)Z"⟩ : MethodName) prog_136_method_8_code 27 (some .boolean) ({ frames := 1, cells := 0, slots := 0, locals := 18 } : Room) n0 Q h 0 0 0 #[.val (.ref c), .val (.ref ax), .val (.ref (A 4)), .val (.double tol), .second, .val (.int (0 : Int32)), .unset, .unset, .unset, .unset, .unset, .unset, .unset, .unset, .unset, .unset, .unset, .unset, .unset, .unset, .unset, .unset, .unset, .unset, .unset, .unset, .unset] [] := by
  refine Go.aloadN d7_0 (q := 1) rfl rfl rfl ?_
  refine Go.callPN (P := fun h' => CN Z h' n0 c A ax (-1 : Int32) (1 : Int32) its [(.int (0 : Int32)), (.int (1 : Int32)), (.int (1 : Int32))] [(.int l0), (.int (1 : Int32))] [(.int g0), (.int g1)] [(.double p0), (.double p1)] [(.double 0), (.double u1)] [(.double x0), (.double x1)]) (argsL := []) (rest := []) (wd := 0) (Ls1 := #[.val (.ref c), .unset, .unset, .unset, .unset, .unset, .unset]) d7_1 (q := 4) rfl (w46 hw) (w48 hw) (w44 hw) rfl (w47 hw) (w49 hw) (w5 hw) (by decide) pn4 pd4 rfl rfl C0.exa (fun m_ => by simp [entryFrame, mkF, argsToLocals, Value.category]) rfl (by decide) rfl (by decide) (by decide) (by decide) (close1_1 l Z a0 hw n0 h C0 (Q := RN (fun h' => CN Z h' n0 c A ax (-1 : Int32) (1 : Int32) its [(.int (0 : Int32)), (.int (1 : Int32)), (.int (1 : Int32))] [(.int l0), (.int (1 : Int32))] [(.int g0), (.int g1)] [(.double p0), (.double p1)] [(.double 0), (.double u1)] [(.double x0), (.double x1)])) (fun h' q => ⟨rfl, q⟩)) ?_
  intro g157 Cg157
  exact sv4_1_eq l Z a0 hw n0 g157 X0 X1 U1 T P0 tol y0 sx0 sx1 su1 hU bX0 bX1 sT t0 hy0 m0 bP0 hT Cg157 hQ
set_option maxRecDepth 65536 in
set_option maxHeartbeats 40000000 in
theorem s3_1_eq (l : Launch) (Z : State) (a0 : Array Value) (hw : Hw a0 Z) (n0 : Nat) (h : Heap) {c : Addr} {A : Nat → Addr} {ax : Addr} {its s2 l0 l1 g0 g1 : Int32} {p0 p1 u1 x0 x1 : UInt64} (X0 X1 U1 T P0 : Int) (tol y0 : UInt64) (sx0 : Sx X0 x0) (sx1 : Sx X1 x1) (su1 : Sx U1 u1) (hU : U1 = X1) (bX0 : X0.natAbs ≤ 16384) (bX1 : X1.natAbs ≤ 16384) (sT : Sx T tol) (t0 : ¬ g0 < 0) (hy0 : [Value.double x0, .double x1][g0.toNatClampNeg]? = some (.double y0)) (m0 : Sx P0 (FP.dmul p0 y0)) (bP0 : P0.natAbs ≤ 16384) (hT : T = (((0 - X0) + P0).natAbs : Int)) (C0 : CN Z h n0 c A ax (1 : Int32) (1 : Int32) its [(.int (0 : Int32)), (.int (1 : Int32)), (.int s2)] [(.int l0), (.int l1)] [(.int g0), (.int g1)] [(.double p0), (.double p1)] [(.double 0), (.double u1)] [(.double x0), (.double x1)]) {Q : Option Value → Heap → Prop} (hQ : ∀ h', CN Z h' n0 c A ax (-1 : Int32) (1 : Int32) (0 : Int32) [(.int (0 : Int32)), (.int (1 : Int32)), (.int (1 : Int32))] [(.int l0), (.int (1 : Int32))] [(.int g0), (.int g1)] [(.double p0), (.double p1)] [(.double 0), (.double u1)] [(.double x0), (.double x1)] → Q (some (.int 1)) h') :
    Go l Z (⟨"com/example/nona/nona/solver/ApproximateChain", "solve", "([DDI)Z"⟩ : MethodName) prog_136_method_6_code 5 (some .boolean) ({ frames := 2, cells := 0, slots := 0, locals := 56 } : Room) n0 Q h 0 0 0 #[.val (.ref c), .val (.ref ax), .val (.double tol), .second, .val (.int (0 : Int32))] [] := by
  refine Go.aloadN d6_0 (q := 1) rfl rfl rfl ?_
  refine Go.aloadN d6_1 (q := 2) rfl rfl rfl ?_
  refine Go.aloadN d6_2 (q := 3) rfl rfl rfl ?_
  refine Go.getF d6_3 (q := 6) rfl (host := "") (Or.inl (w25 hw)) Via.refl C0.fd.gains ?_
  refine Go.dloadN d6_6 (q := 7) rfl rfl ?_
  refine Go.iload d6_7 (q := 9) rfl rfl ?_
  refine Go.callPV (P := fun w_ h' => w_ = .int 1 ∧ CN Z h' n0 c A ax (-1 : Int32) (1 : Int32) (0 : Int32) [(.int (0 : Int32)), (.int (1 : Int32)), (.int (1 : Int32))] [(.int l0), (.int (1 : Int32))] [(.int g0), (.int g1)] [(.double p0), (.double p1)] [(.double 0), (.double u1)] [(.double x0), (.double x1)]) (argsL := [(.ref ax), (.ref (A 4)), (.double tol), (.int (0 : Int32))]) (rest := []) (wd := 0) (Ls1 := #[.val (.ref c), .val (.ref ax), .val (.ref (A 4)), .val (.double tol), .second, .val (.int (0 : Int32)), .unset, .unset, .unset, .unset, .unset, .unset, .unset, .unset, .unset, .unset, .unset, .unset, .unset, .unset, .unset, .unset, .unset, .unset, .unset, .unset, .unset]) d6_9 (q := 12) rfl (w62 hw) (w64 hw) (w44 hw) rfl (w63 hw) (w65 hw) (w5 hw) (by decide) pn7 pd7 rfl rfl C0.exa (fun m_ => by simp [entryFrame, mkF, argsToLocals, Value.category]) rfl (by decide) rfl (by decide) (by decide) (by decide) (sv0_1_eq l Z a0 hw n0 h X0 X1 U1 T P0 tol y0 sx0 sx1 su1 hU bX0 bX1 sT t0 hy0 m0 bP0 hT C0 (Q := RV (fun w_ h' => w_ = .int 1 ∧ CN Z h' n0 c A ax (-1 : Int32) (1 : Int32) (0 : Int32) [(.int (0 : Int32)), (.int (1 : Int32)), (.int (1 : Int32))] [(.int l0), (.int (1 : Int32))] [(.int g0), (.int g1)] [(.double p0), (.double p1)] [(.double 0), (.double u1)] [(.double x0), (.double x1)])) (fun h' q => ⟨_, rfl, rfl, q⟩)) ?_
  rintro _ g158 ⟨rfl, Cg158⟩
  refine Go.zreturn d6_12 (by decide) (by decide) (by decide) ?_
  exact hQ g158 Cg158
set_option maxRecDepth 65536 in
set_option maxHeartbeats 40000000 in
theorem sv4_1_gt (l : Launch) (Z : State) (a0 : Array Value) (hw : Hw a0 Z) (n0 : Nat) (h : Heap) {c : Addr} {A : Nat → Addr} {ax : Addr} {its l0 l1 g0 g1 : Int32} {p0 p1 u1 x0 x1 : UInt64} (X0 X1 U1 T P0 : Int) (tol y0 : UInt64) (sx0 : Sx X0 x0) (sx1 : Sx X1 x1) (su1 : Sx U1 u1) (hU : U1 = X1) (bX0 : X0.natAbs ≤ 16384) (bX1 : X1.natAbs ≤ 16384) (sT : Sx T tol) (t0 : ¬ g0 < 0) (hy0 : [Value.double x0, .double x1][g0.toNatClampNeg]? = some (.double y0)) (m0 : Sx P0 (FP.dmul p0 y0)) (bP0 : P0.natAbs ≤ 16384) (hT : T < (((0 - X0) + P0).natAbs : Int)) (C0 : CN Z h n0 c A ax (-1 : Int32) (1 : Int32) its [(.int (0 : Int32)), (.int (1 : Int32)), (.int (1 : Int32))] [(.int l0), (.int l1)] [(.int g0), (.int g1)] [(.double p0), (.double p1)] [(.double 0), (.double u1)] [(.double x0), (.double x1)]) {Q : Option Value → Heap → Prop} (hQ : ∀ h', CN Z h' n0 c A ax (-1 : Int32) (1 : Int32) (0 : Int32) [(.int (0 : Int32)), (.int (1 : Int32)), (.int (1 : Int32))] [(.int l0), (.int l1)] [(.int g0), (.int g1)] [(.double p0), (.double p1)] [(.double 0), (.double u1)] [(.double x0), (.double x1)] → Q (some (.int 0)) h') :
    Go l Z (⟨"com/example/nona/nona/solver/ApproximateChain", "solve", "([D[DDI)Z"⟩ : MethodName) prog_136_method_8_code 27 (some .boolean) ({ frames := 1, cells := 0, slots := 0, locals := 18 } : Room) n0 Q h 0 0 4 #[.val (.ref c), .val (.ref ax), .val (.ref (A 4)), .val (.double tol), .second, .val (.int (0 : Int32)), .unset, .unset, .unset, .unset, .unset, .unset, .unset, .unset, .unset, .unset, .unset, .unset, .unset, .unset, .unset, .unset, .unset, .unset, .unset, .unset, .unset] [] := by
  refine Go.aloadN d7_4 (q := 5) rfl rfl rfl ?_
  refine Go.getF d7_5 (q := 8) rfl (host := "") (Or.inl (w14 hw)) Via.refl C0.fd.size ?_
  refine Go.istore d7_8 (q := 10) rfl (Ls' := #[.val (.ref c), .val (.ref ax), .val (.ref (A 4)), .val (.double tol), .second, .val (.int (0 : Int32)), .val (.int (2 : Int32)), .unset, .unset, .unset, .unset, .unset, .unset, .unset, .unset, .unset, .unset, .unset, .unset, .unset, .unset, .unset, .unset, .unset, .unset, .unset, .unset]) rfl ?_
  refine Go.aloadN d7_10 (q := 11) rfl rfl rfl ?_
  refine Go.getF d7_11 (q := 14) rfl (host := "") (Or.inl (w27 hw)) Via.refl C0.fd.residual ?_
  refine Go.astore d7_14 (q := 16) rfl rfl (Ls' := #[.val (.ref c), .val (.ref ax), .val (.ref (A 4)), .val (.double tol), .second, .val (.int (0 : Int32)), .val (.int (2 : Int32)), .val (.ref (A 5)), .unset, .unset, .unset, .unset, .unset, .unset, .unset, .unset, .unset, .unset, .unset, .unset, .unset, .unset, .unset, .unset, .unset, .unset, .unset]) rfl ?_
  refine Go.aloadN d7_16 (q := 17) rfl rfl rfl ?_
  refine Go.getF d7_17 (q := 20) rfl (host := "") (Or.inl (w33 hw)) Via.refl C0.fd.image ?_
  refine Go.astore d7_20 (q := 22) rfl rfl (Ls' := #[.val (.ref c), .val (.ref ax), .val (.ref (A 4)), .val (.double tol), .second, .val (.int (0 : Int32)), .val (.int (2 : Int32)), .val (.ref (A 5)), .val (.ref (A 8)), .unset, .unset, .unset, .unset, .unset, .unset, .unset, .unset, .unset, .unset, .unset, .unset, .unset, .unset, .unset, .unset, .unset, .unset]) rfl ?_
  refine Go.aloadN d7_22 (q := 23) rfl rfl rfl ?_
  refine Go.getF d7_23 (q := 26) rfl (host := "") (Or.inl (w31 hw)) Via.refl C0.fd.direction ?_
  refine Go.astore d7_26 (q := 28) rfl rfl (Ls' := #[.val (.ref c), .val (.ref ax), .val (.ref (A 4)), .val (.double tol), .second, .val (.int (0 : Int32)), .val (.int (2 : Int32)), .val (.ref (A 5)), .val (.ref (A 8)), .val (.ref (A 7)), .unset, .unset, .unset, .unset, .unset, .unset, .unset, .unset, .unset, .unset, .unset, .unset, .unset, .unset, .unset, .unset, .unset]) rfl ?_
  refine Go.aloadN d7_28 (q := 29) rfl rfl rfl ?_
  refine Go.getF d7_29 (q := 32) rfl (host := "") (Or.inl (w39 hw)) Via.refl C0.fd.product ?_
  refine Go.astore d7_32 (q := 34) rfl rfl (Ls' := #[.val (.ref c), .val (.ref ax), .val (.ref (A 4)), .val (.double tol), .second, .val (.int (0 : Int32)), .val (.int (2 : Int32)), .val (.ref (A 5)), .val (.ref (A 8)), .val (.ref (A 7)), .val (.ref (A 11)), .unset, .unset, .unset, .unset, .unset, .unset, .unset, .unset, .unset, .unset, .unset, .unset, .unset, .unset, .unset, .unset]) rfl ?_
  refine Go.dconst0 d7_34 (q := 35) rfl ?_
  refine Go.dstore d7_35 (q := 37) rfl (Ls' := #[.val (.ref c), .val (.ref ax), .val (.ref (A 4)), .val (.double tol), .second, .val (.int (0 : Int32)), .val (.int (2 : Int32)), .val (.ref (A 5)), .val (.ref (A 8)), .val (.ref (A 7)), .val (.ref (A 11)), .val (.double 0), .second, .unset, .unset, .unset, .unset, .unset, .unset, .unset, .unset, .unset, .unset, .unset, .unset, .unset, .unset]) rfl ?_
  refine Go.iconst d7_37 (q := 38) rfl (x := (0 : Int32)) (by decide) ?_
  refine Go.istore d7_38 (q := 40) rfl (Ls' := #[.val (.ref c), .val (.ref ax), .val (.ref (A 4)), .val (.double tol), .second, .val (.int (0 : Int32)), .val (.int (2 : Int32)), .val (.ref (A 5)), .val (.ref (A 8)), .val (.ref (A 7)), .val (.ref (A 11)), .val (.double 0), .second, .val (.int (0 : Int32)), .unset, .unset, .unset, .unset, .unset, .unset, .unset, .unset, .unset, .unset, .unset, .unset, .unset]) rfl ?_
  refine Go.iload d7_40 (q := 42) rfl rfl ?_
  refine Go.iload d7_42 (q := 44) rfl rfl ?_
  refine Go.icmp_ge d7_44 (q := 155) (q' := 47) (by decide) rfl rfl (fun c_ => absurd (by decide) c_) (fun _ => ?_)
  refine Go.aloadN d7_47 (q := 48) rfl rfl rfl ?_
  refine Go.iload d7_48 (q := 50) rfl rfl ?_
  refine Go.daload d7_50 (q := 51) rfl (C0.a4).choose_spec (by decide) rfl ?_
  refine Go.aloadN d7_51 (q := 52) rfl rfl rfl ?_
  refine Go.iload d7_52 (q := 54) rfl rfl ?_
  refine Go.daload d7_54 (q := 55) rfl (C0.ax).choose_spec (by decide) rfl ?_
  refine Go.dsubX d7_55 (q := 56) rfl (sx_sub sx_zero sx0 (by omega)) ?_
  intro v160 sv160
  refine Go.dstore d7_56 (q := 58) rfl (Ls' := #[.val (.ref c), .val (.ref ax), .val (.ref (A 4)), .val (.double tol), .second, .val (.int (0 : Int32)), .val (.int (2 : Int32)), .val (.ref (A 5)), .val (.ref (A 8)), .val (.ref (A 7)), .val (.ref (A 11)), .val (.double 0), .second, .val (.int (0 : Int32)), .val (.double v160), .second, .unset, .unset, .unset, .unset, .unset, .unset, .unset, .unset, .unset, .unset, .unset]) rfl ?_
  refine Go.aloadN d7_58 (q := 59) rfl rfl rfl ?_
  refine Go.getF d7_59 (q := 62) rfl (host := "") (Or.inl (w17 hw)) Via.refl C0.fd.starts ?_
  refine Go.iload d7_62 (q := 64) rfl rfl ?_
  refine Go.iaload d7_64 (q := 65) rfl (C0.a0).choose_spec (by decide) rfl ?_
  refine Go.istore d7_65 (q := 67) rfl (Ls' := #[.val (.ref c), .val (.ref ax), .val (.ref (A 4)), .val (.double tol), .second, .val (.int (0 : Int32)), .val (.int (2 : Int32)), .val (.ref (A 5)), .val (.ref (A 8)), .val (.ref (A 7)), .val (.ref (A 11)), .val (.double 0), .second, .val (.int (0 : Int32)), .val (.double v160), .second, .val (.int (0 : Int32)), .unset, .unset, .unset, .unset, .unset, .unset, .unset, .unset, .unset, .unset]) rfl ?_
  refine Go.iload d7_67 (q := 69) rfl rfl ?_
  refine Go.aloadN d7_69 (q := 70) rfl rfl rfl ?_
  refine Go.getF d7_70 (q := 73) rfl (host := "") (Or.inl (w17 hw)) Via.refl C0.fd.starts ?_
  refine Go.iload d7_73 (q := 75) rfl rfl ?_
  refine Go.iconst d7_75 (q := 76) rfl (x := (1 : Int32)) (by decide) ?_
  refine Go.iadd d7_76 (q := 77) rfl ?_
  rw [show ((0 : Int32) + (1 : Int32)) = (1 : Int32) from rfl]
  refine Go.iaload d7_77 (q := 78) rfl (C0.a0).choose_spec (by decide) rfl ?_
  refine Go.icmp_ge d7_78 (q := 109) (q' := 81) (by decide) rfl rfl (fun c_ => absurd (by decide) c_) (fun _ => ?_)
  refine Go.dload d7_81 (q := 83) rfl rfl ?_
  refine Go.aloadN d7_83 (q := 84) rfl rfl rfl ?_
  refine Go.getF d7_84 (q := 87) rfl (host := "") (Or.inl (w23 hw)) Via.refl C0.fd.probabilities ?_
  refine Go.iload d7_87 (q := 89) rfl rfl ?_
  refine Go.daload d7_89 (q := 90) rfl (C0.a3).choose_spec (by decide) rfl ?_
  refine Go.aloadN d7_90 (q := 91) rfl rfl rfl ?_
  refine Go.aloadN d7_91 (q := 92) rfl rfl rfl ?_
  refine Go.getF d7_92 (q := 95) rfl (host := "") (Or.inl (w21 hw)) Via.refl C0.fd.targets ?_
  refine Go.iload d7_95 (q := 97) rfl rfl ?_
  refine Go.iaload d7_97 (q := 98) rfl (C0.a2).choose_spec (by decide) rfl ?_
  refine Go.daload d7_98 (q := 99) rfl (C0.ax).choose_spec t0 hy0 ?_
  refine Go.dmul d7_99 (q := 100) rfl (sx_nn m0) ?_
  refine Go.daddX d7_100 (q := 101) rfl (sx_add sv160 m0 (by omega)) ?_
  intro v163 sv163
  refine Go.dstore d7_101 (q := 103) rfl (Ls' := #[.val (.ref c), .val (.ref ax), .val (.ref (A 4)), .val (.double tol), .second, .val (.int (0 : Int32)), .val (.int (2 : Int32)), .val (.ref (A 5)), .val (.ref (A 8)), .val (.ref (A 7)), .val (.ref (A 11)), .val (.double 0), .second, .val (.int (0 : Int32)), .val (.double v163), .second, .val (.int (0 : Int32)), .unset, .unset, .unset, .unset, .unset, .unset, .unset, .unset, .unset, .unset]) rfl ?_
  refine Go.iinc d7_103 (q := 106) rfl rfl (w := (1 : Int32)) rfl (Ls' := #[.val (.ref c), .val (.ref ax), .val (.ref (A 4)), .val (.double tol), .second, .val (.int (0 : Int32)), .val (.int (2 : Int32)), .val (.ref (A 5)), .val (.ref (A 8)), .val (.ref (A 7)), .val (.ref (A 11)), .val (.double 0), .second, .val (.int (0 : Int32)), .val (.double v163), .second, .val (.int (1 : Int32)), .unset, .unset, .unset, .unset, .unset, .unset, .unset, .unset, .unset, .unset]) rfl ?_
  refine Go.goto d7_106 (q := 67) (by decide) rfl ?_
  refine Go.iload d7_67 (q := 69) rfl rfl ?_
  refine Go.aloadN d7_69 (q := 70) rfl rfl rfl ?_
  refine Go.getF d7_70 (q := 73) rfl (host := "") (Or.inl (w17 hw)) Via.refl C0.fd.starts ?_
  refine Go.iload d7_73 (q := 75) rfl rfl ?_
  refine Go.iconst d7_75 (q := 76) rfl (x := (1 : Int32)) (by decide) ?_
  refine Go.iadd d7_76 (q := 77) rfl ?_
  rw [show ((0 : Int32) + (1 : Int32)) = (1 : Int32) from rfl]
  refine Go.iaload d7_77 (q := 78) rfl (C0.a0).choose_spec (by decide) rfl ?_
  refine Go.icmp_ge d7_78 (q := 109) (q' := 81) (by decide) rfl rfl (fun _ => ?_) (fun c_ => absurd c_ (by decide))
  refine Go.aload d7_109 (q := 111) rfl rfl rfl ?_
  refine Go.iload d7_111 (q := 113) rfl rfl ?_
  refine Go.dload d7_113 (q := 115) rfl rfl ?_
  obtain ⟨kg165, vg165, lg165, Bg165⟩ := C0.a5
  refine Go.dastore d7_115 (q := 116) rfl Bg165 (by decide) (by rw [lg165]; decide) C0.na5 ?_
  intro g165 Wg165
  have Cg165 : CN Z g165 n0 c A ax (-1 : Int32) (1 : Int32) its [(.int (0 : Int32)), (.int (1 : Int32)), (.int (1 : Int32))] [(.int l0), (.int l1)] [(.int g0), (.int g1)] [(.double p0), (.double p1)] [(.double 0), (.double u1)] [(.double x0), (.double x1)] := C0.w5 Wg165
  refine Go.aloadN d7_116 (q := 117) rfl rfl rfl ?_
  refine Go.getF d7_117 (q := 120) rfl (host := "") (Or.inl (w29 hw)) Via.refl Cg165.fd.shadow ?_
  refine Go.iload d7_120 (q := 122) rfl rfl ?_
  refine Go.dload d7_122 (q := 124) rfl rfl ?_
  obtain ⟨kg166, vg166, lg166, Bg166⟩ := Cg165.a6
  refine Go.dastore d7_124 (q := 125) rfl Bg166 (by decide) (by rw [lg166]; decide) Cg165.na6 ?_
  intro g166 Wg166
  have Cg166 : CN Z g166 n0 c A ax (-1 : Int32) (1 : Int32) its [(.int (0 : Int32)), (.int (1 : Int32)), (.int (1 : Int32))] [(.int l0), (.int l1)] [(.int g0), (.int g1)] [(.double p0), (.double p1)] [(.double 0), (.double u1)] [(.double x0), (.double x1)] := Cg165.w6 Wg166
  refine Go.aload d7_125 (q := 127) rfl rfl rfl ?_
  refine Go.iload d7_127 (q := 129) rfl rfl ?_
  refine Go.dconst0 d7_129 (q := 130) rfl ?_
  obtain ⟨kg167, vg167, lg167, Bg167⟩ := Cg166.a7
  refine Go.dastore d7_130 (q := 131) rfl Bg167 (by decide) (by rw [lg167]; decide) Cg166.na7 ?_
  intro g167 Wg167
  have Cg167 : CN Z g167 n0 c A ax (-1 : Int32) (1 : Int32) its [(.int (0 : Int32)), (.int (1 : Int32)), (.int (1 : Int32))] [(.int l0), (.int l1)] [(.int g0), (.int g1)] [(.double p0), (.double p1)] [(.double 0), (.double u1)] [(.double x0), (.double x1)] := Cg166.w7 Wg167
  refine Go.aload d7_131 (q := 133) rfl rfl rfl ?_
  refine Go.iload d7_133 (q := 135) rfl rfl ?_
  refine Go.dconst0 d7_135 (q := 136) rfl ?_
  obtain ⟨kg168, vg168, lg168, Bg168⟩ := Cg167.a8
  refine Go.dastore d7_136 (q := 137) rfl Bg168 (by decide) (by rw [lg168]; decide) Cg167.na8 ?_
  intro g168 Wg168
  have Cg168 : CN Z g168 n0 c A ax (-1 : Int32) (1 : Int32) its [(.int (0 : Int32)), (.int (1 : Int32)), (.int (1 : Int32))] [(.int l0), (.int l1)] [(.int g0), (.int g1)] [(.double p0), (.double p1)] [(.double 0), (.double u1)] [(.double x0), (.double x1)] := Cg167.w8 Wg168
  refine Go.dload d7_137 (q := 139) rfl rfl ?_
  refine Go.dload d7_139 (q := 141) rfl rfl ?_
  refine Go.absD (wd := 2) d7_141 (q := 144) rfl (w66 hw) (w67 hw) (w68 hw) (w69 hw) sv163 rfl (by decide) rfl (by decide) (by decide) (by decide) ?_
  intro v169 sv169
  refine Go.maxD (g := ((((0 - X0) + P0)).natAbs : Int)) (wd := 0) d7_144 (q := 147) rfl (w70 hw) (w71 hw) (w68 hw) (w72 hw) sx_zero sv169 (Or.inl ⟨by omega, rfl⟩) rfl (by decide) rfl (by decide) (by decide) (by decide) ?_
  intro v170 sv170
  refine Go.dstore d7_147 (q := 149) rfl (Ls' := #[.val (.ref c), .val (.ref ax), .val (.ref (A 4)), .val (.double tol), .second, .val (.int (0 : Int32)), .val (.int (2 : Int32)), .val (.ref (A 5)), .val (.ref (A 8)), .val (.ref (A 7)), .val (.ref (A 11)), .val (.double v170), .second, .val (.int (0 : Int32)), .val (.double v163), .second, .val (.int (1 : Int32)), .unset, .unset, .unset, .unset, .unset, .unset, .unset, .unset, .unset, .unset]) rfl ?_
  refine Go.iinc d7_149 (q := 152) rfl rfl (w := (1 : Int32)) rfl (Ls' := #[.val (.ref c), .val (.ref ax), .val (.ref (A 4)), .val (.double tol), .second, .val (.int (0 : Int32)), .val (.int (2 : Int32)), .val (.ref (A 5)), .val (.ref (A 8)), .val (.ref (A 7)), .val (.ref (A 11)), .val (.double v170), .second, .val (.int (1 : Int32)), .val (.double v163), .second, .val (.int (1 : Int32)), .unset, .unset, .unset, .unset, .unset, .unset, .unset, .unset, .unset, .unset]) rfl ?_
  refine Go.goto d7_152 (q := 40) (by decide) rfl ?_
  refine Go.iload d7_40 (q := 42) rfl rfl ?_
  refine Go.iload d7_42 (q := 44) rfl rfl ?_
  refine Go.icmp_ge d7_44 (q := 155) (q' := 47) (by decide) rfl rfl (fun c_ => absurd (by decide) c_) (fun _ => ?_)
  refine Go.aloadN d7_47 (q := 48) rfl rfl rfl ?_
  refine Go.iload d7_48 (q := 50) rfl rfl ?_
  refine Go.daload d7_50 (q := 51) rfl (Cg168.a4).choose_spec (by decide) rfl ?_
  refine Go.aloadN d7_51 (q := 52) rfl rfl rfl ?_
  refine Go.iload d7_52 (q := 54) rfl rfl ?_
  refine Go.daload d7_54 (q := 55) rfl (Cg168.ax).choose_spec (by decide) rfl ?_
  refine Go.dsubX d7_55 (q := 56) rfl (sx_sub su1 sx1 (by omega)) ?_
  intro v172 sv172
  refine Go.dstore d7_56 (q := 58) rfl (Ls' := #[.val (.ref c), .val (.ref ax), .val (.ref (A 4)), .val (.double tol), .second, .val (.int (0 : Int32)), .val (.int (2 : Int32)), .val (.ref (A 5)), .val (.ref (A 8)), .val (.ref (A 7)), .val (.ref (A 11)), .val (.double v170), .second, .val (.int (1 : Int32)), .val (.double v172), .second, .val (.int (1 : Int32)), .unset, .unset, .unset, .unset, .unset, .unset, .unset, .unset, .unset, .unset]) rfl ?_
  refine Go.aloadN d7_58 (q := 59) rfl rfl rfl ?_
  refine Go.getF d7_59 (q := 62) rfl (host := "") (Or.inl (w17 hw)) Via.refl Cg168.fd.starts ?_
  refine Go.iload d7_62 (q := 64) rfl rfl ?_
  refine Go.iaload d7_64 (q := 65) rfl (Cg168.a0).choose_spec (by decide) rfl ?_
  refine Go.istore d7_65 (q := 67) rfl (Ls' := #[.val (.ref c), .val (.ref ax), .val (.ref (A 4)), .val (.double tol), .second, .val (.int (0 : Int32)), .val (.int (2 : Int32)), .val (.ref (A 5)), .val (.ref (A 8)), .val (.ref (A 7)), .val (.ref (A 11)), .val (.double v170), .second, .val (.int (1 : Int32)), .val (.double v172), .second, .val (.int (1 : Int32)), .unset, .unset, .unset, .unset, .unset, .unset, .unset, .unset, .unset, .unset]) rfl ?_
  refine Go.iload d7_67 (q := 69) rfl rfl ?_
  refine Go.aloadN d7_69 (q := 70) rfl rfl rfl ?_
  refine Go.getF d7_70 (q := 73) rfl (host := "") (Or.inl (w17 hw)) Via.refl Cg168.fd.starts ?_
  refine Go.iload d7_73 (q := 75) rfl rfl ?_
  refine Go.iconst d7_75 (q := 76) rfl (x := (1 : Int32)) (by decide) ?_
  refine Go.iadd d7_76 (q := 77) rfl ?_
  rw [show ((1 : Int32) + (1 : Int32)) = (2 : Int32) from rfl]
  refine Go.iaload d7_77 (q := 78) rfl (Cg168.a0).choose_spec (by decide) rfl ?_
  refine Go.icmp_ge d7_78 (q := 109) (q' := 81) (by decide) rfl rfl (fun _ => ?_) (fun c_ => absurd c_ (by decide))
  refine Go.aload d7_109 (q := 111) rfl rfl rfl ?_
  refine Go.iload d7_111 (q := 113) rfl rfl ?_
  refine Go.dload d7_113 (q := 115) rfl rfl ?_
  obtain ⟨kg174, vg174, lg174, Bg174⟩ := Cg168.a5
  refine Go.dastore d7_115 (q := 116) rfl Bg174 (by decide) (by rw [lg174]; decide) Cg168.na5 ?_
  intro g174 Wg174
  have Cg174 : CN Z g174 n0 c A ax (-1 : Int32) (1 : Int32) its [(.int (0 : Int32)), (.int (1 : Int32)), (.int (1 : Int32))] [(.int l0), (.int l1)] [(.int g0), (.int g1)] [(.double p0), (.double p1)] [(.double 0), (.double u1)] [(.double x0), (.double x1)] := Cg168.w5 Wg174
  refine Go.aloadN d7_116 (q := 117) rfl rfl rfl ?_
  refine Go.getF d7_117 (q := 120) rfl (host := "") (Or.inl (w29 hw)) Via.refl Cg174.fd.shadow ?_
  refine Go.iload d7_120 (q := 122) rfl rfl ?_
  refine Go.dload d7_122 (q := 124) rfl rfl ?_
  obtain ⟨kg175, vg175, lg175, Bg175⟩ := Cg174.a6
  refine Go.dastore d7_124 (q := 125) rfl Bg175 (by decide) (by rw [lg175]; decide) Cg174.na6 ?_
  intro g175 Wg175
  have Cg175 : CN Z g175 n0 c A ax (-1 : Int32) (1 : Int32) its [(.int (0 : Int32)), (.int (1 : Int32)), (.int (1 : Int32))] [(.int l0), (.int l1)] [(.int g0), (.int g1)] [(.double p0), (.double p1)] [(.double 0), (.double u1)] [(.double x0), (.double x1)] := Cg174.w6 Wg175
  refine Go.aload d7_125 (q := 127) rfl rfl rfl ?_
  refine Go.iload d7_127 (q := 129) rfl rfl ?_
  refine Go.dconst0 d7_129 (q := 130) rfl ?_
  obtain ⟨kg176, vg176, lg176, Bg176⟩ := Cg175.a7
  refine Go.dastore d7_130 (q := 131) rfl Bg176 (by decide) (by rw [lg176]; decide) Cg175.na7 ?_
  intro g176 Wg176
  have Cg176 : CN Z g176 n0 c A ax (-1 : Int32) (1 : Int32) its [(.int (0 : Int32)), (.int (1 : Int32)), (.int (1 : Int32))] [(.int l0), (.int l1)] [(.int g0), (.int g1)] [(.double p0), (.double p1)] [(.double 0), (.double u1)] [(.double x0), (.double x1)] := Cg175.w7 Wg176
  refine Go.aload d7_131 (q := 133) rfl rfl rfl ?_
  refine Go.iload d7_133 (q := 135) rfl rfl ?_
  refine Go.dconst0 d7_135 (q := 136) rfl ?_
  obtain ⟨kg177, vg177, lg177, Bg177⟩ := Cg176.a8
  refine Go.dastore d7_136 (q := 137) rfl Bg177 (by decide) (by rw [lg177]; decide) Cg176.na8 ?_
  intro g177 Wg177
  have Cg177 : CN Z g177 n0 c A ax (-1 : Int32) (1 : Int32) its [(.int (0 : Int32)), (.int (1 : Int32)), (.int (1 : Int32))] [(.int l0), (.int l1)] [(.int g0), (.int g1)] [(.double p0), (.double p1)] [(.double 0), (.double u1)] [(.double x0), (.double x1)] := Cg176.w8 Wg177
  refine Go.dload d7_137 (q := 139) rfl rfl ?_
  refine Go.dload d7_139 (q := 141) rfl rfl ?_
  refine Go.absD (wd := 2) d7_141 (q := 144) rfl (w66 hw) (w67 hw) (w68 hw) (w69 hw) sv172 rfl (by decide) rfl (by decide) (by decide) (by decide) ?_
  intro v178 sv178
  refine Go.maxD (g := ((((0 - X0) + P0)).natAbs : Int)) (wd := 0) d7_144 (q := 147) rfl (w70 hw) (w71 hw) (w68 hw) (w72 hw) sv170 sv178 (Or.inr ⟨by omega, rfl⟩) rfl (by decide) rfl (by decide) (by decide) (by decide) ?_
  intro v179 sv179
  refine Go.dstore d7_147 (q := 149) rfl (Ls' := #[.val (.ref c), .val (.ref ax), .val (.ref (A 4)), .val (.double tol), .second, .val (.int (0 : Int32)), .val (.int (2 : Int32)), .val (.ref (A 5)), .val (.ref (A 8)), .val (.ref (A 7)), .val (.ref (A 11)), .val (.double v179), .second, .val (.int (1 : Int32)), .val (.double v172), .second, .val (.int (1 : Int32)), .unset, .unset, .unset, .unset, .unset, .unset, .unset, .unset, .unset, .unset]) rfl ?_
  refine Go.iinc d7_149 (q := 152) rfl rfl (w := (2 : Int32)) rfl (Ls' := #[.val (.ref c), .val (.ref ax), .val (.ref (A 4)), .val (.double tol), .second, .val (.int (0 : Int32)), .val (.int (2 : Int32)), .val (.ref (A 5)), .val (.ref (A 8)), .val (.ref (A 7)), .val (.ref (A 11)), .val (.double v179), .second, .val (.int (2 : Int32)), .val (.double v172), .second, .val (.int (1 : Int32)), .unset, .unset, .unset, .unset, .unset, .unset, .unset, .unset, .unset, .unset]) rfl ?_
  refine Go.goto d7_152 (q := 40) (by decide) rfl ?_
  refine Go.iload d7_40 (q := 42) rfl rfl ?_
  refine Go.iload d7_42 (q := 44) rfl rfl ?_
  refine Go.icmp_ge d7_44 (q := 155) (q' := 47) (by decide) rfl rfl (fun _ => ?_) (fun c_ => absurd c_ (by decide))
  refine Go.dconst1 d7_155 (q := 156) rfl ?_
  refine Go.dstore d7_156 (q := 158) rfl (Ls' := #[.val (.ref c), .val (.ref ax), .val (.ref (A 4)), .val (.double tol), .second, .val (.int (0 : Int32)), .val (.int (2 : Int32)), .val (.ref (A 5)), .val (.ref (A 8)), .val (.ref (A 7)), .val (.ref (A 11)), .val (.double v179), .second, .val (.double FP.dconst1), .second, .unset, .val (.int (1 : Int32)), .unset, .unset, .unset, .unset, .unset, .unset, .unset, .unset, .unset, .unset]) rfl ?_
  refine Go.dconst1 d7_158 (q := 159) rfl ?_
  refine Go.dstore d7_159 (q := 161) rfl (Ls' := #[.val (.ref c), .val (.ref ax), .val (.ref (A 4)), .val (.double tol), .second, .val (.int (0 : Int32)), .val (.int (2 : Int32)), .val (.ref (A 5)), .val (.ref (A 8)), .val (.ref (A 7)), .val (.ref (A 11)), .val (.double v179), .second, .val (.double FP.dconst1), .second, .val (.double FP.dconst1), .second, .unset, .unset, .unset, .unset, .unset, .unset, .unset, .unset, .unset, .unset]) rfl ?_
  refine Go.dconst1 d7_161 (q := 162) rfl ?_
  refine Go.dstore d7_162 (q := 164) rfl (Ls' := #[.val (.ref c), .val (.ref ax), .val (.ref (A 4)), .val (.double tol), .second, .val (.int (0 : Int32)), .val (.int (2 : Int32)), .val (.ref (A 5)), .val (.ref (A 8)), .val (.ref (A 7)), .val (.ref (A 11)), .val (.double v179), .second, .val (.double FP.dconst1), .second, .val (.double FP.dconst1), .second, .val (.double FP.dconst1), .second, .unset, .unset, .unset, .unset, .unset, .unset, .unset, .unset]) rfl ?_
  refine Go.aloadN d7_164 (q := 165) rfl rfl rfl ?_
  refine Go.iconst d7_165 (q := 166) rfl (x := (0 : Int32)) (by decide) ?_
  refine Go.putF d7_166 (q := 169) rfl (host := "") (Or.inl (w73 hw)) Via.refl Cg177.fd.iterations Cg177.exa (Or.inl (w74 hw)) (w4 hw) pTn rfl rfl Cg177.nc ?_
  intro g181 Wg181
  have Cg181 : CN Z g181 n0 c A ax (-1 : Int32) (1 : Int32) (0 : Int32) [(.int (0 : Int32)), (.int (1 : Int32)), (.int (1 : Int32))] [(.int l0), (.int l1)] [(.int g0), (.int g1)] [(.double p0), (.double p1)] [(.double 0), (.double u1)] [(.double x0), (.double x1)] := Cg177.w_iterations hw Wg181
  refine Go.iconst d7_169 (q := 170) rfl (x := (0 : Int32)) (by decide) ?_
  refine Go.istore d7_170 (q := 172) rfl (Ls' := #[.val (.ref c), .val (.ref ax), .val (.ref (A 4)), .val (.double tol), .second, .val (.int (0 : Int32)), .val (.int (2 : Int32)), .val (.ref (A 5)), .val (.ref (A 8)), .val (.ref (A 7)), .val (.ref (A 11)), .val (.double v179), .second, .val (.double FP.dconst1), .second, .val (.double FP.dconst1), .second, .val (.double FP.dconst1), .second, .val (.int (0 : Int32)), .unset, .unset, .unset, .unset, .unset, .unset, .unset]) rfl ?_
  refine Go.dload d7_172 (q := 174) rfl rfl ?_
  refine Go.dloadN d7_174 (q := 175) rfl rfl ?_
  refine Go.dcmpX d7_175 (q := 176) rfl sv179 sT (cmpI_gt (by omega)) ?_
  refine Go.if_le d7_176 (q := 488) (q' := 179) (by decide) rfl rfl (fun c_ => absurd (by decide) c_) (fun _ => ?_)
  refine Go.iload d7_179 (q := 181) rfl rfl ?_
  refine Go.if_ne d7_181 (q := 488) (q' := 184) (by decide) rfl rfl (fun c_ => absurd (by decide) c_) (fun _ => ?_)
  refine Go.aloadN d7_184 (q := 185) rfl rfl rfl ?_
  refine Go.getF d7_185 (q := 188) rfl (host := "") (Or.inl (w73 hw)) Via.refl Cg181.fd.iterations ?_
  refine Go.iload d7_188 (q := 190) rfl rfl ?_
  refine Go.icmp_ge d7_190 (q := 488) (q' := 193) (by decide) rfl rfl (fun _ => ?_) (fun c_ => absurd c_ (by decide))
  refine Go.dload d7_488 (q := 490) rfl rfl ?_
  refine Go.dloadN d7_490 (q := 491) rfl rfl ?_
  refine Go.dcmpX d7_491 (q := 492) rfl sv179 sT (cmpI_gt (by omega)) ?_
  refine Go.if_gt d7_492 (q := 499) (q' := 495) (by decide) rfl rfl (fun _ => ?_) (fun c_ => absurd (by decide) c_)
  refine Go.iconst d7_499 (q := 500) rfl (x := (0 : Int32)) (by decide) ?_
  refine Go.zreturn d7_500 (by decide) (by decide) (by decide) ?_
  exact hQ g181 Cg181
set_option maxRecDepth 65536 in
set_option maxHeartbeats 40000000 in
theorem sv0_1_gt (l : Launch) (Z : State) (a0 : Array Value) (hw : Hw a0 Z) (n0 : Nat) (h : Heap) {c : Addr} {A : Nat → Addr} {ax : Addr} {its l0 l1 g0 g1 : Int32} {p0 p1 u1 x0 x1 : UInt64} (X0 X1 U1 T P0 : Int) (tol y0 : UInt64) (sx0 : Sx X0 x0) (sx1 : Sx X1 x1) (su1 : Sx U1 u1) (hU : U1 = X1) (bX0 : X0.natAbs ≤ 16384) (bX1 : X1.natAbs ≤ 16384) (sT : Sx T tol) (t0 : ¬ g0 < 0) (hy0 : [Value.double x0, .double x1][g0.toNatClampNeg]? = some (.double y0)) (m0 : Sx P0 (FP.dmul p0 y0)) (bP0 : P0.natAbs ≤ 16384) (hT : T < (((0 - X0) + P0).natAbs : Int)) (C0 : CN Z h n0 c A ax (-1 : Int32) (1 : Int32) its [(.int (0 : Int32)), (.int (1 : Int32)), (.int (1 : Int32))] [(.int l0), (.int l1)] [(.int g0), (.int g1)] [(.double p0), (.double p1)] [(.double 0), (.double u1)] [(.double x0), (.double x1)]) {Q : Option Value → Heap → Prop} (hQ : ∀ h', CN Z h' n0 c A ax (-1 : Int32) (1 : Int32) (0 : Int32) [(.int (0 : Int32)), (.int (1 : Int32)), (.int (1 : Int32))] [(.int l0), (.int l1)] [(.int g0), (.int g1)] [(.double p0), (.double p1)] [(.double 0), (.double u1)] [(.double x0), (.double x1)] → Q (some (.int 0)) h') :
    Go l Z (⟨"com/example/nona/nona/solver/ApproximateChain", "solve", "([D[DDI)Z"⟩ : MethodName) prog_136_method_8_code 27 (some .boolean) ({ frames := 1, cells := 0, slots := 0, locals := 18 } : Room) n0 Q h 0 0 0 #[.val (.ref c), .val (.ref ax), .val (.ref (A 4)), .val (.double tol), .second, .val (.int (0 : Int32)), .unset, .unset, .unset, .unset, .unset, .unset, .unset, .unset, .unset, .unset, .unset, .unset, .unset, .unset, .unset, .unset, .unset, .unset, .unset, .unset, .unset] [] := by
  refine Go.aloadN d7_0 (q := 1) rfl rfl rfl ?_
  refine Go.callPN (P := fun h' => h = h') (argsL := []) (rest := []) (wd := 0) (Ls1 := #[.val (.ref c), .unset, .unset, .unset, .unset, .unset, .unset]) d7_1 (q := 4) rfl (w46 hw) (w48 hw) (w44 hw) rfl (w47 hw) (w49 hw) (w5 hw) (by decide) pn4 pd4 rfl rfl C0.exa (fun m_ => by simp [entryFrame, mkF, argsToLocals, Value.category]) rfl (by decide) rfl (by decide) (by decide) (by decide) (closeN l Z a0 hw n0 h C0 (Q := RN (fun h' => h = h')) ⟨rfl, rfl⟩) ?_
  rintro _ rfl
  exact sv4_1_gt l Z a0 hw n0 h X0 X1 U1 T P0 tol y0 sx0 sx1 su1 hU bX0 bX1 sT t0 hy0 m0 bP0 hT C0 hQ
set_option maxRecDepth 65536 in
set_option maxHeartbeats 40000000 in
theorem s3_1_gt (l : Launch) (Z : State) (a0 : Array Value) (hw : Hw a0 Z) (n0 : Nat) (h : Heap) {c : Addr} {A : Nat → Addr} {ax : Addr} {its l0 l1 g0 g1 : Int32} {p0 p1 u1 x0 x1 : UInt64} (X0 X1 U1 T P0 : Int) (tol y0 : UInt64) (sx0 : Sx X0 x0) (sx1 : Sx X1 x1) (su1 : Sx U1 u1) (hU : U1 = X1) (bX0 : X0.natAbs ≤ 16384) (bX1 : X1.natAbs ≤ 16384) (sT : Sx T tol) (t0 : ¬ g0 < 0) (hy0 : [Value.double x0, .double x1][g0.toNatClampNeg]? = some (.double y0)) (m0 : Sx P0 (FP.dmul p0 y0)) (bP0 : P0.natAbs ≤ 16384) (hT : T < (((0 - X0) + P0).natAbs : Int)) (C0 : CN Z h n0 c A ax (-1 : Int32) (1 : Int32) its [(.int (0 : Int32)), (.int (1 : Int32)), (.int (1 : Int32))] [(.int l0), (.int l1)] [(.int g0), (.int g1)] [(.double p0), (.double p1)] [(.double 0), (.double u1)] [(.double x0), (.double x1)]) {Q : Option Value → Heap → Prop} (hQ : ∀ h', CN Z h' n0 c A ax (-1 : Int32) (1 : Int32) (0 : Int32) [(.int (0 : Int32)), (.int (1 : Int32)), (.int (1 : Int32))] [(.int l0), (.int l1)] [(.int g0), (.int g1)] [(.double p0), (.double p1)] [(.double 0), (.double u1)] [(.double x0), (.double x1)] → Q (some (.int 0)) h') :
    Go l Z (⟨"com/example/nona/nona/solver/ApproximateChain", "solve", "([DDI)Z"⟩ : MethodName) prog_136_method_6_code 5 (some .boolean) ({ frames := 2, cells := 0, slots := 0, locals := 56 } : Room) n0 Q h 0 0 0 #[.val (.ref c), .val (.ref ax), .val (.double tol), .second, .val (.int (0 : Int32))] [] := by
  refine Go.aloadN d6_0 (q := 1) rfl rfl rfl ?_
  refine Go.aloadN d6_1 (q := 2) rfl rfl rfl ?_
  refine Go.aloadN d6_2 (q := 3) rfl rfl rfl ?_
  refine Go.getF d6_3 (q := 6) rfl (host := "") (Or.inl (w25 hw)) Via.refl C0.fd.gains ?_
  refine Go.dloadN d6_6 (q := 7) rfl rfl ?_
  refine Go.iload d6_7 (q := 9) rfl rfl ?_
  refine Go.callPV (P := fun w_ h' => w_ = .int 0 ∧ CN Z h' n0 c A ax (-1 : Int32) (1 : Int32) (0 : Int32) [(.int (0 : Int32)), (.int (1 : Int32)), (.int (1 : Int32))] [(.int l0), (.int l1)] [(.int g0), (.int g1)] [(.double p0), (.double p1)] [(.double 0), (.double u1)] [(.double x0), (.double x1)]) (argsL := [(.ref ax), (.ref (A 4)), (.double tol), (.int (0 : Int32))]) (rest := []) (wd := 0) (Ls1 := #[.val (.ref c), .val (.ref ax), .val (.ref (A 4)), .val (.double tol), .second, .val (.int (0 : Int32)), .unset, .unset, .unset, .unset, .unset, .unset, .unset, .unset, .unset, .unset, .unset, .unset, .unset, .unset, .unset, .unset, .unset, .unset, .unset, .unset, .unset]) d6_9 (q := 12) rfl (w62 hw) (w64 hw) (w44 hw) rfl (w63 hw) (w65 hw) (w5 hw) (by decide) pn7 pd7 rfl rfl C0.exa (fun m_ => by simp [entryFrame, mkF, argsToLocals, Value.category]) rfl (by decide) rfl (by decide) (by decide) (by decide) (sv0_1_gt l Z a0 hw n0 h X0 X1 U1 T P0 tol y0 sx0 sx1 su1 hU bX0 bX1 sT t0 hy0 m0 bP0 hT C0 (Q := RV (fun w_ h' => w_ = .int 0 ∧ CN Z h' n0 c A ax (-1 : Int32) (1 : Int32) (0 : Int32) [(.int (0 : Int32)), (.int (1 : Int32)), (.int (1 : Int32))] [(.int l0), (.int l1)] [(.int g0), (.int g1)] [(.double p0), (.double p1)] [(.double 0), (.double u1)] [(.double x0), (.double x1)])) (fun h' q => ⟨_, rfl, rfl, q⟩)) ?_
  rintro _ g186 ⟨rfl, Cg186⟩
  refine Go.zreturn d6_12 (by decide) (by decide) (by decide) ?_
  exact hQ g186 Cg186
set_option maxRecDepth 65536 in
set_option maxHeartbeats 40000000 in
theorem sv4_2_eq (l : Launch) (Z : State) (a0 : Array Value) (hw : Hw a0 Z) (n0 : Nat) (h : Heap) {c : Addr} {A : Nat → Addr} {ax : Addr} {its l0 l1 g0 g1 : Int32} {p0 p1 u1 x0 x1 : UInt64} (X0 X1 U1 T P0 P1 : Int) (tol y0 y1 : UInt64) (sx0 : Sx X0 x0) (sx1 : Sx X1 x1) (su1 : Sx U1 u1) (hU : U1 = X1) (bX0 : X0.natAbs ≤ 16384) (bX1 : X1.natAbs ≤ 16384) (sT : Sx T tol) (t0 : ¬ g0 < 0) (hy0 : [Value.double x0, .double x1][g0.toNatClampNeg]? = some (.double y0)) (m0 : Sx P0 (FP.dmul p0 y0)) (bP0 : P0.natAbs ≤ 16384) (t1 : ¬ g1 < 0) (hy1 : [Value.double x0, .double x1][g1.toNatClampNeg]? = some (.double y1)) (m1 : Sx P1 (FP.dmul p1 y1)) (bP1 : P1.natAbs ≤ 16384) (hT : T = ((((0 - X0) + P0) + P1).natAbs : Int)) (C0 : CN Z h n0 c A ax (-1 : Int32) (2 : Int32) its [(.int (0 : Int32)), (.int (2 : Int32)), (.int (2 : Int32))] [(.int l0), (.int l1)] [(.int g0), (.int g1)] [(.double p0), (.double p1)] [(.double 0), (.double u1)] [(.double x0), (.double x1)]) {Q : Option Value → Heap → Prop} (hQ : ∀ h', CN Z h' n0 c A ax (-1 : Int32) (2 : Int32) (0 : Int32) [(.int (0 : Int32)), (.int (2 : Int32)), (.int (2 : Int32))] [(.int l0), (.int l1)] [(.int g0), (.int g1)] [(.double p0), (.double p1)] [(.double 0), (.double u1)] [(.double x0), (.double x1)] → Q (some (.int 1)) h') :
    Go l Z (⟨"com/example/nona/nona/solver/ApproximateChain", "solve", "([D[DDI)Z"⟩ : MethodName) prog_136_method_8_code 27 (some .boolean) ({ frames := 1, cells := 0, slots := 0, locals := 18 } : Room) n0 Q h 0 0 4 #[.val (.ref c), .val (.ref ax), .val (.ref (A 4)), .val (.double tol), .second, .val (.int (0 : Int32)), .unset, .unset, .unset, .unset, .unset, .unset, .unset, .unset, .unset, .unset, .unset, .unset, .unset, .unset, .unset, .unset, .unset, .unset, .unset, .unset, .unset] [] := by
  refine Go.aloadN d7_4 (q := 5) rfl rfl rfl ?_
  refine Go.getF d7_5 (q := 8) rfl (host := "") (Or.inl (w14 hw)) Via.refl C0.fd.size ?_
  refine Go.istore d7_8 (q := 10) rfl (Ls' := #[.val (.ref c), .val (.ref ax), .val (.ref (A 4)), .val (.double tol), .second, .val (.int (0 : Int32)), .val (.int (2 : Int32)), .unset, .unset, .unset, .unset, .unset, .unset, .unset, .unset, .unset, .unset, .unset, .unset, .unset, .unset, .unset, .unset, .unset, .unset, .unset, .unset]) rfl ?_
  refine Go.aloadN d7_10 (q := 11) rfl rfl rfl ?_
  refine Go.getF d7_11 (q := 14) rfl (host := "") (Or.inl (w27 hw)) Via.refl C0.fd.residual ?_
  refine Go.astore d7_14 (q := 16) rfl rfl (Ls' := #[.val (.ref c), .val (.ref ax), .val (.ref (A 4)), .val (.double tol), .second, .val (.int (0 : Int32)), .val (.int (2 : Int32)), .val (.ref (A 5)), .unset, .unset, .unset, .unset, .unset, .unset, .unset, .unset, .unset, .unset, .unset, .unset, .unset, .unset, .unset, .unset, .unset, .unset, .unset]) rfl ?_
  refine Go.aloadN d7_16 (q := 17) rfl rfl rfl ?_
  refine Go.getF d7_17 (q := 20) rfl (host := "") (Or.inl (w33 hw)) Via.refl C0.fd.image ?_
  refine Go.astore d7_20 (q := 22) rfl rfl (Ls' := #[.val (.ref c), .val (.ref ax), .val (.ref (A 4)), .val (.double tol), .second, .val (.int (0 : Int32)), .val (.int (2 : Int32)), .val (.ref (A 5)), .val (.ref (A 8)), .unset, .unset, .unset, .unset, .unset, .unset, .unset, .unset, .unset, .unset, .unset, .unset, .unset, .unset, .unset, .unset, .unset, .unset]) rfl ?_
  refine Go.aloadN d7_22 (q := 23) rfl rfl rfl ?_
  refine Go.getF d7_23 (q := 26) rfl (host := "") (Or.inl (w31 hw)) Via.refl C0.fd.direction ?_
  refine Go.astore d7_26 (q := 28) rfl rfl (Ls' := #[.val (.ref c), .val (.ref ax), .val (.ref (A 4)), .val (.double tol), .second, .val (.int (0 : Int32)), .val (.int (2 : Int32)), .val (.ref (A 5)), .val (.ref (A 8)), .val (.ref (A 7)), .unset, .unset, .unset, .unset, .unset, .unset, .unset, .unset, .unset, .unset, .unset, .unset, .unset, .unset, .unset, .unset, .unset]) rfl ?_
  refine Go.aloadN d7_28 (q := 29) rfl rfl rfl ?_
  refine Go.getF d7_29 (q := 32) rfl (host := "") (Or.inl (w39 hw)) Via.refl C0.fd.product ?_
  refine Go.astore d7_32 (q := 34) rfl rfl (Ls' := #[.val (.ref c), .val (.ref ax), .val (.ref (A 4)), .val (.double tol), .second, .val (.int (0 : Int32)), .val (.int (2 : Int32)), .val (.ref (A 5)), .val (.ref (A 8)), .val (.ref (A 7)), .val (.ref (A 11)), .unset, .unset, .unset, .unset, .unset, .unset, .unset, .unset, .unset, .unset, .unset, .unset, .unset, .unset, .unset, .unset]) rfl ?_
  refine Go.dconst0 d7_34 (q := 35) rfl ?_
  refine Go.dstore d7_35 (q := 37) rfl (Ls' := #[.val (.ref c), .val (.ref ax), .val (.ref (A 4)), .val (.double tol), .second, .val (.int (0 : Int32)), .val (.int (2 : Int32)), .val (.ref (A 5)), .val (.ref (A 8)), .val (.ref (A 7)), .val (.ref (A 11)), .val (.double 0), .second, .unset, .unset, .unset, .unset, .unset, .unset, .unset, .unset, .unset, .unset, .unset, .unset, .unset, .unset]) rfl ?_
  refine Go.iconst d7_37 (q := 38) rfl (x := (0 : Int32)) (by decide) ?_
  refine Go.istore d7_38 (q := 40) rfl (Ls' := #[.val (.ref c), .val (.ref ax), .val (.ref (A 4)), .val (.double tol), .second, .val (.int (0 : Int32)), .val (.int (2 : Int32)), .val (.ref (A 5)), .val (.ref (A 8)), .val (.ref (A 7)), .val (.ref (A 11)), .val (.double 0), .second, .val (.int (0 : Int32)), .unset, .unset, .unset, .unset, .unset, .unset, .unset, .unset, .unset, .unset, .unset, .unset, .unset]) rfl ?_
  refine Go.iload d7_40 (q := 42) rfl rfl ?_
  refine Go.iload d7_42 (q := 44) rfl rfl ?_
  refine Go.icmp_ge d7_44 (q := 155) (q' := 47) (by decide) rfl rfl (fun c_ => absurd (by decide) c_) (fun _ => ?_)
  refine Go.aloadN d7_47 (q := 48) rfl rfl rfl ?_
  refine Go.iload d7_48 (q := 50) rfl rfl ?_
  refine Go.daload d7_50 (q := 51) rfl (C0.a4).choose_spec (by decide) rfl ?_
  refine Go.aloadN d7_51 (q := 52) rfl rfl rfl ?_
  refine Go.iload d7_52 (q := 54) rfl rfl ?_
  refine Go.daload d7_54 (q := 55) rfl (C0.ax).choose_spec (by decide) rfl ?_
  refine Go.dsubX d7_55 (q := 56) rfl (sx_sub sx_zero sx0 (by omega)) ?_
  intro v188 sv188
  refine Go.dstore d7_56 (q := 58) rfl (Ls' := #[.val (.ref c), .val (.ref ax), .val (.ref (A 4)), .val (.double tol), .second, .val (.int (0 : Int32)), .val (.int (2 : Int32)), .val (.ref (A 5)), .val (.ref (A 8)), .val (.ref (A 7)), .val (.ref (A 11)), .val (.double 0), .second, .val (.int (0 : Int32)), .val (.double v188), .second, .unset, .unset, .unset, .unset, .unset, .unset, .unset, .unset, .unset, .unset, .unset]) rfl ?_
  refine Go.aloadN d7_58 (q := 59) rfl rfl rfl ?_
  refine Go.getF d7_59 (q := 62) rfl (host := "") (Or.inl (w17 hw)) Via.refl C0.fd.starts ?_
  refine Go.iload d7_62 (q := 64) rfl rfl ?_
  refine Go.iaload d7_64 (q := 65) rfl (C0.a0).choose_spec (by decide) rfl ?_
  refine Go.istore d7_65 (q := 67) rfl (Ls' := #[.val (.ref c), .val (.ref ax), .val (.ref (A 4)), .val (.double tol), .second, .val (.int (0 : Int32)), .val (.int (2 : Int32)), .val (.ref (A 5)), .val (.ref (A 8)), .val (.ref (A 7)), .val (.ref (A 11)), .val (.double 0), .second, .val (.int (0 : Int32)), .val (.double v188), .second, .val (.int (0 : Int32)), .unset, .unset, .unset, .unset, .unset, .unset, .unset, .unset, .unset, .unset]) rfl ?_
  refine Go.iload d7_67 (q := 69) rfl rfl ?_
  refine Go.aloadN d7_69 (q := 70) rfl rfl rfl ?_
  refine Go.getF d7_70 (q := 73) rfl (host := "") (Or.inl (w17 hw)) Via.refl C0.fd.starts ?_
  refine Go.iload d7_73 (q := 75) rfl rfl ?_
  refine Go.iconst d7_75 (q := 76) rfl (x := (1 : Int32)) (by decide) ?_
  refine Go.iadd d7_76 (q := 77) rfl ?_
  rw [show ((0 : Int32) + (1 : Int32)) = (1 : Int32) from rfl]
  refine Go.iaload d7_77 (q := 78) rfl (C0.a0).choose_spec (by decide) rfl ?_
  refine Go.icmp_ge d7_78 (q := 109) (q' := 81) (by decide) rfl rfl (fun c_ => absurd (by decide) c_) (fun _ => ?_)
  refine Go.dload d7_81 (q := 83) rfl rfl ?_
  refine Go.aloadN d7_83 (q := 84) rfl rfl rfl ?_
  refine Go.getF d7_84 (q := 87) rfl (host := "") (Or.inl (w23 hw)) Via.refl C0.fd.probabilities ?_
  refine Go.iload d7_87 (q := 89) rfl rfl ?_
  refine Go.daload d7_89 (q := 90) rfl (C0.a3).choose_spec (by decide) rfl ?_
  refine Go.aloadN d7_90 (q := 91) rfl rfl rfl ?_
  refine Go.aloadN d7_91 (q := 92) rfl rfl rfl ?_
  refine Go.getF d7_92 (q := 95) rfl (host := "") (Or.inl (w21 hw)) Via.refl C0.fd.targets ?_
  refine Go.iload d7_95 (q := 97) rfl rfl ?_
  refine Go.iaload d7_97 (q := 98) rfl (C0.a2).choose_spec (by decide) rfl ?_
  refine Go.daload d7_98 (q := 99) rfl (C0.ax).choose_spec t0 hy0 ?_
  refine Go.dmul d7_99 (q := 100) rfl (sx_nn m0) ?_
  refine Go.daddX d7_100 (q := 101) rfl (sx_add sv188 m0 (by omega)) ?_
  intro v191 sv191
  refine Go.dstore d7_101 (q := 103) rfl (Ls' := #[.val (.ref c), .val (.ref ax), .val (.ref (A 4)), .val (.double tol), .second, .val (.int (0 : Int32)), .val (.int (2 : Int32)), .val (.ref (A 5)), .val (.ref (A 8)), .val (.ref (A 7)), .val (.ref (A 11)), .val (.double 0), .second, .val (.int (0 : Int32)), .val (.double v191), .second, .val (.int (0 : Int32)), .unset, .unset, .unset, .unset, .unset, .unset, .unset, .unset, .unset, .unset]) rfl ?_
  refine Go.iinc d7_103 (q := 106) rfl rfl (w := (1 : Int32)) rfl (Ls' := #[.val (.ref c), .val (.ref ax), .val (.ref (A 4)), .val (.double tol), .second, .val (.int (0 : Int32)), .val (.int (2 : Int32)), .val (.ref (A 5)), .val (.ref (A 8)), .val (.ref (A 7)), .val (.ref (A 11)), .val (.double 0), .second, .val (.int (0 : Int32)), .val (.double v191), .second, .val (.int (1 : Int32)), .unset, .unset, .unset, .unset, .unset, .unset, .unset, .unset, .unset, .unset]) rfl ?_
  refine Go.goto d7_106 (q := 67) (by decide) rfl ?_
  refine Go.iload d7_67 (q := 69) rfl rfl ?_
  refine Go.aloadN d7_69 (q := 70) rfl rfl rfl ?_
  refine Go.getF d7_70 (q := 73) rfl (host := "") (Or.inl (w17 hw)) Via.refl C0.fd.starts ?_
  refine Go.iload d7_73 (q := 75) rfl rfl ?_
  refine Go.iconst d7_75 (q := 76) rfl (x := (1 : Int32)) (by decide) ?_
  refine Go.iadd d7_76 (q := 77) rfl ?_
  rw [show ((0 : Int32) + (1 : Int32)) = (1 : Int32) from rfl]
  refine Go.iaload d7_77 (q := 78) rfl (C0.a0).choose_spec (by decide) rfl ?_
  refine Go.icmp_ge d7_78 (q := 109) (q' := 81) (by decide) rfl rfl (fun c_ => absurd (by decide) c_) (fun _ => ?_)
  refine Go.dload d7_81 (q := 83) rfl rfl ?_
  refine Go.aloadN d7_83 (q := 84) rfl rfl rfl ?_
  refine Go.getF d7_84 (q := 87) rfl (host := "") (Or.inl (w23 hw)) Via.refl C0.fd.probabilities ?_
  refine Go.iload d7_87 (q := 89) rfl rfl ?_
  refine Go.daload d7_89 (q := 90) rfl (C0.a3).choose_spec (by decide) rfl ?_
  refine Go.aloadN d7_90 (q := 91) rfl rfl rfl ?_
  refine Go.aloadN d7_91 (q := 92) rfl rfl rfl ?_
  refine Go.getF d7_92 (q := 95) rfl (host := "") (Or.inl (w21 hw)) Via.refl C0.fd.targets ?_
  refine Go.iload d7_95 (q := 97) rfl rfl ?_
  refine Go.iaload d7_97 (q := 98) rfl (C0.a2).choose_spec (by decide) rfl ?_
  refine Go.daload d7_98 (q := 99) rfl (C0.ax).choose_spec t1 hy1 ?_
  refine Go.dmul d7_99 (q := 100) rfl (sx_nn m1) ?_
  refine Go.daddX d7_100 (q := 101) rfl (sx_add sv191 m1 (by omega)) ?_
  intro v194 sv194
  refine Go.dstore d7_101 (q := 103) rfl (Ls' := #[.val (.ref c), .val (.ref ax), .val (.ref (A 4)), .val (.double tol), .second, .val (.int (0 : Int32)), .val (.int (2 : Int32)), .val (.ref (A 5)), .val (.ref (A 8)), .val (.ref (A 7)), .val (.ref (A 11)), .val (.double 0), .second, .val (.int (0 : Int32)), .val (.double v194), .second, .val (.int (1 : Int32)), .unset, .unset, .unset, .unset, .unset, .unset, .unset, .unset, .unset, .unset]) rfl ?_
  refine Go.iinc d7_103 (q := 106) rfl rfl (w := (2 : Int32)) rfl (Ls' := #[.val (.ref c), .val (.ref ax), .val (.ref (A 4)), .val (.double tol), .second, .val (.int (0 : Int32)), .val (.int (2 : Int32)), .val (.ref (A 5)), .val (.ref (A 8)), .val (.ref (A 7)), .val (.ref (A 11)), .val (.double 0), .second, .val (.int (0 : Int32)), .val (.double v194), .second, .val (.int (2 : Int32)), .unset, .unset, .unset, .unset, .unset, .unset, .unset, .unset, .unset, .unset]) rfl ?_
  refine Go.goto d7_106 (q := 67) (by decide) rfl ?_
  refine Go.iload d7_67 (q := 69) rfl rfl ?_
  refine Go.aloadN d7_69 (q := 70) rfl rfl rfl ?_
  refine Go.getF d7_70 (q := 73) rfl (host := "") (Or.inl (w17 hw)) Via.refl C0.fd.starts ?_
  refine Go.iload d7_73 (q := 75) rfl rfl ?_
  refine Go.iconst d7_75 (q := 76) rfl (x := (1 : Int32)) (by decide) ?_
  refine Go.iadd d7_76 (q := 77) rfl ?_
  rw [show ((0 : Int32) + (1 : Int32)) = (1 : Int32) from rfl]
  refine Go.iaload d7_77 (q := 78) rfl (C0.a0).choose_spec (by decide) rfl ?_
  refine Go.icmp_ge d7_78 (q := 109) (q' := 81) (by decide) rfl rfl (fun _ => ?_) (fun c_ => absurd c_ (by decide))
  refine Go.aload d7_109 (q := 111) rfl rfl rfl ?_
  refine Go.iload d7_111 (q := 113) rfl rfl ?_
  refine Go.dload d7_113 (q := 115) rfl rfl ?_
  obtain ⟨kg196, vg196, lg196, Bg196⟩ := C0.a5
  refine Go.dastore d7_115 (q := 116) rfl Bg196 (by decide) (by rw [lg196]; decide) C0.na5 ?_
  intro g196 Wg196
  have Cg196 : CN Z g196 n0 c A ax (-1 : Int32) (2 : Int32) its [(.int (0 : Int32)), (.int (2 : Int32)), (.int (2 : Int32))] [(.int l0), (.int l1)] [(.int g0), (.int g1)] [(.double p0), (.double p1)] [(.double 0), (.double u1)] [(.double x0), (.double x1)] := C0.w5 Wg196
  refine Go.aloadN d7_116 (q := 117) rfl rfl rfl ?_
  refine Go.getF d7_117 (q := 120) rfl (host := "") (Or.inl (w29 hw)) Via.refl Cg196.fd.shadow ?_
  refine Go.iload d7_120 (q := 122) rfl rfl ?_
  refine Go.dload d7_122 (q := 124) rfl rfl ?_
  obtain ⟨kg197, vg197, lg197, Bg197⟩ := Cg196.a6
  refine Go.dastore d7_124 (q := 125) rfl Bg197 (by decide) (by rw [lg197]; decide) Cg196.na6 ?_
  intro g197 Wg197
  have Cg197 : CN Z g197 n0 c A ax (-1 : Int32) (2 : Int32) its [(.int (0 : Int32)), (.int (2 : Int32)), (.int (2 : Int32))] [(.int l0), (.int l1)] [(.int g0), (.int g1)] [(.double p0), (.double p1)] [(.double 0), (.double u1)] [(.double x0), (.double x1)] := Cg196.w6 Wg197
  refine Go.aload d7_125 (q := 127) rfl rfl rfl ?_
  refine Go.iload d7_127 (q := 129) rfl rfl ?_
  refine Go.dconst0 d7_129 (q := 130) rfl ?_
  obtain ⟨kg198, vg198, lg198, Bg198⟩ := Cg197.a7
  refine Go.dastore d7_130 (q := 131) rfl Bg198 (by decide) (by rw [lg198]; decide) Cg197.na7 ?_
  intro g198 Wg198
  have Cg198 : CN Z g198 n0 c A ax (-1 : Int32) (2 : Int32) its [(.int (0 : Int32)), (.int (2 : Int32)), (.int (2 : Int32))] [(.int l0), (.int l1)] [(.int g0), (.int g1)] [(.double p0), (.double p1)] [(.double 0), (.double u1)] [(.double x0), (.double x1)] := Cg197.w7 Wg198
  refine Go.aload d7_131 (q := 133) rfl rfl rfl ?_
  refine Go.iload d7_133 (q := 135) rfl rfl ?_
  refine Go.dconst0 d7_135 (q := 136) rfl ?_
  obtain ⟨kg199, vg199, lg199, Bg199⟩ := Cg198.a8
  refine Go.dastore d7_136 (q := 137) rfl Bg199 (by decide) (by rw [lg199]; decide) Cg198.na8 ?_
  intro g199 Wg199
  have Cg199 : CN Z g199 n0 c A ax (-1 : Int32) (2 : Int32) its [(.int (0 : Int32)), (.int (2 : Int32)), (.int (2 : Int32))] [(.int l0), (.int l1)] [(.int g0), (.int g1)] [(.double p0), (.double p1)] [(.double 0), (.double u1)] [(.double x0), (.double x1)] := Cg198.w8 Wg199
  refine Go.dload d7_137 (q := 139) rfl rfl ?_
  refine Go.dload d7_139 (q := 141) rfl rfl ?_
  refine Go.absD (wd := 2) d7_141 (q := 144) rfl (w66 hw) (w67 hw) (w68 hw) (w69 hw) sv194 rfl (by decide) rfl (by decide) (by decide) (by decide) ?_
  intro v200 sv200
  refine Go.maxD (g := (((((0 - X0) + P0) + P1)).natAbs : Int)) (wd := 0) d7_144 (q := 147) rfl (w70 hw) (w71 hw) (w68 hw) (w72 hw) sx_zero sv200 (Or.inl ⟨by omega, rfl⟩) rfl (by decide) rfl (by decide) (by decide) (by decide) ?_
  intro v201 sv201
  refine Go.dstore d7_147 (q := 149) rfl (Ls' := #[.val (.ref c), .val (.ref ax), .val (.ref (A 4)), .val (.double tol), .second, .val (.int (0 : Int32)), .val (.int (2 : Int32)), .val (.ref (A 5)), .val (.ref (A 8)), .val (.ref (A 7)), .val (.ref (A 11)), .val (.double v201), .second, .val (.int (0 : Int32)), .val (.double v194), .second, .val (.int (2 : Int32)), .unset, .unset, .unset, .unset, .unset, .unset, .unset, .unset, .unset, .unset]) rfl ?_
  refine Go.iinc d7_149 (q := 152) rfl rfl (w := (1 : Int32)) rfl (Ls' := #[.val (.ref c), .val (.ref ax), .val (.ref (A 4)), .val (.double tol), .second, .val (.int (0 : Int32)), .val (.int (2 : Int32)), .val (.ref (A 5)), .val (.ref (A 8)), .val (.ref (A 7)), .val (.ref (A 11)), .val (.double v201), .second, .val (.int (1 : Int32)), .val (.double v194), .second, .val (.int (2 : Int32)), .unset, .unset, .unset, .unset, .unset, .unset, .unset, .unset, .unset, .unset]) rfl ?_
  refine Go.goto d7_152 (q := 40) (by decide) rfl ?_
  refine Go.iload d7_40 (q := 42) rfl rfl ?_
  refine Go.iload d7_42 (q := 44) rfl rfl ?_
  refine Go.icmp_ge d7_44 (q := 155) (q' := 47) (by decide) rfl rfl (fun c_ => absurd (by decide) c_) (fun _ => ?_)
  refine Go.aloadN d7_47 (q := 48) rfl rfl rfl ?_
  refine Go.iload d7_48 (q := 50) rfl rfl ?_
  refine Go.daload d7_50 (q := 51) rfl (Cg199.a4).choose_spec (by decide) rfl ?_
  refine Go.aloadN d7_51 (q := 52) rfl rfl rfl ?_
  refine Go.iload d7_52 (q := 54) rfl rfl ?_
  refine Go.daload d7_54 (q := 55) rfl (Cg199.ax).choose_spec (by decide) rfl ?_
  refine Go.dsubX d7_55 (q := 56) rfl (sx_sub su1 sx1 (by omega)) ?_
  intro v203 sv203
  refine Go.dstore d7_56 (q := 58) rfl (Ls' := #[.val (.ref c), .val (.ref ax), .val (.ref (A 4)), .val (.double tol), .second, .val (.int (0 : Int32)), .val (.int (2 : Int32)), .val (.ref (A 5)), .val (.ref (A 8)), .val (.ref (A 7)), .val (.ref (A 11)), .val (.double v201), .second, .val (.int (1 : Int32)), .val (.double v203), .second, .val (.int (2 : Int32)), .unset, .unset, .unset, .unset, .unset, .unset, .unset, .unset, .unset, .unset]) rfl ?_
  refine Go.aloadN d7_58 (q := 59) rfl rfl rfl ?_
  refine Go.getF d7_59 (q := 62) rfl (host := "") (Or.inl (w17 hw)) Via.refl Cg199.fd.starts ?_
  refine Go.iload d7_62 (q := 64) rfl rfl ?_
  refine Go.iaload d7_64 (q := 65) rfl (Cg199.a0).choose_spec (by decide) rfl ?_
  refine Go.istore d7_65 (q := 67) rfl (Ls' := #[.val (.ref c), .val (.ref ax), .val (.ref (A 4)), .val (.double tol), .second, .val (.int (0 : Int32)), .val (.int (2 : Int32)), .val (.ref (A 5)), .val (.ref (A 8)), .val (.ref (A 7)), .val (.ref (A 11)), .val (.double v201), .second, .val (.int (1 : Int32)), .val (.double v203), .second, .val (.int (2 : Int32)), .unset, .unset, .unset, .unset, .unset, .unset, .unset, .unset, .unset, .unset]) rfl ?_
  refine Go.iload d7_67 (q := 69) rfl rfl ?_
  refine Go.aloadN d7_69 (q := 70) rfl rfl rfl ?_
  refine Go.getF d7_70 (q := 73) rfl (host := "") (Or.inl (w17 hw)) Via.refl Cg199.fd.starts ?_
  refine Go.iload d7_73 (q := 75) rfl rfl ?_
  refine Go.iconst d7_75 (q := 76) rfl (x := (1 : Int32)) (by decide) ?_
  refine Go.iadd d7_76 (q := 77) rfl ?_
  rw [show ((1 : Int32) + (1 : Int32)) = (2 : Int32) from rfl]
  refine Go.iaload d7_77 (q := 78) rfl (Cg199.a0).choose_spec (by decide) rfl ?_
  refine Go.icmp_ge d7_78 (q := 109) (q' := 81) (by decide) rfl rfl (fun _ => ?_) (fun c_ => absurd c_ (by decide))
  refine Go.aload d7_109 (q := 111) rfl rfl rfl ?_
  refine Go.iload d7_111 (q := 113) rfl rfl ?_
  refine Go.dload d7_113 (q := 115) rfl rfl ?_
  obtain ⟨kg205, vg205, lg205, Bg205⟩ := Cg199.a5
  refine Go.dastore d7_115 (q := 116) rfl Bg205 (by decide) (by rw [lg205]; decide) Cg199.na5 ?_
  intro g205 Wg205
  have Cg205 : CN Z g205 n0 c A ax (-1 : Int32) (2 : Int32) its [(.int (0 : Int32)), (.int (2 : Int32)), (.int (2 : Int32))] [(.int l0), (.int l1)] [(.int g0), (.int g1)] [(.double p0), (.double p1)] [(.double 0), (.double u1)] [(.double x0), (.double x1)] := Cg199.w5 Wg205
  refine Go.aloadN d7_116 (q := 117) rfl rfl rfl ?_
  refine Go.getF d7_117 (q := 120) rfl (host := "") (Or.inl (w29 hw)) Via.refl Cg205.fd.shadow ?_
  refine Go.iload d7_120 (q := 122) rfl rfl ?_
  refine Go.dload d7_122 (q := 124) rfl rfl ?_
  obtain ⟨kg206, vg206, lg206, Bg206⟩ := Cg205.a6
  refine Go.dastore d7_124 (q := 125) rfl Bg206 (by decide) (by rw [lg206]; decide) Cg205.na6 ?_
  intro g206 Wg206
  have Cg206 : CN Z g206 n0 c A ax (-1 : Int32) (2 : Int32) its [(.int (0 : Int32)), (.int (2 : Int32)), (.int (2 : Int32))] [(.int l0), (.int l1)] [(.int g0), (.int g1)] [(.double p0), (.double p1)] [(.double 0), (.double u1)] [(.double x0), (.double x1)] := Cg205.w6 Wg206
  refine Go.aload d7_125 (q := 127) rfl rfl rfl ?_
  refine Go.iload d7_127 (q := 129) rfl rfl ?_
  refine Go.dconst0 d7_129 (q := 130) rfl ?_
  obtain ⟨kg207, vg207, lg207, Bg207⟩ := Cg206.a7
  refine Go.dastore d7_130 (q := 131) rfl Bg207 (by decide) (by rw [lg207]; decide) Cg206.na7 ?_
  intro g207 Wg207
  have Cg207 : CN Z g207 n0 c A ax (-1 : Int32) (2 : Int32) its [(.int (0 : Int32)), (.int (2 : Int32)), (.int (2 : Int32))] [(.int l0), (.int l1)] [(.int g0), (.int g1)] [(.double p0), (.double p1)] [(.double 0), (.double u1)] [(.double x0), (.double x1)] := Cg206.w7 Wg207
  refine Go.aload d7_131 (q := 133) rfl rfl rfl ?_
  refine Go.iload d7_133 (q := 135) rfl rfl ?_
  refine Go.dconst0 d7_135 (q := 136) rfl ?_
  obtain ⟨kg208, vg208, lg208, Bg208⟩ := Cg207.a8
  refine Go.dastore d7_136 (q := 137) rfl Bg208 (by decide) (by rw [lg208]; decide) Cg207.na8 ?_
  intro g208 Wg208
  have Cg208 : CN Z g208 n0 c A ax (-1 : Int32) (2 : Int32) its [(.int (0 : Int32)), (.int (2 : Int32)), (.int (2 : Int32))] [(.int l0), (.int l1)] [(.int g0), (.int g1)] [(.double p0), (.double p1)] [(.double 0), (.double u1)] [(.double x0), (.double x1)] := Cg207.w8 Wg208
  refine Go.dload d7_137 (q := 139) rfl rfl ?_
  refine Go.dload d7_139 (q := 141) rfl rfl ?_
  refine Go.absD (wd := 2) d7_141 (q := 144) rfl (w66 hw) (w67 hw) (w68 hw) (w69 hw) sv203 rfl (by decide) rfl (by decide) (by decide) (by decide) ?_
  intro v209 sv209
  refine Go.maxD (g := (((((0 - X0) + P0) + P1)).natAbs : Int)) (wd := 0) d7_144 (q := 147) rfl (w70 hw) (w71 hw) (w68 hw) (w72 hw) sv201 sv209 (Or.inr ⟨by omega, rfl⟩) rfl (by decide) rfl (by decide) (by decide) (by decide) ?_
  intro v210 sv210
  refine Go.dstore d7_147 (q := 149) rfl (Ls' := #[.val (.ref c), .val (.ref ax), .val (.ref (A 4)), .val (.double tol), .second, .val (.int (0 : Int32)), .val (.int (2 : Int32)), .val (.ref (A 5)), .val (.ref (A 8)), .val (.ref (A 7)), .val (.ref (A 11)), .val (.double v210), .second, .val (.int (1 : Int32)), .val (.double v203), .second, .val (.int (2 : Int32)), .unset, .unset, .unset, .unset, .unset, .unset, .unset, .unset, .unset, .unset]) rfl ?_
  refine Go.iinc d7_149 (q := 152) rfl rfl (w := (2 : Int32)) rfl (Ls' := #[.val (.ref c), .val (.ref ax), .val (.ref (A 4)), .val (.double tol), .second, .val (.int (0 : Int32)), .val (.int (2 : Int32)), .val (.ref (A 5)), .val (.ref (A 8)), .val (.ref (A 7)), .val (.ref (A 11)), .val (.double v210), .second, .val (.int (2 : Int32)), .val (.double v203), .second, .val (.int (2 : Int32)), .unset, .unset, .unset, .unset, .unset, .unset, .unset, .unset, .unset, .unset]) rfl ?_
  refine Go.goto d7_152 (q := 40) (by decide) rfl ?_
  refine Go.iload d7_40 (q := 42) rfl rfl ?_
  refine Go.iload d7_42 (q := 44) rfl rfl ?_
  refine Go.icmp_ge d7_44 (q := 155) (q' := 47) (by decide) rfl rfl (fun _ => ?_) (fun c_ => absurd c_ (by decide))
  refine Go.dconst1 d7_155 (q := 156) rfl ?_
  refine Go.dstore d7_156 (q := 158) rfl (Ls' := #[.val (.ref c), .val (.ref ax), .val (.ref (A 4)), .val (.double tol), .second, .val (.int (0 : Int32)), .val (.int (2 : Int32)), .val (.ref (A 5)), .val (.ref (A 8)), .val (.ref (A 7)), .val (.ref (A 11)), .val (.double v210), .second, .val (.double FP.dconst1), .second, .unset, .val (.int (2 : Int32)), .unset, .unset, .unset, .unset, .unset, .unset, .unset, .unset, .unset, .unset]) rfl ?_
  refine Go.dconst1 d7_158 (q := 159) rfl ?_
  refine Go.dstore d7_159 (q := 161) rfl (Ls' := #[.val (.ref c), .val (.ref ax), .val (.ref (A 4)), .val (.double tol), .second, .val (.int (0 : Int32)), .val (.int (2 : Int32)), .val (.ref (A 5)), .val (.ref (A 8)), .val (.ref (A 7)), .val (.ref (A 11)), .val (.double v210), .second, .val (.double FP.dconst1), .second, .val (.double FP.dconst1), .second, .unset, .unset, .unset, .unset, .unset, .unset, .unset, .unset, .unset, .unset]) rfl ?_
  refine Go.dconst1 d7_161 (q := 162) rfl ?_
  refine Go.dstore d7_162 (q := 164) rfl (Ls' := #[.val (.ref c), .val (.ref ax), .val (.ref (A 4)), .val (.double tol), .second, .val (.int (0 : Int32)), .val (.int (2 : Int32)), .val (.ref (A 5)), .val (.ref (A 8)), .val (.ref (A 7)), .val (.ref (A 11)), .val (.double v210), .second, .val (.double FP.dconst1), .second, .val (.double FP.dconst1), .second, .val (.double FP.dconst1), .second, .unset, .unset, .unset, .unset, .unset, .unset, .unset, .unset]) rfl ?_
  refine Go.aloadN d7_164 (q := 165) rfl rfl rfl ?_
  refine Go.iconst d7_165 (q := 166) rfl (x := (0 : Int32)) (by decide) ?_
  refine Go.putF d7_166 (q := 169) rfl (host := "") (Or.inl (w73 hw)) Via.refl Cg208.fd.iterations Cg208.exa (Or.inl (w74 hw)) (w4 hw) pTn rfl rfl Cg208.nc ?_
  intro g212 Wg212
  have Cg212 : CN Z g212 n0 c A ax (-1 : Int32) (2 : Int32) (0 : Int32) [(.int (0 : Int32)), (.int (2 : Int32)), (.int (2 : Int32))] [(.int l0), (.int l1)] [(.int g0), (.int g1)] [(.double p0), (.double p1)] [(.double 0), (.double u1)] [(.double x0), (.double x1)] := Cg208.w_iterations hw Wg212
  refine Go.iconst d7_169 (q := 170) rfl (x := (0 : Int32)) (by decide) ?_
  refine Go.istore d7_170 (q := 172) rfl (Ls' := #[.val (.ref c), .val (.ref ax), .val (.ref (A 4)), .val (.double tol), .second, .val (.int (0 : Int32)), .val (.int (2 : Int32)), .val (.ref (A 5)), .val (.ref (A 8)), .val (.ref (A 7)), .val (.ref (A 11)), .val (.double v210), .second, .val (.double FP.dconst1), .second, .val (.double FP.dconst1), .second, .val (.double FP.dconst1), .second, .val (.int (0 : Int32)), .unset, .unset, .unset, .unset, .unset, .unset, .unset]) rfl ?_
  refine Go.dload d7_172 (q := 174) rfl rfl ?_
  refine Go.dloadN d7_174 (q := 175) rfl rfl ?_
  refine Go.dcmpX d7_175 (q := 176) rfl sv210 sT (cmpI_eq (by omega)) ?_
  refine Go.if_le d7_176 (q := 488) (q' := 179) (by decide) rfl rfl (fun _ => ?_) (fun c_ => absurd c_ (by decide))
  refine Go.dload d7_488 (q := 490) rfl rfl ?_
  refine Go.dloadN d7_490 (q := 491) rfl rfl ?_
  refine Go.dcmpX d7_491 (q := 492) rfl sv210 sT (cmpI_eq (by omega)) ?_
  refine Go.if_gt d7_492 (q := 499) (q' := 495) (by decide) rfl rfl (fun c_ => absurd c_ (by decide)) (fun _ => ?_)
  refine Go.iconst d7_495 (q := 496) rfl (x := (1 : Int32)) (by decide) ?_
  refine Go.goto d7_496 (q := 500) (by decide) rfl ?_
  refine Go.zreturn d7_500 (by decide) (by decide) (by decide) ?_
  exact hQ g212 Cg212
set_option maxRecDepth 65536 in
set_option maxHeartbeats 40000000 in
theorem sv0_2_eq (l : Launch) (Z : State) (a0 : Array Value) (hw : Hw a0 Z) (n0 : Nat) (h : Heap) {c : Addr} {A : Nat → Addr} {ax : Addr} {its s2 l0 l1 g0 g1 : Int32} {p0 p1 u1 x0 x1 : UInt64} (X0 X1 U1 T P0 P1 : Int) (tol y0 y1 : UInt64) (sx0 : Sx X0 x0) (sx1 : Sx X1 x1) (su1 : Sx U1 u1) (hU : U1 = X1) (bX0 : X0.natAbs ≤ 16384) (bX1 : X1.natAbs ≤ 16384) (sT : Sx T tol) (t0 : ¬ g0 < 0) (hy0 : [Value.double x0, .double x1][g0.toNatClampNeg]? = some (.double y0)) (m0 : Sx P0 (FP.dmul p0 y0)) (bP0 : P0.natAbs ≤ 16384) (t1 : ¬ g1 < 0) (hy1 : [Value.double x0, .double x1][g1.toNatClampNeg]? = some (.double y1)) (m1 : Sx P1 (FP.dmul p1 y1)) (bP1 : P1.natAbs ≤ 16384) (hT : T = ((((0 - X0) + P0) + P1).natAbs : Int)) (C0 : CN Z h n0 c A ax (1 : Int32) (2 : Int32) its [(.int (0 : Int32)), (.int (2 : Int32)), (.int s2)] [(.int l0), (.int l1)] [(.int g0), (.int g1)] [(.double p0), (.double p1)] [(.double 0), (.double u1)] [(.double x0), (.double x1)]) {Q : Option Value → Heap → Prop} (hQ : ∀ h', CN Z h' n0 c A ax (-1 : Int32) (2 : Int32) (0 : Int32) [(.int (0 : Int32)), (.int (2 : Int32)), (.int (2 : Int32))] [(.int l0), (.int (2 : Int32))] [(.int g0), (.int g1)] [(.double p0), (.double p1)] [(.double 0), (.double u1)] [(.double x0), (.double x1)] → Q (some (.int 1)) h') :
    Go l Z (⟨"com/example/nona/nona/solver/ApproximateChain", "solve", "([D[DDI)Z"⟩ : MethodName) prog_136_method_8_code 27 (some .boolean) ({ frames := 1, cells := 0, slots := 0, locals := 18 } : Room) n0 Q h 0 0 0 #[.val (.ref c), .val (.ref ax), .val (.ref (A 4)), .val (.double tol), .second, .val (.int (0 : Int32)), .unset, .unset, .unset, .unset, .unset, .unset, .unset, .unset, .unset, .unset, .unset, .unset, .unset, .unset, .unset, .unset, .unset, .unset, .unset, .unset, .unset] [] := by
  refine Go.aloadN d7_0 (q := 1) rfl rfl rfl ?_
  refine Go.callPN (P := fun h' => CN Z h' n0 c A ax (-1 : Int32) (2 : Int32) its [(.int (0 : Int32)), (.int (2 : Int32)), (.int (2 : Int32))] [(.int l0), (.int (2 : Int32))] [(.int g0), (.int g1)] [(.double p0), (.double p1)] [(.double 0), (.double u1)] [(.double x0), (.double x1)]) (argsL := []) (rest := []) (wd := 0) (Ls1 := #[.val (.ref c), .unset, .unset, .unset, .unset, .unset, .unset]) d7_1 (q := 4) rfl (w46 hw) (w48 hw) (w44 hw) rfl (w47 hw) (w49 hw) (w5 hw) (by decide) pn4 pd4 rfl rfl C0.exa (fun m_ => by simp [entryFrame, mkF, argsToLocals, Value.category]) rfl (by decide) rfl (by decide) (by decide) (by decide) (close1_2 l Z a0 hw n0 h C0 (Q := RN (fun h' => CN Z h' n0 c A ax (-1 : Int32) (2 : Int32) its [(.int (0 : Int32)), (.int (2 : Int32)), (.int (2 : Int32))] [(.int l0), (.int (2 : Int32))] [(.int g0), (.int g1)] [(.double p0), (.double p1)] [(.double 0), (.double u1)] [(.double x0), (.double x1)])) (fun h' q => ⟨rfl, q⟩)) ?_
  intro g215 Cg215
  exact sv4_2_eq l Z a0 hw n0 g215 X0 X1 U1 T P0 P1 tol y0 y1 sx0 sx1 su1 hU bX0 bX1 sT t0 hy0 m0 bP0 t1 hy1 m1 bP1 hT Cg215 hQ
set_option maxRecDepth 65536 in
set_option maxHeartbeats 40000000 in
theorem s3_2_eq (l : Launch) (Z : State) (a0 : Array Value) (hw : Hw a0 Z) (n0 : Nat) (h : Heap) {c : Addr} {A : Nat → Addr} {ax : Addr} {its s2 l0 l1 g0 g1 : Int32} {p0 p1 u1 x0 x1 : UInt64} (X0 X1 U1 T P0 P1 : Int) (tol y0 y1 : UInt64) (sx0 : Sx X0 x0) (sx1 : Sx X1 x1) (su1 : Sx U1 u1) (hU : U1 = X1) (bX0 : X0.natAbs ≤ 16384) (bX1 : X1.natAbs ≤ 16384) (sT : Sx T tol) (t0 : ¬ g0 < 0) (hy0 : [Value.double x0, .double x1][g0.toNatClampNeg]? = some (.double y0)) (m0 : Sx P0 (FP.dmul p0 y0)) (bP0 : P0.natAbs ≤ 16384) (t1 : ¬ g1 < 0) (hy1 : [Value.double x0, .double x1][g1.toNatClampNeg]? = some (.double y1)) (m1 : Sx P1 (FP.dmul p1 y1)) (bP1 : P1.natAbs ≤ 16384) (hT : T = ((((0 - X0) + P0) + P1).natAbs : Int)) (C0 : CN Z h n0 c A ax (1 : Int32) (2 : Int32) its [(.int (0 : Int32)), (.int (2 : Int32)), (.int s2)] [(.int l0), (.int l1)] [(.int g0), (.int g1)] [(.double p0), (.double p1)] [(.double 0), (.double u1)] [(.double x0), (.double x1)]) {Q : Option Value → Heap → Prop} (hQ : ∀ h', CN Z h' n0 c A ax (-1 : Int32) (2 : Int32) (0 : Int32) [(.int (0 : Int32)), (.int (2 : Int32)), (.int (2 : Int32))] [(.int l0), (.int (2 : Int32))] [(.int g0), (.int g1)] [(.double p0), (.double p1)] [(.double 0), (.double u1)] [(.double x0), (.double x1)] → Q (some (.int 1)) h') :
    Go l Z (⟨"com/example/nona/nona/solver/ApproximateChain", "solve", "([DDI)Z"⟩ : MethodName) prog_136_method_6_code 5 (some .boolean) ({ frames := 2, cells := 0, slots := 0, locals := 56 } : Room) n0 Q h 0 0 0 #[.val (.ref c), .val (.ref ax), .val (.double tol), .second, .val (.int (0 : Int32))] [] := by
  refine Go.aloadN d6_0 (q := 1) rfl rfl rfl ?_
  refine Go.aloadN d6_1 (q := 2) rfl rfl rfl ?_
  refine Go.aloadN d6_2 (q := 3) rfl rfl rfl ?_
  refine Go.getF d6_3 (q := 6) rfl (host := "") (Or.inl (w25 hw)) Via.refl C0.fd.gains ?_
  refine Go.dloadN d6_6 (q := 7) rfl rfl ?_
  refine Go.iload d6_7 (q := 9) rfl rfl ?_
  refine Go.callPV (P := fun w_ h' => w_ = .int 1 ∧ CN Z h' n0 c A ax (-1 : Int32) (2 : Int32) (0 : Int32) [(.int (0 : Int32)), (.int (2 : Int32)), (.int (2 : Int32))] [(.int l0), (.int (2 : Int32))] [(.int g0), (.int g1)] [(.double p0), (.double p1)] [(.double 0), (.double u1)] [(.double x0), (.double x1)]) (argsL := [(.ref ax), (.ref (A 4)), (.double tol), (.int (0 : Int32))]) (rest := []) (wd := 0) (Ls1 := #[.val (.ref c), .val (.ref ax), .val (.ref (A 4)), .val (.double tol), .second, .val (.int (0 : Int32)), .unset, .unset, .unset, .unset, .unset, .unset, .unset, .unset, .unset, .unset, .unset, .unset, .unset, .unset, .unset, .unset, .unset, .unset, .unset, .unset, .unset]) d6_9 (q := 12) rfl (w62 hw) (w64 hw) (w44 hw) rfl (w63 hw) (w65 hw) (w5 hw) (by decide) pn7 pd7 rfl rfl C0.exa (fun m_ => by simp [entryFrame, mkF, argsToLocals, Value.category]) rfl (by decide) rfl (by decide) (by decide) (by decide) (sv0_2_eq l Z a0 hw n0 h X0 X1 U1 T P0 P1 tol y0 y1 sx0 sx1 su1 hU bX0 bX1 sT t0 hy0 m0 bP0 t1 hy1 m1 bP1 hT C0 (Q := RV (fun w_ h' => w_ = .int 1 ∧ CN Z h' n0 c A ax (-1 : Int32) (2 : Int32) (0 : Int32) [(.int (0 : Int32)), (.int (2 : Int32)), (.int (2 : Int32))] [(.int l0), (.int (2 : Int32))] [(.int g0), (.int g1)] [(.double p0), (.double p1)] [(.double 0), (.double u1)] [(.double x0), (.double x1)])) (fun h' q => ⟨_, rfl, rfl, q⟩)) ?_
  rintro _ g216 ⟨rfl, Cg216⟩
  refine Go.zreturn d6_12 (by decide) (by decide) (by decide) ?_
  exact hQ g216 Cg216
set_option maxRecDepth 65536 in
set_option maxHeartbeats 40000000 in
theorem sv4_2_gt (l : Launch) (Z : State) (a0 : Array Value) (hw : Hw a0 Z) (n0 : Nat) (h : Heap) {c : Addr} {A : Nat → Addr} {ax : Addr} {its l0 l1 g0 g1 : Int32} {p0 p1 u1 x0 x1 : UInt64} (X0 X1 U1 T P0 P1 : Int) (tol y0 y1 : UInt64) (sx0 : Sx X0 x0) (sx1 : Sx X1 x1) (su1 : Sx U1 u1) (hU : U1 = X1) (bX0 : X0.natAbs ≤ 16384) (bX1 : X1.natAbs ≤ 16384) (sT : Sx T tol) (t0 : ¬ g0 < 0) (hy0 : [Value.double x0, .double x1][g0.toNatClampNeg]? = some (.double y0)) (m0 : Sx P0 (FP.dmul p0 y0)) (bP0 : P0.natAbs ≤ 16384) (t1 : ¬ g1 < 0) (hy1 : [Value.double x0, .double x1][g1.toNatClampNeg]? = some (.double y1)) (m1 : Sx P1 (FP.dmul p1 y1)) (bP1 : P1.natAbs ≤ 16384) (hT : T < ((((0 - X0) + P0) + P1).natAbs : Int)) (C0 : CN Z h n0 c A ax (-1 : Int32) (2 : Int32) its [(.int (0 : Int32)), (.int (2 : Int32)), (.int (2 : Int32))] [(.int l0), (.int l1)] [(.int g0), (.int g1)] [(.double p0), (.double p1)] [(.double 0), (.double u1)] [(.double x0), (.double x1)]) {Q : Option Value → Heap → Prop} (hQ : ∀ h', CN Z h' n0 c A ax (-1 : Int32) (2 : Int32) (0 : Int32) [(.int (0 : Int32)), (.int (2 : Int32)), (.int (2 : Int32))] [(.int l0), (.int l1)] [(.int g0), (.int g1)] [(.double p0), (.double p1)] [(.double 0), (.double u1)] [(.double x0), (.double x1)] → Q (some (.int 0)) h') :
    Go l Z (⟨"com/example/nona/nona/solver/ApproximateChain", "solve", "([D[DDI)Z"⟩ : MethodName) prog_136_method_8_code 27 (some .boolean) ({ frames := 1, cells := 0, slots := 0, locals := 18 } : Room) n0 Q h 0 0 4 #[.val (.ref c), .val (.ref ax), .val (.ref (A 4)), .val (.double tol), .second, .val (.int (0 : Int32)), .unset, .unset, .unset, .unset, .unset, .unset, .unset, .unset, .unset, .unset, .unset, .unset, .unset, .unset, .unset, .unset, .unset, .unset, .unset, .unset, .unset] [] := by
  refine Go.aloadN d7_4 (q := 5) rfl rfl rfl ?_
  refine Go.getF d7_5 (q := 8) rfl (host := "") (Or.inl (w14 hw)) Via.refl C0.fd.size ?_
  refine Go.istore d7_8 (q := 10) rfl (Ls' := #[.val (.ref c), .val (.ref ax), .val (.ref (A 4)), .val (.double tol), .second, .val (.int (0 : Int32)), .val (.int (2 : Int32)), .unset, .unset, .unset, .unset, .unset, .unset, .unset, .unset, .unset, .unset, .unset, .unset, .unset, .unset, .unset, .unset, .unset, .unset, .unset, .unset]) rfl ?_
  refine Go.aloadN d7_10 (q := 11) rfl rfl rfl ?_
  refine Go.getF d7_11 (q := 14) rfl (host := "") (Or.inl (w27 hw)) Via.refl C0.fd.residual ?_
  refine Go.astore d7_14 (q := 16) rfl rfl (Ls' := #[.val (.ref c), .val (.ref ax), .val (.ref (A 4)), .val (.double tol), .second, .val (.int (0 : Int32)), .val (.int (2 : Int32)), .val (.ref (A 5)), .unset, .unset, .unset, .unset, .unset, .unset, .unset, .unset, .unset, .unset, .unset, .unset, .unset, .unset, .unset, .unset, .unset, .unset, .unset]) rfl ?_
  refine Go.aloadN d7_16 (q := 17) rfl rfl rfl ?_
  refine Go.getF d7_17 (q := 20) rfl (host := "") (Or.inl (w33 hw)) Via.refl C0.fd.image ?_
  refine Go.astore d7_20 (q := 22) rfl rfl (Ls' := #[.val (.ref c), .val (.ref ax), .val (.ref (A 4)), .val (.double tol), .second, .val (.int (0 : Int32)), .val (.int (2 : Int32)), .val (.ref (A 5)), .val (.ref (A 8)), .unset, .unset, .unset, .unset, .unset, .unset, .unset, .unset, .unset, .unset, .unset, .unset, .unset, .unset, .unset, .unset, .unset, .unset]) rfl ?_
  refine Go.aloadN d7_22 (q := 23) rfl rfl rfl ?_
  refine Go.getF d7_23 (q := 26) rfl (host := "") (Or.inl (w31 hw)) Via.refl C0.fd.direction ?_
  refine Go.astore d7_26 (q := 28) rfl rfl (Ls' := #[.val (.ref c), .val (.ref ax), .val (.ref (A 4)), .val (.double tol), .second, .val (.int (0 : Int32)), .val (.int (2 : Int32)), .val (.ref (A 5)), .val (.ref (A 8)), .val (.ref (A 7)), .unset, .unset, .unset, .unset, .unset, .unset, .unset, .unset, .unset, .unset, .unset, .unset, .unset, .unset, .unset, .unset, .unset]) rfl ?_
  refine Go.aloadN d7_28 (q := 29) rfl rfl rfl ?_
  refine Go.getF d7_29 (q := 32) rfl (host := "") (Or.inl (w39 hw)) Via.refl C0.fd.product ?_
  refine Go.astore d7_32 (q := 34) rfl rfl (Ls' := #[.val (.ref c), .val (.ref ax), .val (.ref (A 4)), .val (.double tol), .second, .val (.int (0 : Int32)), .val (.int (2 : Int32)), .val (.ref (A 5)), .val (.ref (A 8)), .val (.ref (A 7)), .val (.ref (A 11)), .unset, .unset, .unset, .unset, .unset, .unset, .unset, .unset, .unset, .unset, .unset, .unset, .unset, .unset, .unset, .unset]) rfl ?_
  refine Go.dconst0 d7_34 (q := 35) rfl ?_
  refine Go.dstore d7_35 (q := 37) rfl (Ls' := #[.val (.ref c), .val (.ref ax), .val (.ref (A 4)), .val (.double tol), .second, .val (.int (0 : Int32)), .val (.int (2 : Int32)), .val (.ref (A 5)), .val (.ref (A 8)), .val (.ref (A 7)), .val (.ref (A 11)), .val (.double 0), .second, .unset, .unset, .unset, .unset, .unset, .unset, .unset, .unset, .unset, .unset, .unset, .unset, .unset, .unset]) rfl ?_
  refine Go.iconst d7_37 (q := 38) rfl (x := (0 : Int32)) (by decide) ?_
  refine Go.istore d7_38 (q := 40) rfl (Ls' := #[.val (.ref c), .val (.ref ax), .val (.ref (A 4)), .val (.double tol), .second, .val (.int (0 : Int32)), .val (.int (2 : Int32)), .val (.ref (A 5)), .val (.ref (A 8)), .val (.ref (A 7)), .val (.ref (A 11)), .val (.double 0), .second, .val (.int (0 : Int32)), .unset, .unset, .unset, .unset, .unset, .unset, .unset, .unset, .unset, .unset, .unset, .unset, .unset]) rfl ?_
  refine Go.iload d7_40 (q := 42) rfl rfl ?_
  refine Go.iload d7_42 (q := 44) rfl rfl ?_
  refine Go.icmp_ge d7_44 (q := 155) (q' := 47) (by decide) rfl rfl (fun c_ => absurd (by decide) c_) (fun _ => ?_)
  refine Go.aloadN d7_47 (q := 48) rfl rfl rfl ?_
  refine Go.iload d7_48 (q := 50) rfl rfl ?_
  refine Go.daload d7_50 (q := 51) rfl (C0.a4).choose_spec (by decide) rfl ?_
  refine Go.aloadN d7_51 (q := 52) rfl rfl rfl ?_
  refine Go.iload d7_52 (q := 54) rfl rfl ?_
  refine Go.daload d7_54 (q := 55) rfl (C0.ax).choose_spec (by decide) rfl ?_
  refine Go.dsubX d7_55 (q := 56) rfl (sx_sub sx_zero sx0 (by omega)) ?_
  intro v218 sv218
  refine Go.dstore d7_56 (q := 58) rfl (Ls' := #[.val (.ref c), .val (.ref ax), .val (.ref (A 4)), .val (.double tol), .second, .val (.int (0 : Int32)), .val (.int (2 : Int32)), .val (.ref (A 5)), .val (.ref (A 8)), .val (.ref (A 7)), .val (.ref (A 11)), .val (.double 0), .second, .val (.int (0 : Int32)), .val (.double v218), .second, .unset, .unset, .unset, .unset, .unset, .unset, .unset, .unset, .unset, .unset, .unset]) rfl ?_
  refine Go.aloadN d7_58 (q := 59) rfl rfl rfl ?_
  refine Go.getF d7_59 (q := 62) rfl (host := "") (Or.inl (w17 hw)) Via.refl C0.fd.starts ?_
  refine Go.iload d7_62 (q := 64) rfl rfl ?_
  refine Go.iaload d7_64 (q := 65) rfl (C0.a0).choose_spec (by decide) rfl ?_
  refine Go.istore d7_65 (q := 67) rfl (Ls' := #[.val (.ref c), .val (.ref ax), .val (.ref (A 4)), .val (.double tol), .second, .val (.int (0 : Int32)), .val (.int (2 : Int32)), .val (.ref (A 5)), .val (.ref (A 8)), .val (.ref (A 7)), .val (.ref (A 11)), .val (.double 0), .second, .val (.int (0 : Int32)), .val (.double v218), .second, .val (.int (0 : Int32)), .unset, .unset, .unset, .unset, .unset, .unset, .unset, .unset, .unset, .unset]) rfl ?_
  refine Go.iload d7_67 (q := 69) rfl rfl ?_
  refine Go.aloadN d7_69 (q := 70) rfl rfl rfl ?_
  refine Go.getF d7_70 (q := 73) rfl (host := "") (Or.inl (w17 hw)) Via.refl C0.fd.starts ?_
  refine Go.iload d7_73 (q := 75) rfl rfl ?_
  refine Go.iconst d7_75 (q := 76) rfl (x := (1 : Int32)) (by decide) ?_
  refine Go.iadd d7_76 (q := 77) rfl ?_
  rw [show ((0 : Int32) + (1 : Int32)) = (1 : Int32) from rfl]
  refine Go.iaload d7_77 (q := 78) rfl (C0.a0).choose_spec (by decide) rfl ?_
  refine Go.icmp_ge d7_78 (q := 109) (q' := 81) (by decide) rfl rfl (fun c_ => absurd (by decide) c_) (fun _ => ?_)
  refine Go.dload d7_81 (q := 83) rfl rfl ?_
  refine Go.aloadN d7_83 (q := 84) rfl rfl rfl ?_
  refine Go.getF d7_84 (q := 87) rfl (host := "") (Or.inl (w23 hw)) Via.refl C0.fd.probabilities ?_
  refine Go.iload d7_87 (q := 89) rfl rfl ?_
  refine Go.daload d7_89 (q := 90) rfl (C0.a3).choose_spec (by decide) rfl ?_
  refine Go.aloadN d7_90 (q := 91) rfl rfl rfl ?_
  refine Go.aloadN d7_91 (q := 92) rfl rfl rfl ?_
  refine Go.getF d7_92 (q := 95) rfl (host := "") (Or.inl (w21 hw)) Via.refl C0.fd.targets ?_
  refine Go.iload d7_95 (q := 97) rfl rfl ?_
  refine Go.iaload d7_97 (q := 98) rfl (C0.a2).choose_spec (by decide) rfl ?_
  refine Go.daload d7_98 (q := 99) rfl (C0.ax).choose_spec t0 hy0 ?_
  refine Go.dmul d7_99 (q := 100) rfl (sx_nn m0) ?_
  refine Go.daddX d7_100 (q := 101) rfl (sx_add sv218 m0 (by omega)) ?_
  intro v221 sv221
  refine Go.dstore d7_101 (q := 103) rfl (Ls' := #[.val (.ref c), .val (.ref ax), .val (.ref (A 4)), .val (.double tol), .second, .val (.int (0 : Int32)), .val (.int (2 : Int32)), .val (.ref (A 5)), .val (.ref (A 8)), .val (.ref (A 7)), .val (.ref (A 11)), .val (.double 0), .second, .val (.int (0 : Int32)), .val (.double v221), .second, .val (.int (0 : Int32)), .unset, .unset, .unset, .unset, .unset, .unset, .unset, .unset, .unset, .unset]) rfl ?_
  refine Go.iinc d7_103 (q := 106) rfl rfl (w := (1 : Int32)) rfl (Ls' := #[.val (.ref c), .val (.ref ax), .val (.ref (A 4)), .val (.double tol), .second, .val (.int (0 : Int32)), .val (.int (2 : Int32)), .val (.ref (A 5)), .val (.ref (A 8)), .val (.ref (A 7)), .val (.ref (A 11)), .val (.double 0), .second, .val (.int (0 : Int32)), .val (.double v221), .second, .val (.int (1 : Int32)), .unset, .unset, .unset, .unset, .unset, .unset, .unset, .unset, .unset, .unset]) rfl ?_
  refine Go.goto d7_106 (q := 67) (by decide) rfl ?_
  refine Go.iload d7_67 (q := 69) rfl rfl ?_
  refine Go.aloadN d7_69 (q := 70) rfl rfl rfl ?_
  refine Go.getF d7_70 (q := 73) rfl (host := "") (Or.inl (w17 hw)) Via.refl C0.fd.starts ?_
  refine Go.iload d7_73 (q := 75) rfl rfl ?_
  refine Go.iconst d7_75 (q := 76) rfl (x := (1 : Int32)) (by decide) ?_
  refine Go.iadd d7_76 (q := 77) rfl ?_
  rw [show ((0 : Int32) + (1 : Int32)) = (1 : Int32) from rfl]
  refine Go.iaload d7_77 (q := 78) rfl (C0.a0).choose_spec (by decide) rfl ?_
  refine Go.icmp_ge d7_78 (q := 109) (q' := 81) (by decide) rfl rfl (fun c_ => absurd (by decide) c_) (fun _ => ?_)
  refine Go.dload d7_81 (q := 83) rfl rfl ?_
  refine Go.aloadN d7_83 (q := 84) rfl rfl rfl ?_
  refine Go.getF d7_84 (q := 87) rfl (host := "") (Or.inl (w23 hw)) Via.refl C0.fd.probabilities ?_
  refine Go.iload d7_87 (q := 89) rfl rfl ?_
  refine Go.daload d7_89 (q := 90) rfl (C0.a3).choose_spec (by decide) rfl ?_
  refine Go.aloadN d7_90 (q := 91) rfl rfl rfl ?_
  refine Go.aloadN d7_91 (q := 92) rfl rfl rfl ?_
  refine Go.getF d7_92 (q := 95) rfl (host := "") (Or.inl (w21 hw)) Via.refl C0.fd.targets ?_
  refine Go.iload d7_95 (q := 97) rfl rfl ?_
  refine Go.iaload d7_97 (q := 98) rfl (C0.a2).choose_spec (by decide) rfl ?_
  refine Go.daload d7_98 (q := 99) rfl (C0.ax).choose_spec t1 hy1 ?_
  refine Go.dmul d7_99 (q := 100) rfl (sx_nn m1) ?_
  refine Go.daddX d7_100 (q := 101) rfl (sx_add sv221 m1 (by omega)) ?_
  intro v224 sv224
  refine Go.dstore d7_101 (q := 103) rfl (Ls' := #[.val (.ref c), .val (.ref ax), .val (.ref (A 4)), .val (.double tol), .second, .val (.int (0 : Int32)), .val (.int (2 : Int32)), .val (.ref (A 5)), .val (.ref (A 8)), .val (.ref (A 7)), .val (.ref (A 11)), .val (.double 0), .second, .val (.int (0 : Int32)), .val (.double v224), .second, .val (.int (1 : Int32)), .unset, .unset, .unset, .unset, .unset, .unset, .unset, .unset, .unset, .unset]) rfl ?_
  refine Go.iinc d7_103 (q := 106) rfl rfl (w := (2 : Int32)) rfl (Ls' := #[.val (.ref c), .val (.ref ax), .val (.ref (A 4)), .val (.double tol), .second, .val (.int (0 : Int32)), .val (.int (2 : Int32)), .val (.ref (A 5)), .val (.ref (A 8)), .val (.ref (A 7)), .val (.ref (A 11)), .val (.double 0), .second, .val (.int (0 : Int32)), .val (.double v224), .second, .val (.int (2 : Int32)), .unset, .unset, .unset, .unset, .unset, .unset, .unset, .unset, .unset, .unset]) rfl ?_
  refine Go.goto d7_106 (q := 67) (by decide) rfl ?_
  refine Go.iload d7_67 (q := 69) rfl rfl ?_
  refine Go.aloadN d7_69 (q := 70) rfl rfl rfl ?_
  refine Go.getF d7_70 (q := 73) rfl (host := "") (Or.inl (w17 hw)) Via.refl C0.fd.starts ?_
  refine Go.iload d7_73 (q := 75) rfl rfl ?_
  refine Go.iconst d7_75 (q := 76) rfl (x := (1 : Int32)) (by decide) ?_
  refine Go.iadd d7_76 (q := 77) rfl ?_
  rw [show ((0 : Int32) + (1 : Int32)) = (1 : Int32) from rfl]
  refine Go.iaload d7_77 (q := 78) rfl (C0.a0).choose_spec (by decide) rfl ?_
  refine Go.icmp_ge d7_78 (q := 109) (q' := 81) (by decide) rfl rfl (fun _ => ?_) (fun c_ => absurd c_ (by decide))
  refine Go.aload d7_109 (q := 111) rfl rfl rfl ?_
  refine Go.iload d7_111 (q := 113) rfl rfl ?_
  refine Go.dload d7_113 (q := 115) rfl rfl ?_
  obtain ⟨kg226, vg226, lg226, Bg226⟩ := C0.a5
  refine Go.dastore d7_115 (q := 116) rfl Bg226 (by decide) (by rw [lg226]; decide) C0.na5 ?_
  intro g226 Wg226
  have Cg226 : CN Z g226 n0 c A ax (-1 : Int32) (2 : Int32) its [(.int (0 : Int32)), (.int (2 : Int32)), (.int (2 : Int32))] [(.int l0), (.int l1)] [(.int g0), (.int g1)] [(.double p0), (.double p1)] [(.double 0), (.double u1)] [(.double x0), (.double x1)] := C0.w5 Wg226
  refine Go.aloadN d7_116 (q := 117) rfl rfl rfl ?_
  refine Go.getF d7_117 (q := 120) rfl (host := "") (Or.inl (w29 hw)) Via.refl Cg226.fd.shadow ?_
  refine Go.iload d7_120 (q := 122) rfl rfl ?_
  refine Go.dload d7_122 (q := 124) rfl rfl ?_
  obtain ⟨kg227, vg227, lg227, Bg227⟩ := Cg226.a6
  refine Go.dastore d7_124 (q := 125) rfl Bg227 (by decide) (by rw [lg227]; decide) Cg226.na6 ?_
  intro g227 Wg227
  have Cg227 : CN Z g227 n0 c A ax (-1 : Int32) (2 : Int32) its [(.int (0 : Int32)), (.int (2 : Int32)), (.int (2 : Int32))] [(.int l0), (.int l1)] [(.int g0), (.int g1)] [(.double p0), (.double p1)] [(.double 0), (.double u1)] [(.double x0), (.double x1)] := Cg226.w6 Wg227
  refine Go.aload d7_125 (q := 127) rfl rfl rfl ?_
  refine Go.iload d7_127 (q := 129) rfl rfl ?_
  refine Go.dconst0 d7_129 (q := 130) rfl ?_
  obtain ⟨kg228, vg228, lg228, Bg228⟩ := Cg227.a7
  refine Go.dastore d7_130 (q := 131) rfl Bg228 (by decide) (by rw [lg228]; decide) Cg227.na7 ?_
  intro g228 Wg228
  have Cg228 : CN Z g228 n0 c A ax (-1 : Int32) (2 : Int32) its [(.int (0 : Int32)), (.int (2 : Int32)), (.int (2 : Int32))] [(.int l0), (.int l1)] [(.int g0), (.int g1)] [(.double p0), (.double p1)] [(.double 0), (.double u1)] [(.double x0), (.double x1)] := Cg227.w7 Wg228
  refine Go.aload d7_131 (q := 133) rfl rfl rfl ?_
  refine Go.iload d7_133 (q := 135) rfl rfl ?_
  refine Go.dconst0 d7_135 (q := 136) rfl ?_
  obtain ⟨kg229, vg229, lg229, Bg229⟩ := Cg228.a8
  refine Go.dastore d7_136 (q := 137) rfl Bg229 (by decide) (by rw [lg229]; decide) Cg228.na8 ?_
  intro g229 Wg229
  have Cg229 : CN Z g229 n0 c A ax (-1 : Int32) (2 : Int32) its [(.int (0 : Int32)), (.int (2 : Int32)), (.int (2 : Int32))] [(.int l0), (.int l1)] [(.int g0), (.int g1)] [(.double p0), (.double p1)] [(.double 0), (.double u1)] [(.double x0), (.double x1)] := Cg228.w8 Wg229
  refine Go.dload d7_137 (q := 139) rfl rfl ?_
  refine Go.dload d7_139 (q := 141) rfl rfl ?_
  refine Go.absD (wd := 2) d7_141 (q := 144) rfl (w66 hw) (w67 hw) (w68 hw) (w69 hw) sv224 rfl (by decide) rfl (by decide) (by decide) (by decide) ?_
  intro v230 sv230
  refine Go.maxD (g := (((((0 - X0) + P0) + P1)).natAbs : Int)) (wd := 0) d7_144 (q := 147) rfl (w70 hw) (w71 hw) (w68 hw) (w72 hw) sx_zero sv230 (Or.inl ⟨by omega, rfl⟩) rfl (by decide) rfl (by decide) (by decide) (by decide) ?_
  intro v231 sv231
  refine Go.dstore d7_147 (q := 149) rfl (Ls' := #[.val (.ref c), .val (.ref ax), .val (.ref (A 4)), .val (.double tol), .second, .val (.int (0 : Int32)), .val (.int (2 : Int32)), .val (.ref (A 5)), .val (.ref (A 8)), .val (.ref (A 7)), .val (.ref (A 11)), .val (.double v231), .second, .val (.int (0 : Int32)), .val (.double v224), .second, .val (.int (2 : Int32)), .unset, .unset, .unset, .unset, .unset, .unset, .unset, .unset, .unset, .unset]) rfl ?_
  refine Go.iinc d7_149 (q := 152) rfl rfl (w := (1 : Int32)) rfl (Ls' := #[.val (.ref c), .val (.ref ax), .val (.ref (A 4)), .val (.double tol), .second, .val (.int (0 : Int32)), .val (.int (2 : Int32)), .val (.ref (A 5)), .val (.ref (A 8)), .val (.ref (A 7)), .val (.ref (A 11)), .val (.double v231), .second, .val (.int (1 : Int32)), .val (.double v224), .second, .val (.int (2 : Int32)), .unset, .unset, .unset, .unset, .unset, .unset, .unset, .unset, .unset, .unset]) rfl ?_
  refine Go.goto d7_152 (q := 40) (by decide) rfl ?_
  refine Go.iload d7_40 (q := 42) rfl rfl ?_
  refine Go.iload d7_42 (q := 44) rfl rfl ?_
  refine Go.icmp_ge d7_44 (q := 155) (q' := 47) (by decide) rfl rfl (fun c_ => absurd (by decide) c_) (fun _ => ?_)
  refine Go.aloadN d7_47 (q := 48) rfl rfl rfl ?_
  refine Go.iload d7_48 (q := 50) rfl rfl ?_
  refine Go.daload d7_50 (q := 51) rfl (Cg229.a4).choose_spec (by decide) rfl ?_
  refine Go.aloadN d7_51 (q := 52) rfl rfl rfl ?_
  refine Go.iload d7_52 (q := 54) rfl rfl ?_
  refine Go.daload d7_54 (q := 55) rfl (Cg229.ax).choose_spec (by decide) rfl ?_
  refine Go.dsubX d7_55 (q := 56) rfl (sx_sub su1 sx1 (by omega)) ?_
  intro v233 sv233
  refine Go.dstore d7_56 (q := 58) rfl (Ls' := #[.val (.ref c), .val (.ref ax), .val (.ref (A 4)), .val (.double tol), .second, .val (.int (0 : Int32)), .val (.int (2 : Int32)), .val (.ref (A 5)), .val (.ref (A 8)), .val (.ref (A 7)), .val (.ref (A 11)), .val (.double v231), .second, .val (.int (1 : Int32)), .val (.double v233), .second, .val (.int (2 : Int32)), .unset, .unset, .unset, .unset, .unset, .unset, .unset, .unset, .unset, .unset]) rfl ?_
  refine Go.aloadN d7_58 (q := 59) rfl rfl rfl ?_
  refine Go.getF d7_59 (q := 62) rfl (host := "") (Or.inl (w17 hw)) Via.refl Cg229.fd.starts ?_
  refine Go.iload d7_62 (q := 64) rfl rfl ?_
  refine Go.iaload d7_64 (q := 65) rfl (Cg229.a0).choose_spec (by decide) rfl ?_
  refine Go.istore d7_65 (q := 67) rfl (Ls' := #[.val (.ref c), .val (.ref ax), .val (.ref (A 4)), .val (.double tol), .second, .val (.int (0 : Int32)), .val (.int (2 : Int32)), .val (.ref (A 5)), .val (.ref (A 8)), .val (.ref (A 7)), .val (.ref (A 11)), .val (.double v231), .second, .val (.int (1 : Int32)), .val (.double v233), .second, .val (.int (2 : Int32)), .unset, .unset, .unset, .unset, .unset, .unset, .unset, .unset, .unset, .unset]) rfl ?_
  refine Go.iload d7_67 (q := 69) rfl rfl ?_
  refine Go.aloadN d7_69 (q := 70) rfl rfl rfl ?_
  refine Go.getF d7_70 (q := 73) rfl (host := "") (Or.inl (w17 hw)) Via.refl Cg229.fd.starts ?_
  refine Go.iload d7_73 (q := 75) rfl rfl ?_
  refine Go.iconst d7_75 (q := 76) rfl (x := (1 : Int32)) (by decide) ?_
  refine Go.iadd d7_76 (q := 77) rfl ?_
  rw [show ((1 : Int32) + (1 : Int32)) = (2 : Int32) from rfl]
  refine Go.iaload d7_77 (q := 78) rfl (Cg229.a0).choose_spec (by decide) rfl ?_
  refine Go.icmp_ge d7_78 (q := 109) (q' := 81) (by decide) rfl rfl (fun _ => ?_) (fun c_ => absurd c_ (by decide))
  refine Go.aload d7_109 (q := 111) rfl rfl rfl ?_
  refine Go.iload d7_111 (q := 113) rfl rfl ?_
  refine Go.dload d7_113 (q := 115) rfl rfl ?_
  obtain ⟨kg235, vg235, lg235, Bg235⟩ := Cg229.a5
  refine Go.dastore d7_115 (q := 116) rfl Bg235 (by decide) (by rw [lg235]; decide) Cg229.na5 ?_
  intro g235 Wg235
  have Cg235 : CN Z g235 n0 c A ax (-1 : Int32) (2 : Int32) its [(.int (0 : Int32)), (.int (2 : Int32)), (.int (2 : Int32))] [(.int l0), (.int l1)] [(.int g0), (.int g1)] [(.double p0), (.double p1)] [(.double 0), (.double u1)] [(.double x0), (.double x1)] := Cg229.w5 Wg235
  refine Go.aloadN d7_116 (q := 117) rfl rfl rfl ?_
  refine Go.getF d7_117 (q := 120) rfl (host := "") (Or.inl (w29 hw)) Via.refl Cg235.fd.shadow ?_
  refine Go.iload d7_120 (q := 122) rfl rfl ?_
  refine Go.dload d7_122 (q := 124) rfl rfl ?_
  obtain ⟨kg236, vg236, lg236, Bg236⟩ := Cg235.a6
  refine Go.dastore d7_124 (q := 125) rfl Bg236 (by decide) (by rw [lg236]; decide) Cg235.na6 ?_
  intro g236 Wg236
  have Cg236 : CN Z g236 n0 c A ax (-1 : Int32) (2 : Int32) its [(.int (0 : Int32)), (.int (2 : Int32)), (.int (2 : Int32))] [(.int l0), (.int l1)] [(.int g0), (.int g1)] [(.double p0), (.double p1)] [(.double 0), (.double u1)] [(.double x0), (.double x1)] := Cg235.w6 Wg236
  refine Go.aload d7_125 (q := 127) rfl rfl rfl ?_
  refine Go.iload d7_127 (q := 129) rfl rfl ?_
  refine Go.dconst0 d7_129 (q := 130) rfl ?_
  obtain ⟨kg237, vg237, lg237, Bg237⟩ := Cg236.a7
  refine Go.dastore d7_130 (q := 131) rfl Bg237 (by decide) (by rw [lg237]; decide) Cg236.na7 ?_
  intro g237 Wg237
  have Cg237 : CN Z g237 n0 c A ax (-1 : Int32) (2 : Int32) its [(.int (0 : Int32)), (.int (2 : Int32)), (.int (2 : Int32))] [(.int l0), (.int l1)] [(.int g0), (.int g1)] [(.double p0), (.double p1)] [(.double 0), (.double u1)] [(.double x0), (.double x1)] := Cg236.w7 Wg237
  refine Go.aload d7_131 (q := 133) rfl rfl rfl ?_
  refine Go.iload d7_133 (q := 135) rfl rfl ?_
  refine Go.dconst0 d7_135 (q := 136) rfl ?_
  obtain ⟨kg238, vg238, lg238, Bg238⟩ := Cg237.a8
  refine Go.dastore d7_136 (q := 137) rfl Bg238 (by decide) (by rw [lg238]; decide) Cg237.na8 ?_
  intro g238 Wg238
  have Cg238 : CN Z g238 n0 c A ax (-1 : Int32) (2 : Int32) its [(.int (0 : Int32)), (.int (2 : Int32)), (.int (2 : Int32))] [(.int l0), (.int l1)] [(.int g0), (.int g1)] [(.double p0), (.double p1)] [(.double 0), (.double u1)] [(.double x0), (.double x1)] := Cg237.w8 Wg238
  refine Go.dload d7_137 (q := 139) rfl rfl ?_
  refine Go.dload d7_139 (q := 141) rfl rfl ?_
  refine Go.absD (wd := 2) d7_141 (q := 144) rfl (w66 hw) (w67 hw) (w68 hw) (w69 hw) sv233 rfl (by decide) rfl (by decide) (by decide) (by decide) ?_
  intro v239 sv239
  refine Go.maxD (g := (((((0 - X0) + P0) + P1)).natAbs : Int)) (wd := 0) d7_144 (q := 147) rfl (w70 hw) (w71 hw) (w68 hw) (w72 hw) sv231 sv239 (Or.inr ⟨by omega, rfl⟩) rfl (by decide) rfl (by decide) (by decide) (by decide) ?_
  intro v240 sv240
  refine Go.dstore d7_147 (q := 149) rfl (Ls' := #[.val (.ref c), .val (.ref ax), .val (.ref (A 4)), .val (.double tol), .second, .val (.int (0 : Int32)), .val (.int (2 : Int32)), .val (.ref (A 5)), .val (.ref (A 8)), .val (.ref (A 7)), .val (.ref (A 11)), .val (.double v240), .second, .val (.int (1 : Int32)), .val (.double v233), .second, .val (.int (2 : Int32)), .unset, .unset, .unset, .unset, .unset, .unset, .unset, .unset, .unset, .unset]) rfl ?_
  refine Go.iinc d7_149 (q := 152) rfl rfl (w := (2 : Int32)) rfl (Ls' := #[.val (.ref c), .val (.ref ax), .val (.ref (A 4)), .val (.double tol), .second, .val (.int (0 : Int32)), .val (.int (2 : Int32)), .val (.ref (A 5)), .val (.ref (A 8)), .val (.ref (A 7)), .val (.ref (A 11)), .val (.double v240), .second, .val (.int (2 : Int32)), .val (.double v233), .second, .val (.int (2 : Int32)), .unset, .unset, .unset, .unset, .unset, .unset, .unset, .unset, .unset, .unset]) rfl ?_
  refine Go.goto d7_152 (q := 40) (by decide) rfl ?_
  refine Go.iload d7_40 (q := 42) rfl rfl ?_
  refine Go.iload d7_42 (q := 44) rfl rfl ?_
  refine Go.icmp_ge d7_44 (q := 155) (q' := 47) (by decide) rfl rfl (fun _ => ?_) (fun c_ => absurd c_ (by decide))
  refine Go.dconst1 d7_155 (q := 156) rfl ?_
  refine Go.dstore d7_156 (q := 158) rfl (Ls' := #[.val (.ref c), .val (.ref ax), .val (.ref (A 4)), .val (.double tol), .second, .val (.int (0 : Int32)), .val (.int (2 : Int32)), .val (.ref (A 5)), .val (.ref (A 8)), .val (.ref (A 7)), .val (.ref (A 11)), .val (.double v240), .second, .val (.double FP.dconst1), .second, .unset, .val (.int (2 : Int32)), .unset, .unset, .unset, .unset, .unset, .unset, .unset, .unset, .unset, .unset]) rfl ?_
  refine Go.dconst1 d7_158 (q := 159) rfl ?_
  refine Go.dstore d7_159 (q := 161) rfl (Ls' := #[.val (.ref c), .val (.ref ax), .val (.ref (A 4)), .val (.double tol), .second, .val (.int (0 : Int32)), .val (.int (2 : Int32)), .val (.ref (A 5)), .val (.ref (A 8)), .val (.ref (A 7)), .val (.ref (A 11)), .val (.double v240), .second, .val (.double FP.dconst1), .second, .val (.double FP.dconst1), .second, .unset, .unset, .unset, .unset, .unset, .unset, .unset, .unset, .unset, .unset]) rfl ?_
  refine Go.dconst1 d7_161 (q := 162) rfl ?_
  refine Go.dstore d7_162 (q := 164) rfl (Ls' := #[.val (.ref c), .val (.ref ax), .val (.ref (A 4)), .val (.double tol), .second, .val (.int (0 : Int32)), .val (.int (2 : Int32)), .val (.ref (A 5)), .val (.ref (A 8)), .val (.ref (A 7)), .val (.ref (A 11)), .val (.double v240), .second, .val (.double FP.dconst1), .second, .val (.double FP.dconst1), .second, .val (.double FP.dconst1), .second, .unset, .unset, .unset, .unset, .unset, .unset, .unset, .unset]) rfl ?_
  refine Go.aloadN d7_164 (q := 165) rfl rfl rfl ?_
  refine Go.iconst d7_165 (q := 166) rfl (x := (0 : Int32)) (by decide) ?_
  refine Go.putF d7_166 (q := 169) rfl (host := "") (Or.inl (w73 hw)) Via.refl Cg238.fd.iterations Cg238.exa (Or.inl (w74 hw)) (w4 hw) pTn rfl rfl Cg238.nc ?_
  intro g242 Wg242
  have Cg242 : CN Z g242 n0 c A ax (-1 : Int32) (2 : Int32) (0 : Int32) [(.int (0 : Int32)), (.int (2 : Int32)), (.int (2 : Int32))] [(.int l0), (.int l1)] [(.int g0), (.int g1)] [(.double p0), (.double p1)] [(.double 0), (.double u1)] [(.double x0), (.double x1)] := Cg238.w_iterations hw Wg242
  refine Go.iconst d7_169 (q := 170) rfl (x := (0 : Int32)) (by decide) ?_
  refine Go.istore d7_170 (q := 172) rfl (Ls' := #[.val (.ref c), .val (.ref ax), .val (.ref (A 4)), .val (.double tol), .second, .val (.int (0 : Int32)), .val (.int (2 : Int32)), .val (.ref (A 5)), .val (.ref (A 8)), .val (.ref (A 7)), .val (.ref (A 11)), .val (.double v240), .second, .val (.double FP.dconst1), .second, .val (.double FP.dconst1), .second, .val (.double FP.dconst1), .second, .val (.int (0 : Int32)), .unset, .unset, .unset, .unset, .unset, .unset, .unset]) rfl ?_
  refine Go.dload d7_172 (q := 174) rfl rfl ?_
  refine Go.dloadN d7_174 (q := 175) rfl rfl ?_
  refine Go.dcmpX d7_175 (q := 176) rfl sv240 sT (cmpI_gt (by omega)) ?_
  refine Go.if_le d7_176 (q := 488) (q' := 179) (by decide) rfl rfl (fun c_ => absurd (by decide) c_) (fun _ => ?_)
  refine Go.iload d7_179 (q := 181) rfl rfl ?_
  refine Go.if_ne d7_181 (q := 488) (q' := 184) (by decide) rfl rfl (fun c_ => absurd (by decide) c_) (fun _ => ?_)
  refine Go.aloadN d7_184 (q := 185) rfl rfl rfl ?_
  refine Go.getF d7_185 (q := 188) rfl (host := "") (Or.inl (w73 hw)) Via.refl Cg242.fd.iterations ?_
  refine Go.iload d7_188 (q := 190) rfl rfl ?_
  refine Go.icmp_ge d7_190 (q := 488) (q' := 193) (by decide) rfl rfl (fun _ => ?_) (fun c_ => absurd c_ (by decide))
  refine Go.dload d7_488 (q := 490) rfl rfl ?_
  refine Go.dloadN d7_490 (q := 491) rfl rfl ?_
  refine Go.dcmpX d7_491 (q := 492) rfl sv240 sT (cmpI_gt (by omega)) ?_
  refine Go.if_gt d7_492 (q := 499) (q' := 495) (by decide) rfl rfl (fun _ => ?_) (fun c_ => absurd (by decide) c_)
  refine Go.iconst d7_499 (q := 500) rfl (x := (0 : Int32)) (by decide) ?_
  refine Go.zreturn d7_500 (by decide) (by decide) (by decide) ?_
  exact hQ g242 Cg242
set_option maxRecDepth 65536 in
set_option maxHeartbeats 40000000 in
theorem sv0_2_gt (l : Launch) (Z : State) (a0 : Array Value) (hw : Hw a0 Z) (n0 : Nat) (h : Heap) {c : Addr} {A : Nat → Addr} {ax : Addr} {its l0 l1 g0 g1 : Int32} {p0 p1 u1 x0 x1 : UInt64} (X0 X1 U1 T P0 P1 : Int) (tol y0 y1 : UInt64) (sx0 : Sx X0 x0) (sx1 : Sx X1 x1) (su1 : Sx U1 u1) (hU : U1 = X1) (bX0 : X0.natAbs ≤ 16384) (bX1 : X1.natAbs ≤ 16384) (sT : Sx T tol) (t0 : ¬ g0 < 0) (hy0 : [Value.double x0, .double x1][g0.toNatClampNeg]? = some (.double y0)) (m0 : Sx P0 (FP.dmul p0 y0)) (bP0 : P0.natAbs ≤ 16384) (t1 : ¬ g1 < 0) (hy1 : [Value.double x0, .double x1][g1.toNatClampNeg]? = some (.double y1)) (m1 : Sx P1 (FP.dmul p1 y1)) (bP1 : P1.natAbs ≤ 16384) (hT : T < ((((0 - X0) + P0) + P1).natAbs : Int)) (C0 : CN Z h n0 c A ax (-1 : Int32) (2 : Int32) its [(.int (0 : Int32)), (.int (2 : Int32)), (.int (2 : Int32))] [(.int l0), (.int l1)] [(.int g0), (.int g1)] [(.double p0), (.double p1)] [(.double 0), (.double u1)] [(.double x0), (.double x1)]) {Q : Option Value → Heap → Prop} (hQ : ∀ h', CN Z h' n0 c A ax (-1 : Int32) (2 : Int32) (0 : Int32) [(.int (0 : Int32)), (.int (2 : Int32)), (.int (2 : Int32))] [(.int l0), (.int l1)] [(.int g0), (.int g1)] [(.double p0), (.double p1)] [(.double 0), (.double u1)] [(.double x0), (.double x1)] → Q (some (.int 0)) h') :
    Go l Z (⟨"com/example/nona/nona/solver/ApproximateChain", "solve", "([D[DDI)Z"⟩ : MethodName) prog_136_method_8_code 27 (some .boolean) ({ frames := 1, cells := 0, slots := 0, locals := 18 } : Room) n0 Q h 0 0 0 #[.val (.ref c), .val (.ref ax), .val (.ref (A 4)), .val (.double tol), .second, .val (.int (0 : Int32)), .unset, .unset, .unset, .unset, .unset, .unset, .unset, .unset, .unset, .unset, .unset, .unset, .unset, .unset, .unset, .unset, .unset, .unset, .unset, .unset, .unset] [] := by
  refine Go.aloadN d7_0 (q := 1) rfl rfl rfl ?_
  refine Go.callPN (P := fun h' => h = h') (argsL := []) (rest := []) (wd := 0) (Ls1 := #[.val (.ref c), .unset, .unset, .unset, .unset, .unset, .unset]) d7_1 (q := 4) rfl (w46 hw) (w48 hw) (w44 hw) rfl (w47 hw) (w49 hw) (w5 hw) (by decide) pn4 pd4 rfl rfl C0.exa (fun m_ => by simp [entryFrame, mkF, argsToLocals, Value.category]) rfl (by decide) rfl (by decide) (by decide) (by decide) (closeN l Z a0 hw n0 h C0 (Q := RN (fun h' => h = h')) ⟨rfl, rfl⟩) ?_
  rintro _ rfl
  exact sv4_2_gt l Z a0 hw n0 h X0 X1 U1 T P0 P1 tol y0 y1 sx0 sx1 su1 hU bX0 bX1 sT t0 hy0 m0 bP0 t1 hy1 m1 bP1 hT C0 hQ
set_option maxRecDepth 65536 in
set_option maxHeartbeats 40000000 in
theorem s3_2_gt (l : Launch) (Z : State) (a0 : Array Value) (hw : Hw a0 Z) (n0 : Nat) (h : Heap) {c : Addr} {A : Nat → Addr} {ax : Addr} {its l0 l1 g0 g1 : Int32} {p0 p1 u1 x0 x1 : UInt64} (X0 X1 U1 T P0 P1 : Int) (tol y0 y1 : UInt64) (sx0 : Sx X0 x0) (sx1 : Sx X1 x1) (su1 : Sx U1 u1) (hU : U1 = X1) (bX0 : X0.natAbs ≤ 16384) (bX1 : X1.natAbs ≤ 16384) (sT : Sx T tol) (t0 : ¬ g0 < 0) (hy0 : [Value.double x0, .double x1][g0.toNatClampNeg]? = some (.double y0)) (m0 : Sx P0 (FP.dmul p0 y0)) (bP0 : P0.natAbs ≤ 16384) (t1 : ¬ g1 < 0) (hy1 : [Value.double x0, .double x1][g1.toNatClampNeg]? = some (.double y1)) (m1 : Sx P1 (FP.dmul p1 y1)) (bP1 : P1.natAbs ≤ 16384) (hT : T < ((((0 - X0) + P0) + P1).natAbs : Int)) (C0 : CN Z h n0 c A ax (-1 : Int32) (2 : Int32) its [(.int (0 : Int32)), (.int (2 : Int32)), (.int (2 : Int32))] [(.int l0), (.int l1)] [(.int g0), (.int g1)] [(.double p0), (.double p1)] [(.double 0), (.double u1)] [(.double x0), (.double x1)]) {Q : Option Value → Heap → Prop} (hQ : ∀ h', CN Z h' n0 c A ax (-1 : Int32) (2 : Int32) (0 : Int32) [(.int (0 : Int32)), (.int (2 : Int32)), (.int (2 : Int32))] [(.int l0), (.int l1)] [(.int g0), (.int g1)] [(.double p0), (.double p1)] [(.double 0), (.double u1)] [(.double x0), (.double x1)] → Q (some (.int 0)) h') :
    Go l Z (⟨"com/example/nona/nona/solver/ApproximateChain", "solve", "([DDI)Z"⟩ : MethodName) prog_136_method_6_code 5 (some .boolean) ({ frames := 2, cells := 0, slots := 0, locals := 56 } : Room) n0 Q h 0 0 0 #[.val (.ref c), .val (.ref ax), .val (.double tol), .second, .val (.int (0 : Int32))] [] := by
  refine Go.aloadN d6_0 (q := 1) rfl rfl rfl ?_
  refine Go.aloadN d6_1 (q := 2) rfl rfl rfl ?_
  refine Go.aloadN d6_2 (q := 3) rfl rfl rfl ?_
  refine Go.getF d6_3 (q := 6) rfl (host := "") (Or.inl (w25 hw)) Via.refl C0.fd.gains ?_
  refine Go.dloadN d6_6 (q := 7) rfl rfl ?_
  refine Go.iload d6_7 (q := 9) rfl rfl ?_
  refine Go.callPV (P := fun w_ h' => w_ = .int 0 ∧ CN Z h' n0 c A ax (-1 : Int32) (2 : Int32) (0 : Int32) [(.int (0 : Int32)), (.int (2 : Int32)), (.int (2 : Int32))] [(.int l0), (.int l1)] [(.int g0), (.int g1)] [(.double p0), (.double p1)] [(.double 0), (.double u1)] [(.double x0), (.double x1)]) (argsL := [(.ref ax), (.ref (A 4)), (.double tol), (.int (0 : Int32))]) (rest := []) (wd := 0) (Ls1 := #[.val (.ref c), .val (.ref ax), .val (.ref (A 4)), .val (.double tol), .second, .val (.int (0 : Int32)), .unset, .unset, .unset, .unset, .unset, .unset, .unset, .unset, .unset, .unset, .unset, .unset, .unset, .unset, .unset, .unset, .unset, .unset, .unset, .unset, .unset]) d6_9 (q := 12) rfl (w62 hw) (w64 hw) (w44 hw) rfl (w63 hw) (w65 hw) (w5 hw) (by decide) pn7 pd7 rfl rfl C0.exa (fun m_ => by simp [entryFrame, mkF, argsToLocals, Value.category]) rfl (by decide) rfl (by decide) (by decide) (by decide) (sv0_2_gt l Z a0 hw n0 h X0 X1 U1 T P0 P1 tol y0 y1 sx0 sx1 su1 hU bX0 bX1 sT t0 hy0 m0 bP0 t1 hy1 m1 bP1 hT C0 (Q := RV (fun w_ h' => w_ = .int 0 ∧ CN Z h' n0 c A ax (-1 : Int32) (2 : Int32) (0 : Int32) [(.int (0 : Int32)), (.int (2 : Int32)), (.int (2 : Int32))] [(.int l0), (.int l1)] [(.int g0), (.int g1)] [(.double p0), (.double p1)] [(.double 0), (.double u1)] [(.double x0), (.double x1)])) (fun h' q => ⟨_, rfl, rfl, q⟩)) ?_
  rintro _ g247 ⟨rfl, Cg247⟩
  refine Go.zreturn d6_12 (by decide) (by decide) (by decide) ?_
  exact hQ g247 Cg247
set_option maxRecDepth 65536 in
set_option maxHeartbeats 40000000 in
theorem law74_0 (l : Launch) (Z : State) (a0 : Array Value) (hw : Hw a0 Z) (n0 : Nat) (h : Heap) (O : Old Z n0 h) (a b cc d fl : Int32) (x0 x1 p1 p2 : UInt64) (t1 t2 : Int32) (X0 X1 P1 P2 : Int) (y1 y2 : UInt64) (sx0 : Sx X0 x0) (sx1 : Sx X1 x1) (bX0 : X0.natAbs ≤ 16384) (bX1 : X1.natAbs ≤ 16384) (t1n : ¬ t1 < 0) (hy1 : [Value.double x0, .double x1][t1.toNatClampNeg]? = some (.double y1)) (m1 : Sx P1 (FP.dmul p1 y1)) (bP1 : P1.natAbs ≤ 16384) (t2n : ¬ t2 < 0) (hy2 : [Value.double x0, .double x1][t2.toNatClampNeg]? = some (.double y2)) (m2 : Sx P2 (FP.dmul p2 y2)) (bP2 : P2.natAbs ≤ 16384) :
    Go l Z x code maxLocals ret room_1 n0 (fun v _ => v = some (.int 1)) h 0 0 74 #[.val (.int a), .val (.int b), .val (.int cc), .val (.int d), .val (.int fl), .val (.double x0), .second, .val (.double x1), .second, .val (.double p1), .second, .val (.double p2), .second, .val (.int t1), .val (.int t2), .val (.int (0 : Int32)), .unset, .unset, .unset, .unset, .unset, .unset, .unset, .unset] [] := by
  refine Go.iconst at_74 (q := 75) rfl (x := (2 : Int32)) (by decide) ?_
  refine Go.newarray (cap := 2) at_75 (q := 77) rfl (w2 hw) (by decide) (by decide) (by decide) (by decide) (by decide) ?_
  intro h1 ax kx e1 X1_ B1
  have nx : n0 ≤ ax := new_le (O.1 ▸ O.2.1) e1
  have O1 := O.ext X1_
  refine Go.dup at_77 (q := 78) rfl rfl ?_
  refine Go.iconst at_78 (q := 79) rfl (x := (0 : Int32)) (by decide) ?_
  refine Go.dload at_79 (q := 81) rfl rfl ?_
  refine Go.dastore at_81 (q := 82) rfl B1 (by decide) (by exact (by decide : (0 : Nat) < 2)) nx ?_
  intro h2 W2
  have O2 := O1.wr W2 nx
  have B2 : Ar Z h2 ax .double kx [.double x0, .double 0] := B1.set W2
  refine Go.dup at_82 (q := 83) rfl rfl ?_
  refine Go.iconst at_83 (q := 84) rfl (x := (1 : Int32)) (by decide) ?_
  refine Go.dload at_84 (q := 86) rfl rfl ?_
  refine Go.dastore at_86 (q := 87) rfl B2 (by decide) (by exact (by decide : (1 : Nat) < 2)) nx ?_
  intro h3 W3
  have O3 := O2.wr W3 nx
  have B3 : Ar Z h3 ax .double kx [.double x0, .double x1] := B2.set W3
  refine Go.astore at_87 (q := 89) rfl rfl (Ls' := #[.val (.int a), .val (.int b), .val (.int cc), .val (.int d), .val (.int fl), .val (.double x0), .second, .val (.double x1), .second, .val (.double p1), .second, .val (.double p2), .second, .val (.int t1), .val (.int t2), .val (.int (0 : Int32)), .val (.ref ax), .unset, .unset, .unset, .unset, .unset, .unset, .unset]) rfl ?_
  refine Go.new at_89 (q := 92) rfl (w3 hw) (w4 hw) (w5 hw) (by decide) (by decide) ?_
  intro h4 c e4 X4 E4 D4
  have nc : n0 ≤ c := new_le (O3.1 ▸ O3.2.1) e4
  have O4 := O3.ext X4
  have B4 := B3.ext X4
  have hax : @LT.lt Nat instLTNat ax c := by rw [e4]; exact B3.lt
  have F4 : FD Z h4 c (.int 0) (.int 0) .null .null .null .null .null .null .null .null .null .null .null .null (.int 0) (.int 0) := ⟨D4 (Or.inl (w13 hw)) pTn, D4 (Or.inr (w15 hw)) pTn, D4 (Or.inr (w18 hw)) pTi, D4 (Or.inr (w20 hw)) pTi, D4 (Or.inr (w22 hw)) pTi, D4 (Or.inr (w24 hw)) pTd, D4 (Or.inr (w26 hw)) pTd, D4 (Or.inr (w28 hw)) pTd, D4 (Or.inr (w30 hw)) pTd, D4 (Or.inr (w32 hw)) pTd, D4 (Or.inr (w34 hw)) pTd, D4 (Or.inr (w36 hw)) pTd, D4 (Or.inr (w38 hw)) pTd, D4 (Or.inr (w40 hw)) pTd, D4 (Or.inl (w51 hw)) pTn, D4 (Or.inl (w74 hw)) pTn⟩
  refine Go.dup at_92 (q := 93) rfl rfl ?_
  refine Go.iconst at_93 (q := 94) rfl (x := (2 : Int32)) (by decide) ?_
  refine Go.iconst at_94 (q := 95) rfl (x := (2 : Int32)) (by decide) ?_
  refine Go.callIN (P := fun h' => ∃ A, CN Z h' n0 c A ax (-1 : Int32) (0 : Int32) (0 : Int32) [(.int (0 : Int32)), (.int (0 : Int32)), (.int (0 : Int32))] [(.int (0 : Int32)), (.int (0 : Int32))] [(.int (0 : Int32)), (.int (0 : Int32))] [(.double 0), (.double 0)] [(.double 0), (.double 0)] [(.double x0), (.double x1)]) (argsL := [(.int (2 : Int32)), (.int (2 : Int32))]) (rest := [(.ref c)]) (wd := 1) (Ls1 := #[.val (.ref c), .val (.int (2 : Int32)), .val (.int (2 : Int32))]) at_95 (q := 98) rfl rfl (w6 hw) (w7 hw) (w5 hw) (w8 hw) (by decide) pn1 pd1 rfl rfl (fun m_ => by simp [entryFrame, mkF, argsToLocals, Value.category]) rfl (by decide) rfl (by decide) (by decide) (by decide) (ini l Z a0 hw n0 h4 O4 c nc E4 F4 ax hax kx x0 x1 B4 (Q := RN (fun h' => ∃ A, CN Z h' n0 c A ax (-1 : Int32) (0 : Int32) (0 : Int32) [(.int (0 : Int32)), (.int (0 : Int32)), (.int (0 : Int32))] [(.int (0 : Int32)), (.int (0 : Int32))] [(.int (0 : Int32)), (.int (0 : Int32))] [(.double 0), (.double 0)] [(.double 0), (.double 0)] [(.double x0), (.double x1)])) (fun h' A q => ⟨rfl, A, q⟩)) ?_
  rintro h5 ⟨A, C5⟩
  refine Go.astore at_98 (q := 100) rfl rfl (Ls' := #[.val (.int a), .val (.int b), .val (.int cc), .val (.int d), .val (.int fl), .val (.double x0), .second, .val (.double x1), .second, .val (.double p1), .second, .val (.double p2), .second, .val (.int t1), .val (.int t2), .val (.int (0 : Int32)), .val (.ref ax), .val (.ref c), .unset, .unset, .unset, .unset, .unset, .unset]) rfl ?_
  refine Go.aload at_100 (q := 102) rfl rfl rfl ?_
  refine Go.iconst at_102 (q := 103) rfl (x := (0 : Int32)) (by decide) ?_
  refine Go.callVN (P := fun h' => CN Z h' n0 c A ax (0 : Int32) (0 : Int32) (0 : Int32) [(.int (0 : Int32)), (.int (0 : Int32)), (.int (0 : Int32))] [(.int (0 : Int32)), (.int (0 : Int32))] [(.int (0 : Int32)), (.int (0 : Int32))] [(.double 0), (.double 0)] [(.double 0), (.double 0)] [(.double x0), (.double x1)]) (argsL := [(.int (0 : Int32))]) (rest := []) (wd := 0) (Ls1 := #[.val (.ref c), .val (.int (0 : Int32))]) at_103 (q := 106) rfl (w41 hw) (w42 hw) (w44 hw) (w43 hw) (w45 hw) (w5 hw) (by decide) pn3 pd3 rfl rfl C5.exa (fun m_ => by simp [entryFrame, mkF, argsToLocals, Value.category]) rfl (by decide) rfl (by decide) (by decide) (by decide) (state0 l Z a0 hw n0 h5 C5 (Q := RN (fun h' => CN Z h' n0 c A ax (0 : Int32) (0 : Int32) (0 : Int32) [(.int (0 : Int32)), (.int (0 : Int32)), (.int (0 : Int32))] [(.int (0 : Int32)), (.int (0 : Int32))] [(.int (0 : Int32)), (.int (0 : Int32))] [(.double 0), (.double 0)] [(.double 0), (.double 0)] [(.double x0), (.double x1)])) (fun h' q => ⟨rfl, q⟩)) ?_
  intro g248 Cg248
  refine Go.dload at_106 (q := 108) rfl rfl ?_
  refine Go.dnegX at_108 (q := 109) rfl sx0 ?_
  intro v249 sv249
  refine Go.dstore at_109 (q := 111) rfl (Ls' := #[.val (.int a), .val (.int b), .val (.int cc), .val (.int d), .val (.int fl), .val (.double x0), .second, .val (.double x1), .second, .val (.double p1), .second, .val (.double p2), .second, .val (.int t1), .val (.int t2), .val (.int (0 : Int32)), .val (.ref ax), .val (.ref c), .val (.double v249), .second, .unset, .unset, .unset, .unset]) rfl ?_
  refine Go.iload at_111 (q := 113) rfl rfl ?_
  refine Go.iconst at_113 (q := 114) rfl (x := (1 : Int32)) (by decide) ?_
  refine Go.icmp_lt at_114 (q := 139) (q' := 117) (by decide) rfl rfl (fun _ => ?_) (fun c_ => absurd (by decide) c_)
  refine Go.iload at_139 (q := 141) rfl rfl ?_
  refine Go.iconst at_141 (q := 142) rfl (x := (2 : Int32)) (by decide) ?_
  refine Go.icmp_lt at_142 (q := 167) (q' := 145) (by decide) rfl rfl (fun _ => ?_) (fun c_ => absurd (by decide) c_)
  refine Go.aload at_167 (q := 169) rfl rfl rfl ?_
  refine Go.iconst at_169 (q := 170) rfl (x := (1 : Int32)) (by decide) ?_
  refine Go.callVN (P := fun h' => CN Z h' n0 c A ax (1 : Int32) (0 : Int32) (0 : Int32) [(.int (0 : Int32)), (.int (0 : Int32)), (.int (0 : Int32))] [(.int (0 : Int32)), (.int (0 : Int32))] [(.int (0 : Int32)), (.int (0 : Int32))] [(.double 0), (.double 0)] [(.double 0), (.double 0)] [(.double x0), (.double x1)]) (argsL := [(.int (1 : Int32))]) (rest := []) (wd := 0) (Ls1 := #[.val (.ref c), .val (.int (1 : Int32))]) at_170 (q := 173) rfl (w41 hw) (w42 hw) (w44 hw) (w43 hw) (w45 hw) (w5 hw) (by decide) pn3 pd3 rfl rfl Cg248.exa (fun m_ => by simp [entryFrame, mkF, argsToLocals, Value.category]) rfl (by decide) rfl (by decide) (by decide) (by decide) (state1_0 l Z a0 hw n0 g248 (by decide) (by decide) Cg248 (Q := RN (fun h' => CN Z h' n0 c A ax (1 : Int32) (0 : Int32) (0 : Int32) [(.int (0 : Int32)), (.int (0 : Int32)), (.int (0 : Int32))] [(.int (0 : Int32)), (.int (0 : Int32))] [(.int (0 : Int32)), (.int (0 : Int32))] [(.double 0), (.double 0)] [(.double 0), (.double 0)] [(.double x0), (.double x1)])) (fun h' q => ⟨rfl, q⟩)) ?_
  intro g252 Cg252
  refine Go.aload at_173 (q := 175) rfl rfl rfl ?_
  refine Go.dload at_175 (q := 177) rfl rfl ?_
  refine Go.callVN (P := fun h' => ∃ v, Sx (0 + X1) v ∧ CN Z h' n0 c A ax (1 : Int32) (0 : Int32) (0 : Int32) [(.int (0 : Int32)), (.int (0 : Int32)), (.int (0 : Int32))] [(.int (0 : Int32)), (.int (0 : Int32))] [(.int (0 : Int32)), (.int (0 : Int32))] [(.double 0), (.double 0)] [(.double 0), (.double v)] [(.double x0), (.double x1)]) (argsL := [(.double x1)]) (rest := []) (wd := 0) (Ls1 := #[.val (.ref c), .val (.double x1), .second]) at_177 (q := 180) rfl (w52 hw) (w53 hw) (w55 hw) (w54 hw) (w56 hw) (w5 hw) (by decide) pn5 pd5 rfl rfl Cg252.exa (fun m_ => by simp [entryFrame, mkF, argsToLocals, Value.category]) rfl (by decide) rfl (by decide) (by decide) (by decide) (gain l Z a0 hw n0 g252 x1 sx1 bX1 Cg252 (Q := RN (fun h' => ∃ v, Sx (0 + X1) v ∧ CN Z h' n0 c A ax (1 : Int32) (0 : Int32) (0 : Int32) [(.int (0 : Int32)), (.int (0 : Int32)), (.int (0 : Int32))] [(.int (0 : Int32)), (.int (0 : Int32))] [(.int (0 : Int32)), (.int (0 : Int32))] [(.double 0), (.double 0)] [(.double 0), (.double v)] [(.double x0), (.double x1)])) (fun h' v q1 q2 => ⟨rfl, v, q1, q2⟩)) ?_
  rintro g253 ⟨u1, su1, Cg253⟩
  refine Go.dload at_180 (q := 182) rfl rfl ?_
  refine Go.dconst0 at_182 (q := 183) rfl ?_
  rcases Int.lt_trichotomy (-X0) 0 with q | q | q
  · skip
    refine Go.dcmpX at_183 (q := 184) rfl sv249 sx_zero (cmpI_lt q) ?_
    refine Go.if_ge at_184 (q := 193) (q' := 187) (by decide) rfl rfl (fun c_ => absurd (by decide) c_) (fun _ => ?_)
    refine Go.dload at_187 (q := 189) rfl rfl ?_
    refine Go.dnegX at_189 (q := 190) rfl sv249 ?_
    intro v255 sv255
    refine Go.goto at_190 (q := 195) (by decide) rfl ?_
    refine Go.dstore at_195 (q := 197) rfl (Ls' := #[.val (.int a), .val (.int b), .val (.int cc), .val (.int d), .val (.int fl), .val (.double x0), .second, .val (.double x1), .second, .val (.double p1), .second, .val (.double p2), .second, .val (.int t1), .val (.int t2), .val (.int (0 : Int32)), .val (.ref ax), .val (.ref c), .val (.double v249), .second, .val (.double v255), .second, .unset, .unset]) rfl ?_
    refine Go.aload at_197 (q := 199) rfl rfl rfl ?_
    refine Go.aload at_199 (q := 201) rfl rfl rfl ?_
    refine Go.dload at_201 (q := 203) rfl rfl ?_
    refine Go.iconst at_203 (q := 204) rfl (x := (0 : Int32)) (by decide) ?_
    refine Go.callVV (P := fun w_ h' => w_ = .int 1 ∧ CN Z h' n0 c A ax (-1 : Int32) (0 : Int32) (0 : Int32) [(.int (0 : Int32)), (.int (0 : Int32)), (.int (0 : Int32))] [(.int (0 : Int32)), (.int (0 : Int32))] [(.int (0 : Int32)), (.int (0 : Int32))] [(.double 0), (.double 0)] [(.double 0), (.double u1)] [(.double x0), (.double x1)]) (argsL := [(.ref ax), (.double v255), (.int (0 : Int32))]) (rest := []) (wd := 0) (Ls1 := #[.val (.ref c), .val (.ref ax), .val (.double v255), .second, .val (.int (0 : Int32))]) at_204 (q := 207) rfl (w57 hw) (w58 hw) (w60 hw) (w59 hw) (w61 hw) (w5 hw) (by decide) pn6 pd6 rfl rfl Cg253.exa (fun m_ => by simp [entryFrame, mkF, argsToLocals, Value.category]) rfl (by decide) rfl (by decide) (by decide) (by decide) (s3_0_eq l Z a0 hw n0 g253 X0 X1 (0 + X1) (-(-X0))  v255  sx0 sx1 su1 (by omega) bX0 bX1 sv255  (by omega) Cg253 (Q := RV (fun w_ h' => w_ = .int 1 ∧ CN Z h' n0 c A ax (-1 : Int32) (0 : Int32) (0 : Int32) [(.int (0 : Int32)), (.int (0 : Int32)), (.int (0 : Int32))] [(.int (0 : Int32)), (.int (0 : Int32))] [(.int (0 : Int32)), (.int (0 : Int32))] [(.double 0), (.double 0)] [(.double 0), (.double u1)] [(.double x0), (.double x1)])) (fun h' q => ⟨_, rfl, rfl, q⟩)) ?_
    rintro _ g256 ⟨rfl, Cg256⟩
    refine Go.istore at_207 (q := 209) rfl (Ls' := #[.val (.int a), .val (.int b), .val (.int cc), .val (.int d), .val (.int fl), .val (.double x0), .second, .val (.double x1), .second, .val (.double p1), .second, .val (.double p2), .second, .val (.int t1), .val (.int t2), .val (.int (0 : Int32)), .val (.ref ax), .val (.ref c), .val (.double v249), .second, .val (.double v255), .second, .val (.int (1 : Int32)), .unset]) rfl ?_
    refine Go.aload at_209 (q := 211) rfl rfl rfl ?_
    refine Go.aload at_211 (q := 213) rfl rfl rfl ?_
    refine Go.dload at_213 (q := 215) rfl rfl ?_
    refine Go.ldc2D at_215 (q := 218) rfl (v := (4584664420663164928 : UInt64)) (w75 hw) ?_
    refine Go.dsubX at_218 (q := 219) rfl (sx_sub sv255 sx_32 (by omega)) ?_
    intro v257 sv257
    refine Go.iconst at_219 (q := 220) rfl (x := (0 : Int32)) (by decide) ?_
    refine Go.callVV (P := fun w_ h' => w_ = .int 0 ∧ CN Z h' n0 c A ax (-1 : Int32) (0 : Int32) (0 : Int32) [(.int (0 : Int32)), (.int (0 : Int32)), (.int (0 : Int32))] [(.int (0 : Int32)), (.int (0 : Int32))] [(.int (0 : Int32)), (.int (0 : Int32))] [(.double 0), (.double 0)] [(.double 0), (.double u1)] [(.double x0), (.double x1)]) (argsL := [(.ref ax), (.double v257), (.int (0 : Int32))]) (rest := []) (wd := 0) (Ls1 := #[.val (.ref c), .val (.ref ax), .val (.double v257), .second, .val (.int (0 : Int32))]) at_220 (q := 223) rfl (w57 hw) (w58 hw) (w60 hw) (w59 hw) (w61 hw) (w5 hw) (by decide) pn6 pd6 rfl rfl Cg256.exa (fun m_ => by simp [entryFrame, mkF, argsToLocals, Value.category]) rfl (by decide) rfl (by decide) (by decide) (by decide) (s3_0_gt l Z a0 hw n0 g256 X0 X1 (0 + X1) ((-(-X0)) - 1)  v257  sx0 sx1 su1 (by omega) bX0 bX1 sv257  (by omega) Cg256 (Q := RV (fun w_ h' => w_ = .int 0 ∧ CN Z h' n0 c A ax (-1 : Int32) (0 : Int32) (0 : Int32) [(.int (0 : Int32)), (.int (0 : Int32)), (.int (0 : Int32))] [(.int (0 : Int32)), (.int (0 : Int32))] [(.int (0 : Int32)), (.int (0 : Int32))] [(.double 0), (.double 0)] [(.double 0), (.double u1)] [(.double x0), (.double x1)])) (fun h' q => ⟨_, rfl, rfl, q⟩)) ?_
    rintro _ g258 ⟨rfl, Cg258⟩
    refine Go.istore at_223 (q := 225) rfl (Ls' := #[.val (.int a), .val (.int b), .val (.int cc), .val (.int d), .val (.int fl), .val (.double x0), .second, .val (.double x1), .second, .val (.double p1), .second, .val (.double p2), .second, .val (.int t1), .val (.int t2), .val (.int (0 : Int32)), .val (.ref ax), .val (.ref c), .val (.double v249), .second, .val (.double v255), .second, .val (.int (1 : Int32)), .val (.int (0 : Int32))]) rfl ?_
    refine Go.iload at_225 (q := 227) rfl rfl ?_
    refine Go.if_eq at_227 (q := 239) (q' := 230) (by decide) rfl rfl (fun c_ => absurd c_ (by decide)) (fun _ => ?_)
    refine Go.iload at_230 (q := 232) rfl rfl ?_
    refine Go.if_ne at_232 (q := 239) (q' := 235) (by decide) rfl rfl (fun c_ => absurd (by decide) c_) (fun _ => ?_)
    refine Go.iconst at_235 (q := 236) rfl (x := (1 : Int32)) (by decide) ?_
    refine Go.goto at_236 (q := 240) (by decide) rfl ?_
    refine Go.zreturn at_240 (by decide) (by decide) (by decide) ?_
    exact rfl
  · skip
    refine Go.dcmpX at_183 (q := 184) rfl sv249 sx_zero (cmpI_eq q) ?_
    refine Go.if_ge at_184 (q := 193) (q' := 187) (by decide) rfl rfl (fun _ => ?_) (fun c_ => absurd c_ (by decide))
    refine Go.dload at_193 (q := 195) rfl rfl ?_
    refine Go.dstore at_195 (q := 197) rfl (Ls' := #[.val (.int a), .val (.int b), .val (.int cc), .val (.int d), .val (.int fl), .val (.double x0), .second, .val (.double x1), .second, .val (.double p1), .second, .val (.double p2), .second, .val (.int t1), .val (.int t2), .val (.int (0 : Int32)), .val (.ref ax), .val (.ref c), .val (.double v249), .second, .val (.double v249), .second, .unset, .unset]) rfl ?_
    refine Go.aload at_197 (q := 199) rfl rfl rfl ?_
    refine Go.aload at_199 (q := 201) rfl rfl rfl ?_
    refine Go.dload at_201 (q := 203) rfl rfl ?_
    refine Go.iconst at_203 (q := 204) rfl (x := (0 : Int32)) (by decide) ?_
    refine Go.callVV (P := fun w_ h' => w_ = .int 1 ∧ CN Z h' n0 c A ax (-1 : Int32) (0 : Int32) (0 : Int32) [(.int (0 : Int32)), (.int (0 : Int32)), (.int (0 : Int32))] [(.int (0 : Int32)), (.int (0 : Int32))] [(.int (0 : Int32)), (.int (0 : Int32))] [(.double 0), (.double 0)] [(.double 0), (.double u1)] [(.double x0), (.double x1)]) (argsL := [(.ref ax), (.double v249), (.int (0 : Int32))]) (rest := []) (wd := 0) (Ls1 := #[.val (.ref c), .val (.ref ax), .val (.double v249), .second, .val (.int (0 : Int32))]) at_204 (q := 207) rfl (w57 hw) (w58 hw) (w60 hw) (w59 hw) (w61 hw) (w5 hw) (by decide) pn6 pd6 rfl rfl Cg253.exa (fun m_ => by simp [entryFrame, mkF, argsToLocals, Value.category]) rfl (by decide) rfl (by decide) (by decide) (by decide) (s3_0_eq l Z a0 hw n0 g253 X0 X1 (0 + X1) (-X0)  v249  sx0 sx1 su1 (by omega) bX0 bX1 sv249  (by omega) Cg253 (Q := RV (fun w_ h' => w_ = .int 1 ∧ CN Z h' n0 c A ax (-1 : Int32) (0 : Int32) (0 : Int32) [(.int (0 : Int32)), (.int (0 : Int32)), (.int (0 : Int32))] [(.int (0 : Int32)), (.int (0 : Int32))] [(.int (0 : Int32)), (.int (0 : Int32))] [(.double 0), (.double 0)] [(.double 0), (.double u1)] [(.double x0), (.double x1)])) (fun h' q => ⟨_, rfl, rfl, q⟩)) ?_
    rintro _ g262 ⟨rfl, Cg262⟩
    refine Go.istore at_207 (q := 209) rfl (Ls' := #[.val (.int a), .val (.int b), .val (.int cc), .val (.int d), .val (.int fl), .val (.double x0), .second, .val (.double x1), .second, .val (.double p1), .second, .val (.double p2), .second, .val (.int t1), .val (.int t2), .val (.int (0 : Int32)), .val (.ref ax), .val (.ref c), .val (.double v249), .second, .val (.double v249), .second, .val (.int (1 : Int32)), .unset]) rfl ?_
    refine Go.aload at_209 (q := 211) rfl rfl rfl ?_
    refine Go.aload at_211 (q := 213) rfl rfl rfl ?_
    refine Go.dload at_213 (q := 215) rfl rfl ?_
    refine Go.ldc2D at_215 (q := 218) rfl (v := (4584664420663164928 : UInt64)) (w75 hw) ?_
    refine Go.dsubX at_218 (q := 219) rfl (sx_sub sv249 sx_32 (by omega)) ?_
    intro v263 sv263
    refine Go.iconst at_219 (q := 220) rfl (x := (0 : Int32)) (by decide) ?_
    refine Go.callVV (P := fun w_ h' => w_ = .int 0 ∧ CN Z h' n0 c A ax (-1 : Int32) (0 : Int32) (0 : Int32) [(.int (0 : Int32)), (.int (0 : Int32)), (.int (0 : Int32))] [(.int (0 : Int32)), (.int (0 : Int32))] [(.int (0 : Int32)), (.int (0 : Int32))] [(.double 0), (.double 0)] [(.double 0), (.double u1)] [(.double x0), (.double x1)]) (argsL := [(.ref ax), (.double v263), (.int (0 : Int32))]) (rest := []) (wd := 0) (Ls1 := #[.val (.ref c), .val (.ref ax), .val (.double v263), .second, .val (.int (0 : Int32))]) at_220 (q := 223) rfl (w57 hw) (w58 hw) (w60 hw) (w59 hw) (w61 hw) (w5 hw) (by decide) pn6 pd6 rfl rfl Cg262.exa (fun m_ => by simp [entryFrame, mkF, argsToLocals, Value.category]) rfl (by decide) rfl (by decide) (by decide) (by decide) (s3_0_gt l Z a0 hw n0 g262 X0 X1 (0 + X1) ((-X0) - 1)  v263  sx0 sx1 su1 (by omega) bX0 bX1 sv263  (by omega) Cg262 (Q := RV (fun w_ h' => w_ = .int 0 ∧ CN Z h' n0 c A ax (-1 : Int32) (0 : Int32) (0 : Int32) [(.int (0 : Int32)), (.int (0 : Int32)), (.int (0 : Int32))] [(.int (0 : Int32)), (.int (0 : Int32))] [(.int (0 : Int32)), (.int (0 : Int32))] [(.double 0), (.double 0)] [(.double 0), (.double u1)] [(.double x0), (.double x1)])) (fun h' q => ⟨_, rfl, rfl, q⟩)) ?_
    rintro _ g264 ⟨rfl, Cg264⟩
    refine Go.istore at_223 (q := 225) rfl (Ls' := #[.val (.int a), .val (.int b), .val (.int cc), .val (.int d), .val (.int fl), .val (.double x0), .second, .val (.double x1), .second, .val (.double p1), .second, .val (.double p2), .second, .val (.int t1), .val (.int t2), .val (.int (0 : Int32)), .val (.ref ax), .val (.ref c), .val (.double v249), .second, .val (.double v249), .second, .val (.int (1 : Int32)), .val (.int (0 : Int32))]) rfl ?_
    refine Go.iload at_225 (q := 227) rfl rfl ?_
    refine Go.if_eq at_227 (q := 239) (q' := 230) (by decide) rfl rfl (fun c_ => absurd c_ (by decide)) (fun _ => ?_)
    refine Go.iload at_230 (q := 232) rfl rfl ?_
    refine Go.if_ne at_232 (q := 239) (q' := 235) (by decide) rfl rfl (fun c_ => absurd (by decide) c_) (fun _ => ?_)
    refine Go.iconst at_235 (q := 236) rfl (x := (1 : Int32)) (by decide) ?_
    refine Go.goto at_236 (q := 240) (by decide) rfl ?_
    refine Go.zreturn at_240 (by decide) (by decide) (by decide) ?_
    exact rfl
  · skip
    refine Go.dcmpX at_183 (q := 184) rfl sv249 sx_zero (cmpI_gt q) ?_
    refine Go.if_ge at_184 (q := 193) (q' := 187) (by decide) rfl rfl (fun _ => ?_) (fun c_ => absurd c_ (by decide))
    refine Go.dload at_193 (q := 195) rfl rfl ?_
    refine Go.dstore at_195 (q := 197) rfl (Ls' := #[.val (.int a), .val (.int b), .val (.int cc), .val (.int d), .val (.int fl), .val (.double x0), .second, .val (.double x1), .second, .val (.double p1), .second, .val (.double p2), .second, .val (.int t1), .val (.int t2), .val (.int (0 : Int32)), .val (.ref ax), .val (.ref c), .val (.double v249), .second, .val (.double v249), .second, .unset, .unset]) rfl ?_
    refine Go.aload at_197 (q := 199) rfl rfl rfl ?_
    refine Go.aload at_199 (q := 201) rfl rfl rfl ?_
    refine Go.dload at_201 (q := 203) rfl rfl ?_
    refine Go.iconst at_203 (q := 204) rfl (x := (0 : Int32)) (by decide) ?_
    refine Go.callVV (P := fun w_ h' => w_ = .int 1 ∧ CN Z h' n0 c A ax (-1 : Int32) (0 : Int32) (0 : Int32) [(.int (0 : Int32)), (.int (0 : Int32)), (.int (0 : Int32))] [(.int (0 : Int32)), (.int (0 : Int32))] [(.int (0 : Int32)), (.int (0 : Int32))] [(.double 0), (.double 0)] [(.double 0), (.double u1)] [(.double x0), (.double x1)]) (argsL := [(.ref ax), (.double v249), (.int (0 : Int32))]) (rest := []) (wd := 0) (Ls1 := #[.val (.ref c), .val (.ref ax), .val (.double v249), .second, .val (.int (0 : Int32))]) at_204 (q := 207) rfl (w57 hw) (w58 hw) (w60 hw) (w59 hw) (w61 hw) (w5 hw) (by decide) pn6 pd6 rfl rfl Cg253.exa (fun m_ => by simp [entryFrame, mkF, argsToLocals, Value.category]) rfl (by decide) rfl (by decide) (by decide) (by decide) (s3_0_eq l Z a0 hw n0 g253 X0 X1 (0 + X1) (-X0)  v249  sx0 sx1 su1 (by omega) bX0 bX1 sv249  (by omega) Cg253 (Q := RV (fun w_ h' => w_ = .int 1 ∧ CN Z h' n0 c A ax (-1 : Int32) (0 : Int32) (0 : Int32) [(.int (0 : Int32)), (.int (0 : Int32)), (.int (0 : Int32))] [(.int (0 : Int32)), (.int (0 : Int32))] [(.int (0 : Int32)), (.int (0 : Int32))] [(.double 0), (.double 0)] [(.double 0), (.double u1)] [(.double x0), (.double x1)])) (fun h' q => ⟨_, rfl, rfl, q⟩)) ?_
    rintro _ g268 ⟨rfl, Cg268⟩
    refine Go.istore at_207 (q := 209) rfl (Ls' := #[.val (.int a), .val (.int b), .val (.int cc), .val (.int d), .val (.int fl), .val (.double x0), .second, .val (.double x1), .second, .val (.double p1), .second, .val (.double p2), .second, .val (.int t1), .val (.int t2), .val (.int (0 : Int32)), .val (.ref ax), .val (.ref c), .val (.double v249), .second, .val (.double v249), .second, .val (.int (1 : Int32)), .unset]) rfl ?_
    refine Go.aload at_209 (q := 211) rfl rfl rfl ?_
    refine Go.aload at_211 (q := 213) rfl rfl rfl ?_
    refine Go.dload at_213 (q := 215) rfl rfl ?_
    refine Go.ldc2D at_215 (q := 218) rfl (v := (4584664420663164928 : UInt64)) (w75 hw) ?_
    refine Go.dsubX at_218 (q := 219) rfl (sx_sub sv249 sx_32 (by omega)) ?_
    intro v269 sv269
    refine Go.iconst at_219 (q := 220) rfl (x := (0 : Int32)) (by decide) ?_
    refine Go.callVV (P := fun w_ h' => w_ = .int 0 ∧ CN Z h' n0 c A ax (-1 : Int32) (0 : Int32) (0 : Int32) [(.int (0 : Int32)), (.int (0 : Int32)), (.int (0 : Int32))] [(.int (0 : Int32)), (.int (0 : Int32))] [(.int (0 : Int32)), (.int (0 : Int32))] [(.double 0), (.double 0)] [(.double 0), (.double u1)] [(.double x0), (.double x1)]) (argsL := [(.ref ax), (.double v269), (.int (0 : Int32))]) (rest := []) (wd := 0) (Ls1 := #[.val (.ref c), .val (.ref ax), .val (.double v269), .second, .val (.int (0 : Int32))]) at_220 (q := 223) rfl (w57 hw) (w58 hw) (w60 hw) (w59 hw) (w61 hw) (w5 hw) (by decide) pn6 pd6 rfl rfl Cg268.exa (fun m_ => by simp [entryFrame, mkF, argsToLocals, Value.category]) rfl (by decide) rfl (by decide) (by decide) (by decide) (s3_0_gt l Z a0 hw n0 g268 X0 X1 (0 + X1) ((-X0) - 1)  v269  sx0 sx1 su1 (by omega) bX0 bX1 sv269  (by omega) Cg268 (Q := RV (fun w_ h' => w_ = .int 0 ∧ CN Z h' n0 c A ax (-1 : Int32) (0 : Int32) (0 : Int32) [(.int (0 : Int32)), (.int (0 : Int32)), (.int (0 : Int32))] [(.int (0 : Int32)), (.int (0 : Int32))] [(.int (0 : Int32)), (.int (0 : Int32))] [(.double 0), (.double 0)] [(.double 0), (.double u1)] [(.double x0), (.double x1)])) (fun h' q => ⟨_, rfl, rfl, q⟩)) ?_
    rintro _ g270 ⟨rfl, Cg270⟩
    refine Go.istore at_223 (q := 225) rfl (Ls' := #[.val (.int a), .val (.int b), .val (.int cc), .val (.int d), .val (.int fl), .val (.double x0), .second, .val (.double x1), .second, .val (.double p1), .second, .val (.double p2), .second, .val (.int t1), .val (.int t2), .val (.int (0 : Int32)), .val (.ref ax), .val (.ref c), .val (.double v249), .second, .val (.double v249), .second, .val (.int (1 : Int32)), .val (.int (0 : Int32))]) rfl ?_
    refine Go.iload at_225 (q := 227) rfl rfl ?_
    refine Go.if_eq at_227 (q := 239) (q' := 230) (by decide) rfl rfl (fun c_ => absurd c_ (by decide)) (fun _ => ?_)
    refine Go.iload at_230 (q := 232) rfl rfl ?_
    refine Go.if_ne at_232 (q := 239) (q' := 235) (by decide) rfl rfl (fun c_ => absurd (by decide) c_) (fun _ => ?_)
    refine Go.iconst at_235 (q := 236) rfl (x := (1 : Int32)) (by decide) ?_
    refine Go.goto at_236 (q := 240) (by decide) rfl ?_
    refine Go.zreturn at_240 (by decide) (by decide) (by decide) ?_
    exact rfl
set_option maxRecDepth 65536 in
set_option maxHeartbeats 40000000 in
theorem law74_1 (l : Launch) (Z : State) (a0 : Array Value) (hw : Hw a0 Z) (n0 : Nat) (h : Heap) (O : Old Z n0 h) (a b cc d fl : Int32) (x0 x1 p1 p2 : UInt64) (t1 t2 : Int32) (X0 X1 P1 P2 : Int) (y1 y2 : UInt64) (sx0 : Sx X0 x0) (sx1 : Sx X1 x1) (bX0 : X0.natAbs ≤ 16384) (bX1 : X1.natAbs ≤ 16384) (t1n : ¬ t1 < 0) (hy1 : [Value.double x0, .double x1][t1.toNatClampNeg]? = some (.double y1)) (m1 : Sx P1 (FP.dmul p1 y1)) (bP1 : P1.natAbs ≤ 16384) (t2n : ¬ t2 < 0) (hy2 : [Value.double x0, .double x1][t2.toNatClampNeg]? = some (.double y2)) (m2 : Sx P2 (FP.dmul p2 y2)) (bP2 : P2.natAbs ≤ 16384) :
    Go l Z x code maxLocals ret room_1 n0 (fun v _ => v = some (.int 1)) h 0 0 74 #[.val (.int a), .val (.int b), .val (.int cc), .val (.int d), .val (.int fl), .val (.double x0), .second, .val (.double x1), .second, .val (.double p1), .second, .val (.double p2), .second, .val (.int t1), .val (.int t2), .val (.int (1 : Int32)), .unset, .unset, .unset, .unset, .unset, .unset, .unset, .unset] [] := by
  refine Go.iconst at_74 (q := 75) rfl (x := (2 : Int32)) (by decide) ?_
  refine Go.newarray (cap := 2) at_75 (q := 77) rfl (w2 hw) (by decide) (by decide) (by decide) (by decide) (by decide) ?_
  intro h1 ax kx e1 X1_ B1
  have nx : n0 ≤ ax := new_le (O.1 ▸ O.2.1) e1
  have O1 := O.ext X1_
  refine Go.dup at_77 (q := 78) rfl rfl ?_
  refine Go.iconst at_78 (q := 79) rfl (x := (0 : Int32)) (by decide) ?_
  refine Go.dload at_79 (q := 81) rfl rfl ?_
  refine Go.dastore at_81 (q := 82) rfl B1 (by decide) (by exact (by decide : (0 : Nat) < 2)) nx ?_
  intro h2 W2
  have O2 := O1.wr W2 nx
  have B2 : Ar Z h2 ax .double kx [.double x0, .double 0] := B1.set W2
  refine Go.dup at_82 (q := 83) rfl rfl ?_
  refine Go.iconst at_83 (q := 84) rfl (x := (1 : Int32)) (by decide) ?_
  refine Go.dload at_84 (q := 86) rfl rfl ?_
  refine Go.dastore at_86 (q := 87) rfl B2 (by decide) (by exact (by decide : (1 : Nat) < 2)) nx ?_
  intro h3 W3
  have O3 := O2.wr W3 nx
  have B3 : Ar Z h3 ax .double kx [.double x0, .double x1] := B2.set W3
  refine Go.astore at_87 (q := 89) rfl rfl (Ls' := #[.val (.int a), .val (.int b), .val (.int cc), .val (.int d), .val (.int fl), .val (.double x0), .second, .val (.double x1), .second, .val (.double p1), .second, .val (.double p2), .second, .val (.int t1), .val (.int t2), .val (.int (1 : Int32)), .val (.ref ax), .unset, .unset, .unset, .unset, .unset, .unset, .unset]) rfl ?_
  refine Go.new at_89 (q := 92) rfl (w3 hw) (w4 hw) (w5 hw) (by decide) (by decide) ?_
  intro h4 c e4 X4 E4 D4
  have nc : n0 ≤ c := new_le (O3.1 ▸ O3.2.1) e4
  have O4 := O3.ext X4
  have B4 := B3.ext X4
  have hax : @LT.lt Nat instLTNat ax c := by rw [e4]; exact B3.lt
  have F4 : FD Z h4 c (.int 0) (.int 0) .null .null .null .null .null .null .null .null .null .null .null .null (.int 0) (.int 0) := ⟨D4 (Or.inl (w13 hw)) pTn, D4 (Or.inr (w15 hw)) pTn, D4 (Or.inr (w18 hw)) pTi, D4 (Or.inr (w20 hw)) pTi, D4 (Or.inr (w22 hw)) pTi, D4 (Or.inr (w24 hw)) pTd, D4 (Or.inr (w26 hw)) pTd, D4 (Or.inr (w28 hw)) pTd, D4 (Or.inr (w30 hw)) pTd, D4 (Or.inr (w32 hw)) pTd, D4 (Or.inr (w34 hw)) pTd, D4 (Or.inr (w36 hw)) pTd, D4 (Or.inr (w38 hw)) pTd, D4 (Or.inr (w40 hw)) pTd, D4 (Or.inl (w51 hw)) pTn, D4 (Or.inl (w74 hw)) pTn⟩
  refine Go.dup at_92 (q := 93) rfl rfl ?_
  refine Go.iconst at_93 (q := 94) rfl (x := (2 : Int32)) (by decide) ?_
  refine Go.iconst at_94 (q := 95) rfl (x := (2 : Int32)) (by decide) ?_
  refine Go.callIN (P := fun h' => ∃ A, CN Z h' n0 c A ax (-1 : Int32) (0 : Int32) (0 : Int32) [(.int (0 : Int32)), (.int (0 : Int32)), (.int (0 : Int32))] [(.int (0 : Int32)), (.int (0 : Int32))] [(.int (0 : Int32)), (.int (0 : Int32))] [(.double 0), (.double 0)] [(.double 0), (.double 0)] [(.double x0), (.double x1)]) (argsL := [(.int (2 : Int32)), (.int (2 : Int32))]) (rest := [(.ref c)]) (wd := 1) (Ls1 := #[.val (.ref c), .val (.int (2 : Int32)), .val (.int (2 : Int32))]) at_95 (q := 98) rfl rfl (w6 hw) (w7 hw) (w5 hw) (w8 hw) (by decide) pn1 pd1 rfl rfl (fun m_ => by simp [entryFrame, mkF, argsToLocals, Value.category]) rfl (by decide) rfl (by decide) (by decide) (by decide) (ini l Z a0 hw n0 h4 O4 c nc E4 F4 ax hax kx x0 x1 B4 (Q := RN (fun h' => ∃ A, CN Z h' n0 c A ax (-1 : Int32) (0 : Int32) (0 : Int32) [(.int (0 : Int32)), (.int (0 : Int32)), (.int (0 : Int32))] [(.int (0 : Int32)), (.int (0 : Int32))] [(.int (0 : Int32)), (.int (0 : Int32))] [(.double 0), (.double 0)] [(.double 0), (.double 0)] [(.double x0), (.double x1)])) (fun h' A q => ⟨rfl, A, q⟩)) ?_
  rintro h5 ⟨A, C5⟩
  refine Go.astore at_98 (q := 100) rfl rfl (Ls' := #[.val (.int a), .val (.int b), .val (.int cc), .val (.int d), .val (.int fl), .val (.double x0), .second, .val (.double x1), .second, .val (.double p1), .second, .val (.double p2), .second, .val (.int t1), .val (.int t2), .val (.int (1 : Int32)), .val (.ref ax), .val (.ref c), .unset, .unset, .unset, .unset, .unset, .unset]) rfl ?_
  refine Go.aload at_100 (q := 102) rfl rfl rfl ?_
  refine Go.iconst at_102 (q := 103) rfl (x := (0 : Int32)) (by decide) ?_
  refine Go.callVN (P := fun h' => CN Z h' n0 c A ax (0 : Int32) (0 : Int32) (0 : Int32) [(.int (0 : Int32)), (.int (0 : Int32)), (.int (0 : Int32))] [(.int (0 : Int32)), (.int (0 : Int32))] [(.int (0 : Int32)), (.int (0 : Int32))] [(.double 0), (.double 0)] [(.double 0), (.double 0)] [(.double x0), (.double x1)]) (argsL := [(.int (0 : Int32))]) (rest := []) (wd := 0) (Ls1 := #[.val (.ref c), .val (.int (0 : Int32))]) at_103 (q := 106) rfl (w41 hw) (w42 hw) (w44 hw) (w43 hw) (w45 hw) (w5 hw) (by decide) pn3 pd3 rfl rfl C5.exa (fun m_ => by simp [entryFrame, mkF, argsToLocals, Value.category]) rfl (by decide) rfl (by decide) (by decide) (by decide) (state0 l Z a0 hw n0 h5 C5 (Q := RN (fun h' => CN Z h' n0 c A ax (0 : Int32) (0 : Int32) (0 : Int32) [(.int (0 : Int32)), (.int (0 : Int32)), (.int (0 : Int32))] [(.int (0 : Int32)), (.int (0 : Int32))] [(.int (0 : Int32)), (.int (0 : Int32))] [(.double 0), (.double 0)] [(.double 0), (.double 0)] [(.double x0), (.double x1)])) (fun h' q => ⟨rfl, q⟩)) ?_
  intro g273 Cg273
  refine Go.dload at_106 (q := 108) rfl rfl ?_
  refine Go.dnegX at_108 (q := 109) rfl sx0 ?_
  intro v274 sv274
  refine Go.dstore at_109 (q := 111) rfl (Ls' := #[.val (.int a), .val (.int b), .val (.int cc), .val (.int d), .val (.int fl), .val (.double x0), .second, .val (.double x1), .second, .val (.double p1), .second, .val (.double p2), .second, .val (.int t1), .val (.int t2), .val (.int (1 : Int32)), .val (.ref ax), .val (.ref c), .val (.double v274), .second, .unset, .unset, .unset, .unset]) rfl ?_
  refine Go.iload at_111 (q := 113) rfl rfl ?_
  refine Go.iconst at_113 (q := 114) rfl (x := (1 : Int32)) (by decide) ?_
  refine Go.icmp_lt at_114 (q := 139) (q' := 117) (by decide) rfl rfl (fun c_ => absurd c_ (by decide)) (fun _ => ?_)
  refine Go.aload at_117 (q := 119) rfl rfl rfl ?_
  refine Go.iload at_119 (q := 121) rfl rfl ?_
  refine Go.dload at_121 (q := 123) rfl rfl ?_
  refine Go.callVN (P := fun h' => CN Z h' n0 c A ax (0 : Int32) (1 : Int32) (0 : Int32) [(.int (0 : Int32)), (.int (0 : Int32)), (.int (0 : Int32))] [(.int (0 : Int32)), (.int (0 : Int32))] [(.int t1), (.int (0 : Int32))] [(.double p1), (.double 0)] [(.double 0), (.double 0)] [(.double x0), (.double x1)]) (argsL := [(.int t1), (.double p1)]) (rest := []) (wd := 0) (Ls1 := #[.val (.ref c), .val (.int t1), .val (.double p1), .second]) at_123 (q := 126) rfl (w76 hw) (w77 hw) (w79 hw) (w78 hw) (w80 hw) (w5 hw) (by decide) pn10 pd10 rfl rfl Cg273.exa (fun m_ => by simp [entryFrame, mkF, argsToLocals, Value.category]) rfl (by decide) rfl (by decide) (by decide) (by decide) (move0 l Z a0 hw n0 g273 t1 p1 Cg273 (Q := RN (fun h' => CN Z h' n0 c A ax (0 : Int32) (1 : Int32) (0 : Int32) [(.int (0 : Int32)), (.int (0 : Int32)), (.int (0 : Int32))] [(.int (0 : Int32)), (.int (0 : Int32))] [(.int t1), (.int (0 : Int32))] [(.double p1), (.double 0)] [(.double 0), (.double 0)] [(.double x0), (.double x1)])) (fun h' q => ⟨rfl, q⟩)) ?_
  intro g276 Cg276
  refine Go.dload at_126 (q := 128) rfl rfl ?_
  refine Go.dload at_128 (q := 130) rfl rfl ?_
  refine Go.aload at_130 (q := 132) rfl rfl rfl ?_
  refine Go.iload at_132 (q := 134) rfl rfl ?_
  refine Go.daload at_134 (q := 135) rfl (Cg276.ax).choose_spec t1n hy1 ?_
  refine Go.dmul at_135 (q := 136) rfl (sx_nn m1) ?_
  refine Go.daddX at_136 (q := 137) rfl (sx_add sv274 m1 (by omega)) ?_
  intro v278 sv278
  refine Go.dstore at_137 (q := 139) rfl (Ls' := #[.val (.int a), .val (.int b), .val (.int cc), .val (.int d), .val (.int fl), .val (.double x0), .second, .val (.double x1), .second, .val (.double p1), .second, .val (.double p2), .second, .val (.int t1), .val (.int t2), .val (.int (1 : Int32)), .val (.ref ax), .val (.ref c), .val (.double v278), .second, .unset, .unset, .unset, .unset]) rfl ?_
  refine Go.iload at_139 (q := 141) rfl rfl ?_
  refine Go.iconst at_141 (q := 142) rfl (x := (2 : Int32)) (by decide) ?_
  refine Go.icmp_lt at_142 (q := 167) (q' := 145) (by decide) rfl rfl (fun _ => ?_) (fun c_ => absurd (by decide) c_)
  refine Go.aload at_167 (q := 169) rfl rfl rfl ?_
  refine Go.iconst at_169 (q := 170) rfl (x := (1 : Int32)) (by decide) ?_
  refine Go.callVN (P := fun h' => CN Z h' n0 c A ax (1 : Int32) (1 : Int32) (0 : Int32) [(.int (0 : Int32)), (.int (1 : Int32)), (.int (0 : Int32))] [(.int (0 : Int32)), (.int (0 : Int32))] [(.int t1), (.int (0 : Int32))] [(.double p1), (.double 0)] [(.double 0), (.double 0)] [(.double x0), (.double x1)]) (argsL := [(.int (1 : Int32))]) (rest := []) (wd := 0) (Ls1 := #[.val (.ref c), .val (.int (1 : Int32))]) at_170 (q := 173) rfl (w41 hw) (w42 hw) (w44 hw) (w43 hw) (w45 hw) (w5 hw) (by decide) pn3 pd3 rfl rfl Cg276.exa (fun m_ => by simp [entryFrame, mkF, argsToLocals, Value.category]) rfl (by decide) rfl (by decide) (by decide) (by decide) (state1_1 l Z a0 hw n0 g276 t1n (by decide) Cg276 (Q := RN (fun h' => CN Z h' n0 c A ax (1 : Int32) (1 : Int32) (0 : Int32) [(.int (0 : Int32)), (.int (1 : Int32)), (.int (0 : Int32))] [(.int (0 : Int32)), (.int (0 : Int32))] [(.int t1), (.int (0 : Int32))] [(.double p1), (.double 0)] [(.double 0), (.double 0)] [(.double x0), (.double x1)])) (fun h' q => ⟨rfl, q⟩)) ?_
  intro g280 Cg280
  refine Go.aload at_173 (q := 175) rfl rfl rfl ?_
  refine Go.dload at_175 (q := 177) rfl rfl ?_
  refine Go.callVN (P := fun h' => ∃ v, Sx (0 + X1) v ∧ CN Z h' n0 c A ax (1 : Int32) (1 : Int32) (0 : Int32) [(.int (0 : Int32)), (.int (1 : Int32)), (.int (0 : Int32))] [(.int (0 : Int32)), (.int (0 : Int32))] [(.int t1), (.int (0 : Int32))] [(.double p1), (.double 0)] [(.double 0), (.double v)] [(.double x0), (.double x1)]) (argsL := [(.double x1)]) (rest := []) (wd := 0) (Ls1 := #[.val (.ref c), .val (.double x1), .second]) at_177 (q := 180) rfl (w52 hw) (w53 hw) (w55 hw) (w54 hw) (w56 hw) (w5 hw) (by decide) pn5 pd5 rfl rfl Cg280.exa (fun m_ => by simp [entryFrame, mkF, argsToLocals, Value.category]) rfl (by decide) rfl (by decide) (by decide) (by decide) (gain l Z a0 hw n0 g280 x1 sx1 bX1 Cg280 (Q := RN (fun h' => ∃ v, Sx (0 + X1) v ∧ CN Z h' n0 c A ax (1 : Int32) (1 : Int32) (0 : Int32) [(.int (0 : Int32)), (.int (1 : Int32)), (.int (0 : Int32))] [(.int (0 : Int32)), (.int (0 : Int32))] [(.int t1), (.int (0 : Int32))] [(.double p1), (.double 0)] [(.double 0), (.double v)] [(.double x0), (.double x1)])) (fun h' v q1 q2 => ⟨rfl, v, q1, q2⟩)) ?_
  rintro g281 ⟨u1, su1, Cg281⟩
  refine Go.dload at_180 (q := 182) rfl rfl ?_
  refine Go.dconst0 at_182 (q := 183) rfl ?_
  rcases Int.lt_trichotomy ((-X0) + P1) 0 with q | q | q
  · skip
    refine Go.dcmpX at_183 (q := 184) rfl sv278 sx_zero (cmpI_lt q) ?_
    refine Go.if_ge at_184 (q := 193) (q' := 187) (by decide) rfl rfl (fun c_ => absurd (by decide) c_) (fun _ => ?_)
    refine Go.dload at_187 (q := 189) rfl rfl ?_
    refine Go.dnegX at_189 (q := 190) rfl sv278 ?_
    intro v283 sv283
    refine Go.goto at_190 (q := 195) (by decide) rfl ?_
    refine Go.dstore at_195 (q := 197) rfl (Ls' := #[.val (.int a), .val (.int b), .val (.int cc), .val (.int d), .val (.int fl), .val (.double x0), .second, .val (.double x1), .second, .val (.double p1), .second, .val (.double p2), .second, .val (.int t1), .val (.int t2), .val (.int (1 : Int32)), .val (.ref ax), .val (.ref c), .val (.double v278), .second, .val (.double v283), .second, .unset, .unset]) rfl ?_
    refine Go.aload at_197 (q := 199) rfl rfl rfl ?_
    refine Go.aload at_199 (q := 201) rfl rfl rfl ?_
    refine Go.dload at_201 (q := 203) rfl rfl ?_
    refine Go.iconst at_203 (q := 204) rfl (x := (0 : Int32)) (by decide) ?_
    refine Go.callVV (P := fun w_ h' => w_ = .int 1 ∧ CN Z h' n0 c A ax (-1 : Int32) (1 : Int32) (0 : Int32) [(.int (0 : Int32)), (.int (1 : Int32)), (.int (1 : Int32))] [(.int (0 : Int32)), (.int (1 : Int32))] [(.int t1), (.int (0 : Int32))] [(.double p1), (.double 0)] [(.double 0), (.double u1)] [(.double x0), (.double x1)]) (argsL := [(.ref ax), (.double v283), (.int (0 : Int32))]) (rest := []) (wd := 0) (Ls1 := #[.val (.ref c), .val (.ref ax), .val (.double v283), .second, .val (.int (0 : Int32))]) at_204 (q := 207) rfl (w57 hw) (w58 hw) (w60 hw) (w59 hw) (w61 hw) (w5 hw) (by decide) pn6 pd6 rfl rfl Cg281.exa (fun m_ => by simp [entryFrame, mkF, argsToLocals, Value.category]) rfl (by decide) rfl (by decide) (by decide) (by decide) (s3_1_eq l Z a0 hw n0 g281 X0 X1 (0 + X1) (-((-X0) + P1)) P1 v283 y1 sx0 sx1 su1 (by omega) bX0 bX1 sv283 t1n hy1 m1 bP1 (by omega) Cg281 (Q := RV (fun w_ h' => w_ = .int 1 ∧ CN Z h' n0 c A ax (-1 : Int32) (1 : Int32) (0 : Int32) [(.int (0 : Int32)), (.int (1 : Int32)), (.int (1 : Int32))] [(.int (0 : Int32)), (.int (1 : Int32))] [(.int t1), (.int (0 : Int32))] [(.double p1), (.double 0)] [(.double 0), (.double u1)] [(.double x0), (.double x1)])) (fun h' q => ⟨_, rfl, rfl, q⟩)) ?_
    rintro _ g284 ⟨rfl, Cg284⟩
    refine Go.istore at_207 (q := 209) rfl (Ls' := #[.val (.int a), .val (.int b), .val (.int cc), .val (.int d), .val (.int fl), .val (.double x0), .second, .val (.double x1), .second, .val (.double p1), .second, .val (.double p2), .second, .val (.int t1), .val (.int t2), .val (.int (1 : Int32)), .val (.ref ax), .val (.ref c), .val (.double v278), .second, .val (.double v283), .second, .val (.int (1 : Int32)), .unset]) rfl ?_
    refine Go.aload at_209 (q := 211) rfl rfl rfl ?_
    refine Go.aload at_211 (q := 213) rfl rfl rfl ?_
    refine Go.dload at_213 (q := 215) rfl rfl ?_
    refine Go.ldc2D at_215 (q := 218) rfl (v := (4584664420663164928 : UInt64)) (w75 hw) ?_
    refine Go.dsubX at_218 (q := 219) rfl (sx_sub sv283 sx_32 (by omega)) ?_
    intro v285 sv285
    refine Go.iconst at_219 (q := 220) rfl (x := (0 : Int32)) (by decide) ?_
    refine Go.callVV (P := fun w_ h' => w_ = .int 0 ∧ CN Z h' n0 c A ax (-1 : Int32) (1 : Int32) (0 : Int32) [(.int (0 : Int32)), (.int (1 : Int32)), (.int (1 : Int32))] [(.int (0 : Int32)), (.int (1 : Int32))] [(.int t1), (.int (0 : Int32))] [(.double p1), (.double 0)] [(.double 0), (.double u1)] [(.double x0), (.double x1)]) (argsL := [(.ref ax), (.double v285), (.int (0 : Int32))]) (rest := []) (wd := 0) (Ls1 := #[.val (.ref c), .val (.ref ax), .val (.double v285), .second, .val (.int (0 : Int32))]) at_220 (q := 223) rfl (w57 hw) (w58 hw) (w60 hw) (w59 hw) (w61 hw) (w5 hw) (by decide) pn6 pd6 rfl rfl Cg284.exa (fun m_ => by simp [entryFrame, mkF, argsToLocals, Value.category]) rfl (by decide) rfl (by decide) (by decide) (by decide) (s3_1_gt l Z a0 hw n0 g284 X0 X1 (0 + X1) ((-((-X0) + P1)) - 1) P1 v285 y1 sx0 sx1 su1 (by omega) bX0 bX1 sv285 t1n hy1 m1 bP1 (by omega) Cg284 (Q := RV (fun w_ h' => w_ = .int 0 ∧ CN Z h' n0 c A ax (-1 : Int32) (1 : Int32) (0 : Int32) [(.int (0 : Int32)), (.int (1 : Int32)), (.int (1 : Int32))] [(.int (0 : Int32)), (.int (1 : Int32))] [(.int t1), (.int (0 : Int32))] [(.double p1), (.double 0)] [(.double 0), (.double u1)] [(.double x0), (.double x1)])) (fun h' q => ⟨_, rfl, rfl, q⟩)) ?_
    rintro _ g286 ⟨rfl, Cg286⟩
    refine Go.istore at_223 (q := 225) rfl (Ls' := #[.val (.int a), .val (.int b), .val (.int cc), .val (.int d), .val (.int fl), .val (.double x0), .second, .val (.double x1), .second, .val (.double p1), .second, .val (.double p2), .second, .val (.int t1), .val (.int t2), .val (.int (1 : Int32)), .val (.ref ax), .val (.ref c), .val (.double v278), .second, .val (.double v283), .second, .val (.int (1 : Int32)), .val (.int (0 : Int32))]) rfl ?_
    refine Go.iload at_225 (q := 227) rfl rfl ?_
    refine Go.if_eq at_227 (q := 239) (q' := 230) (by decide) rfl rfl (fun c_ => absurd c_ (by decide)) (fun _ => ?_)
    refine Go.iload at_230 (q := 232) rfl rfl ?_
    refine Go.if_ne at_232 (q := 239) (q' := 235) (by decide) rfl rfl (fun c_ => absurd (by decide) c_) (fun _ => ?_)
    refine Go.iconst at_235 (q := 236) rfl (x := (1 : Int32)) (by decide) ?_
    refine Go.goto at_236 (q := 240) (by decide) rfl ?_
    refine Go.zreturn at_240 (by decide) (by decide) (by decide) ?_
    exact rfl
  · skip
    refine Go.dcmpX at_183 (q := 184) rfl sv278 sx_zero (cmpI_eq q) ?_
    refine Go.if_ge at_184 (q := 193) (q' := 187) (by decide) rfl rfl (fun _ => ?_) (fun c_ => absurd c_ (by decide))
    refine Go.dload at_193 (q := 195) rfl rfl ?_
    refine Go.dstore at_195 (q := 197) rfl (Ls' := #[.val (.int a), .val (.int b), .val (.int cc), .val (.int d), .val (.int fl), .val (.double x0), .second, .val (.double x1), .second, .val (.double p1), .second, .val (.double p2), .second, .val (.int t1), .val (.int t2), .val (.int (1 : Int32)), .val (.ref ax), .val (.ref c), .val (.double v278), .second, .val (.double v278), .second, .unset, .unset]) rfl ?_
    refine Go.aload at_197 (q := 199) rfl rfl rfl ?_
    refine Go.aload at_199 (q := 201) rfl rfl rfl ?_
    refine Go.dload at_201 (q := 203) rfl rfl ?_
    refine Go.iconst at_203 (q := 204) rfl (x := (0 : Int32)) (by decide) ?_
    refine Go.callVV (P := fun w_ h' => w_ = .int 1 ∧ CN Z h' n0 c A ax (-1 : Int32) (1 : Int32) (0 : Int32) [(.int (0 : Int32)), (.int (1 : Int32)), (.int (1 : Int32))] [(.int (0 : Int32)), (.int (1 : Int32))] [(.int t1), (.int (0 : Int32))] [(.double p1), (.double 0)] [(.double 0), (.double u1)] [(.double x0), (.double x1)]) (argsL := [(.ref ax), (.double v278), (.int (0 : Int32))]) (rest := []) (wd := 0) (Ls1 := #[.val (.ref c), .val (.ref ax), .val (.double v278), .second, .val (.int (0 : Int32))]) at_204 (q := 207) rfl (w57 hw) (w58 hw) (w60 hw) (w59 hw) (w61 hw) (w5 hw) (by decide) pn6 pd6 rfl rfl Cg281.exa (fun m_ => by simp [entryFrame, mkF, argsToLocals, Value.category]) rfl (by decide) rfl (by decide) (by decide) (by decide) (s3_1_eq l Z a0 hw n0 g281 X0 X1 (0 + X1) ((-X0) + P1) P1 v278 y1 sx0 sx1 su1 (by omega) bX0 bX1 sv278 t1n hy1 m1 bP1 (by omega) Cg281 (Q := RV (fun w_ h' => w_ = .int 1 ∧ CN Z h' n0 c A ax (-1 : Int32) (1 : Int32) (0 : Int32) [(.int (0 : Int32)), (.int (1 : Int32)), (.int (1 : Int32))] [(.int (0 : Int32)), (.int (1 : Int32))] [(.int t1), (.int (0 : Int32))] [(.double p1), (.double 0)] [(.double 0), (.double u1)] [(.double x0), (.double x1)])) (fun h' q => ⟨_, rfl, rfl, q⟩)) ?_
    rintro _ g290 ⟨rfl, Cg290⟩
    refine Go.istore at_207 (q := 209) rfl (Ls' := #[.val (.int a), .val (.int b), .val (.int cc), .val (.int d), .val (.int fl), .val (.double x0), .second, .val (.double x1), .second, .val (.double p1), .second, .val (.double p2), .second, .val (.int t1), .val (.int t2), .val (.int (1 : Int32)), .val (.ref ax), .val (.ref c), .val (.double v278), .second, .val (.double v278), .second, .val (.int (1 : Int32)), .unset]) rfl ?_
    refine Go.aload at_209 (q := 211) rfl rfl rfl ?_
    refine Go.aload at_211 (q := 213) rfl rfl rfl ?_
    refine Go.dload at_213 (q := 215) rfl rfl ?_
    refine Go.ldc2D at_215 (q := 218) rfl (v := (4584664420663164928 : UInt64)) (w75 hw) ?_
    refine Go.dsubX at_218 (q := 219) rfl (sx_sub sv278 sx_32 (by omega)) ?_
    intro v291 sv291
    refine Go.iconst at_219 (q := 220) rfl (x := (0 : Int32)) (by decide) ?_
    refine Go.callVV (P := fun w_ h' => w_ = .int 0 ∧ CN Z h' n0 c A ax (-1 : Int32) (1 : Int32) (0 : Int32) [(.int (0 : Int32)), (.int (1 : Int32)), (.int (1 : Int32))] [(.int (0 : Int32)), (.int (1 : Int32))] [(.int t1), (.int (0 : Int32))] [(.double p1), (.double 0)] [(.double 0), (.double u1)] [(.double x0), (.double x1)]) (argsL := [(.ref ax), (.double v291), (.int (0 : Int32))]) (rest := []) (wd := 0) (Ls1 := #[.val (.ref c), .val (.ref ax), .val (.double v291), .second, .val (.int (0 : Int32))]) at_220 (q := 223) rfl (w57 hw) (w58 hw) (w60 hw) (w59 hw) (w61 hw) (w5 hw) (by decide) pn6 pd6 rfl rfl Cg290.exa (fun m_ => by simp [entryFrame, mkF, argsToLocals, Value.category]) rfl (by decide) rfl (by decide) (by decide) (by decide) (s3_1_gt l Z a0 hw n0 g290 X0 X1 (0 + X1) (((-X0) + P1) - 1) P1 v291 y1 sx0 sx1 su1 (by omega) bX0 bX1 sv291 t1n hy1 m1 bP1 (by omega) Cg290 (Q := RV (fun w_ h' => w_ = .int 0 ∧ CN Z h' n0 c A ax (-1 : Int32) (1 : Int32) (0 : Int32) [(.int (0 : Int32)), (.int (1 : Int32)), (.int (1 : Int32))] [(.int (0 : Int32)), (.int (1 : Int32))] [(.int t1), (.int (0 : Int32))] [(.double p1), (.double 0)] [(.double 0), (.double u1)] [(.double x0), (.double x1)])) (fun h' q => ⟨_, rfl, rfl, q⟩)) ?_
    rintro _ g292 ⟨rfl, Cg292⟩
    refine Go.istore at_223 (q := 225) rfl (Ls' := #[.val (.int a), .val (.int b), .val (.int cc), .val (.int d), .val (.int fl), .val (.double x0), .second, .val (.double x1), .second, .val (.double p1), .second, .val (.double p2), .second, .val (.int t1), .val (.int t2), .val (.int (1 : Int32)), .val (.ref ax), .val (.ref c), .val (.double v278), .second, .val (.double v278), .second, .val (.int (1 : Int32)), .val (.int (0 : Int32))]) rfl ?_
    refine Go.iload at_225 (q := 227) rfl rfl ?_
    refine Go.if_eq at_227 (q := 239) (q' := 230) (by decide) rfl rfl (fun c_ => absurd c_ (by decide)) (fun _ => ?_)
    refine Go.iload at_230 (q := 232) rfl rfl ?_
    refine Go.if_ne at_232 (q := 239) (q' := 235) (by decide) rfl rfl (fun c_ => absurd (by decide) c_) (fun _ => ?_)
    refine Go.iconst at_235 (q := 236) rfl (x := (1 : Int32)) (by decide) ?_
    refine Go.goto at_236 (q := 240) (by decide) rfl ?_
    refine Go.zreturn at_240 (by decide) (by decide) (by decide) ?_
    exact rfl
  · skip
    refine Go.dcmpX at_183 (q := 184) rfl sv278 sx_zero (cmpI_gt q) ?_
    refine Go.if_ge at_184 (q := 193) (q' := 187) (by decide) rfl rfl (fun _ => ?_) (fun c_ => absurd c_ (by decide))
    refine Go.dload at_193 (q := 195) rfl rfl ?_
    refine Go.dstore at_195 (q := 197) rfl (Ls' := #[.val (.int a), .val (.int b), .val (.int cc), .val (.int d), .val (.int fl), .val (.double x0), .second, .val (.double x1), .second, .val (.double p1), .second, .val (.double p2), .second, .val (.int t1), .val (.int t2), .val (.int (1 : Int32)), .val (.ref ax), .val (.ref c), .val (.double v278), .second, .val (.double v278), .second, .unset, .unset]) rfl ?_
    refine Go.aload at_197 (q := 199) rfl rfl rfl ?_
    refine Go.aload at_199 (q := 201) rfl rfl rfl ?_
    refine Go.dload at_201 (q := 203) rfl rfl ?_
    refine Go.iconst at_203 (q := 204) rfl (x := (0 : Int32)) (by decide) ?_
    refine Go.callVV (P := fun w_ h' => w_ = .int 1 ∧ CN Z h' n0 c A ax (-1 : Int32) (1 : Int32) (0 : Int32) [(.int (0 : Int32)), (.int (1 : Int32)), (.int (1 : Int32))] [(.int (0 : Int32)), (.int (1 : Int32))] [(.int t1), (.int (0 : Int32))] [(.double p1), (.double 0)] [(.double 0), (.double u1)] [(.double x0), (.double x1)]) (argsL := [(.ref ax), (.double v278), (.int (0 : Int32))]) (rest := []) (wd := 0) (Ls1 := #[.val (.ref c), .val (.ref ax), .val (.double v278), .second, .val (.int (0 : Int32))]) at_204 (q := 207) rfl (w57 hw) (w58 hw) (w60 hw) (w59 hw) (w61 hw) (w5 hw) (by decide) pn6 pd6 rfl rfl Cg281.exa (fun m_ => by simp [entryFrame, mkF, argsToLocals, Value.category]) rfl (by decide) rfl (by decide) (by decide) (by decide) (s3_1_eq l Z a0 hw n0 g281 X0 X1 (0 + X1) ((-X0) + P1) P1 v278 y1 sx0 sx1 su1 (by omega) bX0 bX1 sv278 t1n hy1 m1 bP1 (by omega) Cg281 (Q := RV (fun w_ h' => w_ = .int 1 ∧ CN Z h' n0 c A ax (-1 : Int32) (1 : Int32) (0 : Int32) [(.int (0 : Int32)), (.int (1 : Int32)), (.int (1 : Int32))] [(.int (0 : Int32)), (.int (1 : Int32))] [(.int t1), (.int (0 : Int32))] [(.double p1), (.double 0)] [(.double 0), (.double u1)] [(.double x0), (.double x1)])) (fun h' q => ⟨_, rfl, rfl, q⟩)) ?_
    rintro _ g296 ⟨rfl, Cg296⟩
    refine Go.istore at_207 (q := 209) rfl (Ls' := #[.val (.int a), .val (.int b), .val (.int cc), .val (.int d), .val (.int fl), .val (.double x0), .second, .val (.double x1), .second, .val (.double p1), .second, .val (.double p2), .second, .val (.int t1), .val (.int t2), .val (.int (1 : Int32)), .val (.ref ax), .val (.ref c), .val (.double v278), .second, .val (.double v278), .second, .val (.int (1 : Int32)), .unset]) rfl ?_
    refine Go.aload at_209 (q := 211) rfl rfl rfl ?_
    refine Go.aload at_211 (q := 213) rfl rfl rfl ?_
    refine Go.dload at_213 (q := 215) rfl rfl ?_
    refine Go.ldc2D at_215 (q := 218) rfl (v := (4584664420663164928 : UInt64)) (w75 hw) ?_
    refine Go.dsubX at_218 (q := 219) rfl (sx_sub sv278 sx_32 (by omega)) ?_
    intro v297 sv297
    refine Go.iconst at_219 (q := 220) rfl (x := (0 : Int32)) (by decide) ?_
    refine Go.callVV (P := fun w_ h' => w_ = .int 0 ∧ CN Z h' n0 c A ax (-1 : Int32) (1 : Int32) (0 : Int32) [(.int (0 : Int32)), (.int (1 : Int32)), (.int (1 : Int32))] [(.int (0 : Int32)), (.int (1 : Int32))] [(.int t1), (.int (0 : Int32))] [(.double p1), (.double 0)] [(.double 0), (.double u1)] [(.double x0), (.double x1)]) (argsL := [(.ref ax), (.double v297), (.int (0 : Int32))]) (rest := []) (wd := 0) (Ls1 := #[.val (.ref c), .val (.ref ax), .val (.double v297), .second, .val (.int (0 : Int32))]) at_220 (q := 223) rfl (w57 hw) (w58 hw) (w60 hw) (w59 hw) (w61 hw) (w5 hw) (by decide) pn6 pd6 rfl rfl Cg296.exa (fun m_ => by simp [entryFrame, mkF, argsToLocals, Value.category]) rfl (by decide) rfl (by decide) (by decide) (by decide) (s3_1_gt l Z a0 hw n0 g296 X0 X1 (0 + X1) (((-X0) + P1) - 1) P1 v297 y1 sx0 sx1 su1 (by omega) bX0 bX1 sv297 t1n hy1 m1 bP1 (by omega) Cg296 (Q := RV (fun w_ h' => w_ = .int 0 ∧ CN Z h' n0 c A ax (-1 : Int32) (1 : Int32) (0 : Int32) [(.int (0 : Int32)), (.int (1 : Int32)), (.int (1 : Int32))] [(.int (0 : Int32)), (.int (1 : Int32))] [(.int t1), (.int (0 : Int32))] [(.double p1), (.double 0)] [(.double 0), (.double u1)] [(.double x0), (.double x1)])) (fun h' q => ⟨_, rfl, rfl, q⟩)) ?_
    rintro _ g298 ⟨rfl, Cg298⟩
    refine Go.istore at_223 (q := 225) rfl (Ls' := #[.val (.int a), .val (.int b), .val (.int cc), .val (.int d), .val (.int fl), .val (.double x0), .second, .val (.double x1), .second, .val (.double p1), .second, .val (.double p2), .second, .val (.int t1), .val (.int t2), .val (.int (1 : Int32)), .val (.ref ax), .val (.ref c), .val (.double v278), .second, .val (.double v278), .second, .val (.int (1 : Int32)), .val (.int (0 : Int32))]) rfl ?_
    refine Go.iload at_225 (q := 227) rfl rfl ?_
    refine Go.if_eq at_227 (q := 239) (q' := 230) (by decide) rfl rfl (fun c_ => absurd c_ (by decide)) (fun _ => ?_)
    refine Go.iload at_230 (q := 232) rfl rfl ?_
    refine Go.if_ne at_232 (q := 239) (q' := 235) (by decide) rfl rfl (fun c_ => absurd (by decide) c_) (fun _ => ?_)
    refine Go.iconst at_235 (q := 236) rfl (x := (1 : Int32)) (by decide) ?_
    refine Go.goto at_236 (q := 240) (by decide) rfl ?_
    refine Go.zreturn at_240 (by decide) (by decide) (by decide) ?_
    exact rfl
set_option maxRecDepth 65536 in
set_option maxHeartbeats 40000000 in
theorem law74_2 (l : Launch) (Z : State) (a0 : Array Value) (hw : Hw a0 Z) (n0 : Nat) (h : Heap) (O : Old Z n0 h) (a b cc d fl : Int32) (x0 x1 p1 p2 : UInt64) (t1 t2 : Int32) (X0 X1 P1 P2 : Int) (y1 y2 : UInt64) (sx0 : Sx X0 x0) (sx1 : Sx X1 x1) (bX0 : X0.natAbs ≤ 16384) (bX1 : X1.natAbs ≤ 16384) (t1n : ¬ t1 < 0) (hy1 : [Value.double x0, .double x1][t1.toNatClampNeg]? = some (.double y1)) (m1 : Sx P1 (FP.dmul p1 y1)) (bP1 : P1.natAbs ≤ 16384) (t2n : ¬ t2 < 0) (hy2 : [Value.double x0, .double x1][t2.toNatClampNeg]? = some (.double y2)) (m2 : Sx P2 (FP.dmul p2 y2)) (bP2 : P2.natAbs ≤ 16384) :
    Go l Z x code maxLocals ret room_1 n0 (fun v _ => v = some (.int 1)) h 0 0 74 #[.val (.int a), .val (.int b), .val (.int cc), .val (.int d), .val (.int fl), .val (.double x0), .second, .val (.double x1), .second, .val (.double p1), .second, .val (.double p2), .second, .val (.int t1), .val (.int t2), .val (.int (2 : Int32)), .unset, .unset, .unset, .unset, .unset, .unset, .unset, .unset] [] := by
  refine Go.iconst at_74 (q := 75) rfl (x := (2 : Int32)) (by decide) ?_
  refine Go.newarray (cap := 2) at_75 (q := 77) rfl (w2 hw) (by decide) (by decide) (by decide) (by decide) (by decide) ?_
  intro h1 ax kx e1 X1_ B1
  have nx : n0 ≤ ax := new_le (O.1 ▸ O.2.1) e1
  have O1 := O.ext X1_
  refine Go.dup at_77 (q := 78) rfl rfl ?_
  refine Go.iconst at_78 (q := 79) rfl (x := (0 : Int32)) (by decide) ?_
  refine Go.dload at_79 (q := 81) rfl rfl ?_
  refine Go.dastore at_81 (q := 82) rfl B1 (by decide) (by exact (by decide : (0 : Nat) < 2)) nx ?_
  intro h2 W2
  have O2 := O1.wr W2 nx
  have B2 : Ar Z h2 ax .double kx [.double x0, .double 0] := B1.set W2
  refine Go.dup at_82 (q := 83) rfl rfl ?_
  refine Go.iconst at_83 (q := 84) rfl (x := (1 : Int32)) (by decide) ?_
  refine Go.dload at_84 (q := 86) rfl rfl ?_
  refine Go.dastore at_86 (q := 87) rfl B2 (by decide) (by exact (by decide : (1 : Nat) < 2)) nx ?_
  intro h3 W3
  have O3 := O2.wr W3 nx
  have B3 : Ar Z h3 ax .double kx [.double x0, .double x1] := B2.set W3
  refine Go.astore at_87 (q := 89) rfl rfl (Ls' := #[.val (.int a), .val (.int b), .val (.int cc), .val (.int d), .val (.int fl), .val (.double x0), .second, .val (.double x1), .second, .val (.double p1), .second, .val (.double p2), .second, .val (.int t1), .val (.int t2), .val (.int (2 : Int32)), .val (.ref ax), .unset, .unset, .unset, .unset, .unset, .unset, .unset]) rfl ?_
  refine Go.new at_89 (q := 92) rfl (w3 hw) (w4 hw) (w5 hw) (by decide) (by decide) ?_
  intro h4 c e4 X4 E4 D4
  have nc : n0 ≤ c := new_le (O3.1 ▸ O3.2.1) e4
  have O4 := O3.ext X4
  have B4 := B3.ext X4
  have hax : @LT.lt Nat instLTNat ax c := by rw [e4]; exact B3.lt
  have F4 : FD Z h4 c (.int 0) (.int 0) .null .null .null .null .null .null .null .null .null .null .null .null (.int 0) (.int 0) := ⟨D4 (Or.inl (w13 hw)) pTn, D4 (Or.inr (w15 hw)) pTn, D4 (Or.inr (w18 hw)) pTi, D4 (Or.inr (w20 hw)) pTi, D4 (Or.inr (w22 hw)) pTi, D4 (Or.inr (w24 hw)) pTd, D4 (Or.inr (w26 hw)) pTd, D4 (Or.inr (w28 hw)) pTd, D4 (Or.inr (w30 hw)) pTd, D4 (Or.inr (w32 hw)) pTd, D4 (Or.inr (w34 hw)) pTd, D4 (Or.inr (w36 hw)) pTd, D4 (Or.inr (w38 hw)) pTd, D4 (Or.inr (w40 hw)) pTd, D4 (Or.inl (w51 hw)) pTn, D4 (Or.inl (w74 hw)) pTn⟩
  refine Go.dup at_92 (q := 93) rfl rfl ?_
  refine Go.iconst at_93 (q := 94) rfl (x := (2 : Int32)) (by decide) ?_
  refine Go.iconst at_94 (q := 95) rfl (x := (2 : Int32)) (by decide) ?_
  refine Go.callIN (P := fun h' => ∃ A, CN Z h' n0 c A ax (-1 : Int32) (0 : Int32) (0 : Int32) [(.int (0 : Int32)), (.int (0 : Int32)), (.int (0 : Int32))] [(.int (0 : Int32)), (.int (0 : Int32))] [(.int (0 : Int32)), (.int (0 : Int32))] [(.double 0), (.double 0)] [(.double 0), (.double 0)] [(.double x0), (.double x1)]) (argsL := [(.int (2 : Int32)), (.int (2 : Int32))]) (rest := [(.ref c)]) (wd := 1) (Ls1 := #[.val (.ref c), .val (.int (2 : Int32)), .val (.int (2 : Int32))]) at_95 (q := 98) rfl rfl (w6 hw) (w7 hw) (w5 hw) (w8 hw) (by decide) pn1 pd1 rfl rfl (fun m_ => by simp [entryFrame, mkF, argsToLocals, Value.category]) rfl (by decide) rfl (by decide) (by decide) (by decide) (ini l Z a0 hw n0 h4 O4 c nc E4 F4 ax hax kx x0 x1 B4 (Q := RN (fun h' => ∃ A, CN Z h' n0 c A ax (-1 : Int32) (0 : Int32) (0 : Int32) [(.int (0 : Int32)), (.int (0 : Int32)), (.int (0 : Int32))] [(.int (0 : Int32)), (.int (0 : Int32))] [(.int (0 : Int32)), (.int (0 : Int32))] [(.double 0), (.double 0)] [(.double 0), (.double 0)] [(.double x0), (.double x1)])) (fun h' A q => ⟨rfl, A, q⟩)) ?_
  rintro h5 ⟨A, C5⟩
  refine Go.astore at_98 (q := 100) rfl rfl (Ls' := #[.val (.int a), .val (.int b), .val (.int cc), .val (.int d), .val (.int fl), .val (.double x0), .second, .val (.double x1), .second, .val (.double p1), .second, .val (.double p2), .second, .val (.int t1), .val (.int t2), .val (.int (2 : Int32)), .val (.ref ax), .val (.ref c), .unset, .unset, .unset, .unset, .unset, .unset]) rfl ?_
  refine Go.aload at_100 (q := 102) rfl rfl rfl ?_
  refine Go.iconst at_102 (q := 103) rfl (x := (0 : Int32)) (by decide) ?_
  refine Go.callVN (P := fun h' => CN Z h' n0 c A ax (0 : Int32) (0 : Int32) (0 : Int32) [(.int (0 : Int32)), (.int (0 : Int32)), (.int (0 : Int32))] [(.int (0 : Int32)), (.int (0 : Int32))] [(.int (0 : Int32)), (.int (0 : Int32))] [(.double 0), (.double 0)] [(.double 0), (.double 0)] [(.double x0), (.double x1)]) (argsL := [(.int (0 : Int32))]) (rest := []) (wd := 0) (Ls1 := #[.val (.ref c), .val (.int (0 : Int32))]) at_103 (q := 106) rfl (w41 hw) (w42 hw) (w44 hw) (w43 hw) (w45 hw) (w5 hw) (by decide) pn3 pd3 rfl rfl C5.exa (fun m_ => by simp [entryFrame, mkF, argsToLocals, Value.category]) rfl (by decide) rfl (by decide) (by decide) (by decide) (state0 l Z a0 hw n0 h5 C5 (Q := RN (fun h' => CN Z h' n0 c A ax (0 : Int32) (0 : Int32) (0 : Int32) [(.int (0 : Int32)), (.int (0 : Int32)), (.int (0 : Int32))] [(.int (0 : Int32)), (.int (0 : Int32))] [(.int (0 : Int32)), (.int (0 : Int32))] [(.double 0), (.double 0)] [(.double 0), (.double 0)] [(.double x0), (.double x1)])) (fun h' q => ⟨rfl, q⟩)) ?_
  intro g301 Cg301
  refine Go.dload at_106 (q := 108) rfl rfl ?_
  refine Go.dnegX at_108 (q := 109) rfl sx0 ?_
  intro v302 sv302
  refine Go.dstore at_109 (q := 111) rfl (Ls' := #[.val (.int a), .val (.int b), .val (.int cc), .val (.int d), .val (.int fl), .val (.double x0), .second, .val (.double x1), .second, .val (.double p1), .second, .val (.double p2), .second, .val (.int t1), .val (.int t2), .val (.int (2 : Int32)), .val (.ref ax), .val (.ref c), .val (.double v302), .second, .unset, .unset, .unset, .unset]) rfl ?_
  refine Go.iload at_111 (q := 113) rfl rfl ?_
  refine Go.iconst at_113 (q := 114) rfl (x := (1 : Int32)) (by decide) ?_
  refine Go.icmp_lt at_114 (q := 139) (q' := 117) (by decide) rfl rfl (fun c_ => absurd c_ (by decide)) (fun _ => ?_)
  refine Go.aload at_117 (q := 119) rfl rfl rfl ?_
  refine Go.iload at_119 (q := 121) rfl rfl ?_
  refine Go.dload at_121 (q := 123) rfl rfl ?_
  refine Go.callVN (P := fun h' => CN Z h' n0 c A ax (0 : Int32) (1 : Int32) (0 : Int32) [(.int (0 : Int32)), (.int (0 : Int32)), (.int (0 : Int32))] [(.int (0 : Int32)), (.int (0 : Int32))] [(.int t1), (.int (0 : Int32))] [(.double p1), (.double 0)] [(.double 0), (.double 0)] [(.double x0), (.double x1)]) (argsL := [(.int t1), (.double p1)]) (rest := []) (wd := 0) (Ls1 := #[.val (.ref c), .val (.int t1), .val (.double p1), .second]) at_123 (q := 126) rfl (w76 hw) (w77 hw) (w79 hw) (w78 hw) (w80 hw) (w5 hw) (by decide) pn10 pd10 rfl rfl Cg301.exa (fun m_ => by simp [entryFrame, mkF, argsToLocals, Value.category]) rfl (by decide) rfl (by decide) (by decide) (by decide) (move0 l Z a0 hw n0 g301 t1 p1 Cg301 (Q := RN (fun h' => CN Z h' n0 c A ax (0 : Int32) (1 : Int32) (0 : Int32) [(.int (0 : Int32)), (.int (0 : Int32)), (.int (0 : Int32))] [(.int (0 : Int32)), (.int (0 : Int32))] [(.int t1), (.int (0 : Int32))] [(.double p1), (.double 0)] [(.double 0), (.double 0)] [(.double x0), (.double x1)])) (fun h' q => ⟨rfl, q⟩)) ?_
  intro g304 Cg304
  refine Go.dload at_126 (q := 128) rfl rfl ?_
  refine Go.dload at_128 (q := 130) rfl rfl ?_
  refine Go.aload at_130 (q := 132) rfl rfl rfl ?_
  refine Go.iload at_132 (q := 134) rfl rfl ?_
  refine Go.daload at_134 (q := 135) rfl (Cg304.ax).choose_spec t1n hy1 ?_
  refine Go.dmul at_135 (q := 136) rfl (sx_nn m1) ?_
  refine Go.daddX at_136 (q := 137) rfl (sx_add sv302 m1 (by omega)) ?_
  intro v306 sv306
  refine Go.dstore at_137 (q := 139) rfl (Ls' := #[.val (.int a), .val (.int b), .val (.int cc), .val (.int d), .val (.int fl), .val (.double x0), .second, .val (.double x1), .second, .val (.double p1), .second, .val (.double p2), .second, .val (.int t1), .val (.int t2), .val (.int (2 : Int32)), .val (.ref ax), .val (.ref c), .val (.double v306), .second, .unset, .unset, .unset, .unset]) rfl ?_
  refine Go.iload at_139 (q := 141) rfl rfl ?_
  refine Go.iconst at_141 (q := 142) rfl (x := (2 : Int32)) (by decide) ?_
  refine Go.icmp_lt at_142 (q := 167) (q' := 145) (by decide) rfl rfl (fun c_ => absurd c_ (by decide)) (fun _ => ?_)
  refine Go.aload at_145 (q := 147) rfl rfl rfl ?_
  refine Go.iload at_147 (q := 149) rfl rfl ?_
  refine Go.dload at_149 (q := 151) rfl rfl ?_
  refine Go.callVN (P := fun h' => CN Z h' n0 c A ax (0 : Int32) (2 : Int32) (0 : Int32) [(.int (0 : Int32)), (.int (0 : Int32)), (.int (0 : Int32))] [(.int (0 : Int32)), (.int (0 : Int32))] [(.int t1), (.int t2)] [(.double p1), (.double p2)] [(.double 0), (.double 0)] [(.double x0), (.double x1)]) (argsL := [(.int t2), (.double p2)]) (rest := []) (wd := 0) (Ls1 := #[.val (.ref c), .val (.int t2), .val (.double p2), .second]) at_151 (q := 154) rfl (w76 hw) (w77 hw) (w79 hw) (w78 hw) (w80 hw) (w5 hw) (by decide) pn10 pd10 rfl rfl Cg304.exa (fun m_ => by simp [entryFrame, mkF, argsToLocals, Value.category]) rfl (by decide) rfl (by decide) (by decide) (by decide) (move1 l Z a0 hw n0 g304 t2 p2 Cg304 (Q := RN (fun h' => CN Z h' n0 c A ax (0 : Int32) (2 : Int32) (0 : Int32) [(.int (0 : Int32)), (.int (0 : Int32)), (.int (0 : Int32))] [(.int (0 : Int32)), (.int (0 : Int32))] [(.int t1), (.int t2)] [(.double p1), (.double p2)] [(.double 0), (.double 0)] [(.double x0), (.double x1)])) (fun h' q => ⟨rfl, q⟩)) ?_
  intro g308 Cg308
  refine Go.dload at_154 (q := 156) rfl rfl ?_
  refine Go.dload at_156 (q := 158) rfl rfl ?_
  refine Go.aload at_158 (q := 160) rfl rfl rfl ?_
  refine Go.iload at_160 (q := 162) rfl rfl ?_
  refine Go.daload at_162 (q := 163) rfl (Cg308.ax).choose_spec t2n hy2 ?_
  refine Go.dmul at_163 (q := 164) rfl (sx_nn m2) ?_
  refine Go.daddX at_164 (q := 165) rfl (sx_add sv306 m2 (by omega)) ?_
  intro v310 sv310
  refine Go.dstore at_165 (q := 167) rfl (Ls' := #[.val (.int a), .val (.int b), .val (.int cc), .val (.int d), .val (.int fl), .val (.double x0), .second, .val (.double x1), .second, .val (.double p1), .second, .val (.double p2), .second, .val (.int t1), .val (.int t2), .val (.int (2 : Int32)), .val (.ref ax), .val (.ref c), .val (.double v310), .second, .unset, .unset, .unset, .unset]) rfl ?_
  refine Go.aload at_167 (q := 169) rfl rfl rfl ?_
  refine Go.iconst at_169 (q := 170) rfl (x := (1 : Int32)) (by decide) ?_
  refine Go.callVN (P := fun h' => CN Z h' n0 c A ax (1 : Int32) (2 : Int32) (0 : Int32) [(.int (0 : Int32)), (.int (2 : Int32)), (.int (0 : Int32))] [(.int (0 : Int32)), (.int (0 : Int32))] [(.int t1), (.int t2)] [(.double p1), (.double p2)] [(.double 0), (.double 0)] [(.double x0), (.double x1)]) (argsL := [(.int (1 : Int32))]) (rest := []) (wd := 0) (Ls1 := #[.val (.ref c), .val (.int (1 : Int32))]) at_170 (q := 173) rfl (w41 hw) (w42 hw) (w44 hw) (w43 hw) (w45 hw) (w5 hw) (by decide) pn3 pd3 rfl rfl Cg308.exa (fun m_ => by simp [entryFrame, mkF, argsToLocals, Value.category]) rfl (by decide) rfl (by decide) (by decide) (by decide) (state1_2 l Z a0 hw n0 g308 t1n t2n Cg308 (Q := RN (fun h' => CN Z h' n0 c A ax (1 : Int32) (2 : Int32) (0 : Int32) [(.int (0 : Int32)), (.int (2 : Int32)), (.int (0 : Int32))] [(.int (0 : Int32)), (.int (0 : Int32))] [(.int t1), (.int t2)] [(.double p1), (.double p2)] [(.double 0), (.double 0)] [(.double x0), (.double x1)])) (fun h' q => ⟨rfl, q⟩)) ?_
  intro g311 Cg311
  refine Go.aload at_173 (q := 175) rfl rfl rfl ?_
  refine Go.dload at_175 (q := 177) rfl rfl ?_
  refine Go.callVN (P := fun h' => ∃ v, Sx (0 + X1) v ∧ CN Z h' n0 c A ax (1 : Int32) (2 : Int32) (0 : Int32) [(.int (0 : Int32)), (.int (2 : Int32)), (.int (0 : Int32))] [(.int (0 : Int32)), (.int (0 : Int32))] [(.int t1), (.int t2)] [(.double p1), (.double p2)] [(.double 0), (.double v)] [(.double x0), (.double x1)]) (argsL := [(.double x1)]) (rest := []) (wd := 0) (Ls1 := #[.val (.ref c), .val (.double x1), .second]) at_177 (q := 180) rfl (w52 hw) (w53 hw) (w55 hw) (w54 hw) (w56 hw) (w5 hw) (by decide) pn5 pd5 rfl rfl Cg311.exa (fun m_ => by simp [entryFrame, mkF, argsToLocals, Value.category]) rfl (by decide) rfl (by decide) (by decide) (by decide) (gain l Z a0 hw n0 g311 x1 sx1 bX1 Cg311 (Q := RN (fun h' => ∃ v, Sx (0 + X1) v ∧ CN Z h' n0 c A ax (1 : Int32) (2 : Int32) (0 : Int32) [(.int (0 : Int32)), (.int (2 : Int32)), (.int (0 : Int32))] [(.int (0 : Int32)), (.int (0 : Int32))] [(.int t1), (.int t2)] [(.double p1), (.double p2)] [(.double 0), (.double v)] [(.double x0), (.double x1)])) (fun h' v q1 q2 => ⟨rfl, v, q1, q2⟩)) ?_
  rintro g312 ⟨u1, su1, Cg312⟩
  refine Go.dload at_180 (q := 182) rfl rfl ?_
  refine Go.dconst0 at_182 (q := 183) rfl ?_
  rcases Int.lt_trichotomy (((-X0) + P1) + P2) 0 with q | q | q
  · skip
    refine Go.dcmpX at_183 (q := 184) rfl sv310 sx_zero (cmpI_lt q) ?_
    refine Go.if_ge at_184 (q := 193) (q' := 187) (by decide) rfl rfl (fun c_ => absurd (by decide) c_) (fun _ => ?_)
    refine Go.dload at_187 (q := 189) rfl rfl ?_
    refine Go.dnegX at_189 (q := 190) rfl sv310 ?_
    intro v314 sv314
    refine Go.goto at_190 (q := 195) (by decide) rfl ?_
    refine Go.dstore at_195 (q := 197) rfl (Ls' := #[.val (.int a), .val (.int b), .val (.int cc), .val (.int d), .val (.int fl), .val (.double x0), .second, .val (.double x1), .second, .val (.double p1), .second, .val (.double p2), .second, .val (.int t1), .val (.int t2), .val (.int (2 : Int32)), .val (.ref ax), .val (.ref c), .val (.double v310), .second, .val (.double v314), .second, .unset, .unset]) rfl ?_
    refine Go.aload at_197 (q := 199) rfl rfl rfl ?_
    refine Go.aload at_199 (q := 201) rfl rfl rfl ?_
    refine Go.dload at_201 (q := 203) rfl rfl ?_
    refine Go.iconst at_203 (q := 204) rfl (x := (0 : Int32)) (by decide) ?_
    refine Go.callVV (P := fun w_ h' => w_ = .int 1 ∧ CN Z h' n0 c A ax (-1 : Int32) (2 : Int32) (0 : Int32) [(.int (0 : Int32)), (.int (2 : Int32)), (.int (2 : Int32))] [(.int (0 : Int32)), (.int (2 : Int32))] [(.int t1), (.int t2)] [(.double p1), (.double p2)] [(.double 0), (.double u1)] [(.double x0), (.double x1)]) (argsL := [(.ref ax), (.double v314), (.int (0 : Int32))]) (rest := []) (wd := 0) (Ls1 := #[.val (.ref c), .val (.ref ax), .val (.double v314), .second, .val (.int (0 : Int32))]) at_204 (q := 207) rfl (w57 hw) (w58 hw) (w60 hw) (w59 hw) (w61 hw) (w5 hw) (by decide) pn6 pd6 rfl rfl Cg312.exa (fun m_ => by simp [entryFrame, mkF, argsToLocals, Value.category]) rfl (by decide) rfl (by decide) (by decide) (by decide) (s3_2_eq l Z a0 hw n0 g312 X0 X1 (0 + X1) (-(((-X0) + P1) + P2)) P1 P2 v314 y1 y2 sx0 sx1 su1 (by omega) bX0 bX1 sv314 t1n hy1 m1 bP1 t2n hy2 m2 bP2 (by omega) Cg312 (Q := RV (fun w_ h' => w_ = .int 1 ∧ CN Z h' n0 c A ax (-1 : Int32) (2 : Int32) (0 : Int32) [(.int (0 : Int32)), (.int (2 : Int32)), (.int (2 : Int32))] [(.int (0 : Int32)), (.int (2 : Int32))] [(.int t1), (.int t2)] [(.double p1), (.double p2)] [(.double 0), (.double u1)] [(.double x0), (.double x1)])) (fun h' q => ⟨_, rfl, rfl, q⟩)) ?_
    rintro _ g315 ⟨rfl, Cg315⟩
    refine Go.istore at_207 (q := 209) rfl (Ls' := #[.val (.int a), .val (.int b), .val (.int cc), .val (.int d), .val (.int fl), .val (.double x0), .second, .val (.double x1), .second, .val (.double p1), .second, .val (.double p2), .second, .val (.int t1), .val (.int t2), .val (.int (2 : Int32)), .val (.ref ax), .val (.ref c), .val (.double v310), .second, .val (.double v314), .second, .val (.int (1 : Int32)), .unset]) rfl ?_
    refine Go.aload at_209 (q := 211) rfl rfl rfl ?_
    refine Go.aload at_211 (q := 213) rfl rfl rfl ?_
    refine Go.dload at_213 (q := 215) rfl rfl ?_
    refine Go.ldc2D at_215 (q := 218) rfl (v := (4584664420663164928 : UInt64)) (w75 hw) ?_
    refine Go.dsubX at_218 (q := 219) rfl (sx_sub sv314 sx_32 (by omega)) ?_
    intro v316 sv316
    refine Go.iconst at_219 (q := 220) rfl (x := (0 : Int32)) (by decide) ?_
    refine Go.callVV (P := fun w_ h' => w_ = .int 0 ∧ CN Z h' n0 c A ax (-1 : Int32) (2 : Int32) (0 : Int32) [(.int (0 : Int32)), (.int (2 : Int32)), (.int (2 : Int32))] [(.int (0 : Int32)), (.int (2 : Int32))] [(.int t1), (.int t2)] [(.double p1), (.double p2)] [(.double 0), (.double u1)] [(.double x0), (.double x1)]) (argsL := [(.ref ax), (.double v316), (.int (0 : Int32))]) (rest := []) (wd := 0) (Ls1 := #[.val (.ref c), .val (.ref ax), .val (.double v316), .second, .val (.int (0 : Int32))]) at_220 (q := 223) rfl (w57 hw) (w58 hw) (w60 hw) (w59 hw) (w61 hw) (w5 hw) (by decide) pn6 pd6 rfl rfl Cg315.exa (fun m_ => by simp [entryFrame, mkF, argsToLocals, Value.category]) rfl (by decide) rfl (by decide) (by decide) (by decide) (s3_2_gt l Z a0 hw n0 g315 X0 X1 (0 + X1) ((-(((-X0) + P1) + P2)) - 1) P1 P2 v316 y1 y2 sx0 sx1 su1 (by omega) bX0 bX1 sv316 t1n hy1 m1 bP1 t2n hy2 m2 bP2 (by omega) Cg315 (Q := RV (fun w_ h' => w_ = .int 0 ∧ CN Z h' n0 c A ax (-1 : Int32) (2 : Int32) (0 : Int32) [(.int (0 : Int32)), (.int (2 : Int32)), (.int (2 : Int32))] [(.int (0 : Int32)), (.int (2 : Int32))] [(.int t1), (.int t2)] [(.double p1), (.double p2)] [(.double 0), (.double u1)] [(.double x0), (.double x1)])) (fun h' q => ⟨_, rfl, rfl, q⟩)) ?_
    rintro _ g317 ⟨rfl, Cg317⟩
    refine Go.istore at_223 (q := 225) rfl (Ls' := #[.val (.int a), .val (.int b), .val (.int cc), .val (.int d), .val (.int fl), .val (.double x0), .second, .val (.double x1), .second, .val (.double p1), .second, .val (.double p2), .second, .val (.int t1), .val (.int t2), .val (.int (2 : Int32)), .val (.ref ax), .val (.ref c), .val (.double v310), .second, .val (.double v314), .second, .val (.int (1 : Int32)), .val (.int (0 : Int32))]) rfl ?_
    refine Go.iload at_225 (q := 227) rfl rfl ?_
    refine Go.if_eq at_227 (q := 239) (q' := 230) (by decide) rfl rfl (fun c_ => absurd c_ (by decide)) (fun _ => ?_)
    refine Go.iload at_230 (q := 232) rfl rfl ?_
    refine Go.if_ne at_232 (q := 239) (q' := 235) (by decide) rfl rfl (fun c_ => absurd (by decide) c_) (fun _ => ?_)
    refine Go.iconst at_235 (q := 236) rfl (x := (1 : Int32)) (by decide) ?_
    refine Go.goto at_236 (q := 240) (by decide) rfl ?_
    refine Go.zreturn at_240 (by decide) (by decide) (by decide) ?_
    exact rfl
  · skip
    refine Go.dcmpX at_183 (q := 184) rfl sv310 sx_zero (cmpI_eq q) ?_
    refine Go.if_ge at_184 (q := 193) (q' := 187) (by decide) rfl rfl (fun _ => ?_) (fun c_ => absurd c_ (by decide))
    refine Go.dload at_193 (q := 195) rfl rfl ?_
    refine Go.dstore at_195 (q := 197) rfl (Ls' := #[.val (.int a), .val (.int b), .val (.int cc), .val (.int d), .val (.int fl), .val (.double x0), .second, .val (.double x1), .second, .val (.double p1), .second, .val (.double p2), .second, .val (.int t1), .val (.int t2), .val (.int (2 : Int32)), .val (.ref ax), .val (.ref c), .val (.double v310), .second, .val (.double v310), .second, .unset, .unset]) rfl ?_
    refine Go.aload at_197 (q := 199) rfl rfl rfl ?_
    refine Go.aload at_199 (q := 201) rfl rfl rfl ?_
    refine Go.dload at_201 (q := 203) rfl rfl ?_
    refine Go.iconst at_203 (q := 204) rfl (x := (0 : Int32)) (by decide) ?_
    refine Go.callVV (P := fun w_ h' => w_ = .int 1 ∧ CN Z h' n0 c A ax (-1 : Int32) (2 : Int32) (0 : Int32) [(.int (0 : Int32)), (.int (2 : Int32)), (.int (2 : Int32))] [(.int (0 : Int32)), (.int (2 : Int32))] [(.int t1), (.int t2)] [(.double p1), (.double p2)] [(.double 0), (.double u1)] [(.double x0), (.double x1)]) (argsL := [(.ref ax), (.double v310), (.int (0 : Int32))]) (rest := []) (wd := 0) (Ls1 := #[.val (.ref c), .val (.ref ax), .val (.double v310), .second, .val (.int (0 : Int32))]) at_204 (q := 207) rfl (w57 hw) (w58 hw) (w60 hw) (w59 hw) (w61 hw) (w5 hw) (by decide) pn6 pd6 rfl rfl Cg312.exa (fun m_ => by simp [entryFrame, mkF, argsToLocals, Value.category]) rfl (by decide) rfl (by decide) (by decide) (by decide) (s3_2_eq l Z a0 hw n0 g312 X0 X1 (0 + X1) (((-X0) + P1) + P2) P1 P2 v310 y1 y2 sx0 sx1 su1 (by omega) bX0 bX1 sv310 t1n hy1 m1 bP1 t2n hy2 m2 bP2 (by omega) Cg312 (Q := RV (fun w_ h' => w_ = .int 1 ∧ CN Z h' n0 c A ax (-1 : Int32) (2 : Int32) (0 : Int32) [(.int (0 : Int32)), (.int (2 : Int32)), (.int (2 : Int32))] [(.int (0 : Int32)), (.int (2 : Int32))] [(.int t1), (.int t2)] [(.double p1), (.double p2)] [(.double 0), (.double u1)] [(.double x0), (.double x1)])) (fun h' q => ⟨_, rfl, rfl, q⟩)) ?_
    rintro _ g321 ⟨rfl, Cg321⟩
    refine Go.istore at_207 (q := 209) rfl (Ls' := #[.val (.int a), .val (.int b), .val (.int cc), .val (.int d), .val (.int fl), .val (.double x0), .second, .val (.double x1), .second, .val (.double p1), .second, .val (.double p2), .second, .val (.int t1), .val (.int t2), .val (.int (2 : Int32)), .val (.ref ax), .val (.ref c), .val (.double v310), .second, .val (.double v310), .second, .val (.int (1 : Int32)), .unset]) rfl ?_
    refine Go.aload at_209 (q := 211) rfl rfl rfl ?_
    refine Go.aload at_211 (q := 213) rfl rfl rfl ?_
    refine Go.dload at_213 (q := 215) rfl rfl ?_
    refine Go.ldc2D at_215 (q := 218) rfl (v := (4584664420663164928 : UInt64)) (w75 hw) ?_
    refine Go.dsubX at_218 (q := 219) rfl (sx_sub sv310 sx_32 (by omega)) ?_
    intro v322 sv322
    refine Go.iconst at_219 (q := 220) rfl (x := (0 : Int32)) (by decide) ?_
    refine Go.callVV (P := fun w_ h' => w_ = .int 0 ∧ CN Z h' n0 c A ax (-1 : Int32) (2 : Int32) (0 : Int32) [(.int (0 : Int32)), (.int (2 : Int32)), (.int (2 : Int32))] [(.int (0 : Int32)), (.int (2 : Int32))] [(.int t1), (.int t2)] [(.double p1), (.double p2)] [(.double 0), (.double u1)] [(.double x0), (.double x1)]) (argsL := [(.ref ax), (.double v322), (.int (0 : Int32))]) (rest := []) (wd := 0) (Ls1 := #[.val (.ref c), .val (.ref ax), .val (.double v322), .second, .val (.int (0 : Int32))]) at_220 (q := 223) rfl (w57 hw) (w58 hw) (w60 hw) (w59 hw) (w61 hw) (w5 hw) (by decide) pn6 pd6 rfl rfl Cg321.exa (fun m_ => by simp [entryFrame, mkF, argsToLocals, Value.category]) rfl (by decide) rfl (by decide) (by decide) (by decide) (s3_2_gt l Z a0 hw n0 g321 X0 X1 (0 + X1) ((((-X0) + P1) + P2) - 1) P1 P2 v322 y1 y2 sx0 sx1 su1 (by omega) bX0 bX1 sv322 t1n hy1 m1 bP1 t2n hy2 m2 bP2 (by omega) Cg321 (Q := RV (fun w_ h' => w_ = .int 0 ∧ CN Z h' n0 c A ax (-1 : Int32) (2 : Int32) (0 : Int32) [(.int (0 : Int32)), (.int (2 : Int32)), (.int (2 : Int32))] [(.int (0 : Int32)), (.int (2 : Int32))] [(.int t1), (.int t2)] [(.double p1), (.double p2)] [(.double 0), (.double u1)] [(.double x0), (.double x1)])) (fun h' q => ⟨_, rfl, rfl, q⟩)) ?_
    rintro _ g323 ⟨rfl, Cg323⟩
    refine Go.istore at_223 (q := 225) rfl (Ls' := #[.val (.int a), .val (.int b), .val (.int cc), .val (.int d), .val (.int fl), .val (.double x0), .second, .val (.double x1), .second, .val (.double p1), .second, .val (.double p2), .second, .val (.int t1), .val (.int t2), .val (.int (2 : Int32)), .val (.ref ax), .val (.ref c), .val (.double v310), .second, .val (.double v310), .second, .val (.int (1 : Int32)), .val (.int (0 : Int32))]) rfl ?_
    refine Go.iload at_225 (q := 227) rfl rfl ?_
    refine Go.if_eq at_227 (q := 239) (q' := 230) (by decide) rfl rfl (fun c_ => absurd c_ (by decide)) (fun _ => ?_)
    refine Go.iload at_230 (q := 232) rfl rfl ?_
    refine Go.if_ne at_232 (q := 239) (q' := 235) (by decide) rfl rfl (fun c_ => absurd (by decide) c_) (fun _ => ?_)
    refine Go.iconst at_235 (q := 236) rfl (x := (1 : Int32)) (by decide) ?_
    refine Go.goto at_236 (q := 240) (by decide) rfl ?_
    refine Go.zreturn at_240 (by decide) (by decide) (by decide) ?_
    exact rfl
  · skip
    refine Go.dcmpX at_183 (q := 184) rfl sv310 sx_zero (cmpI_gt q) ?_
    refine Go.if_ge at_184 (q := 193) (q' := 187) (by decide) rfl rfl (fun _ => ?_) (fun c_ => absurd c_ (by decide))
    refine Go.dload at_193 (q := 195) rfl rfl ?_
    refine Go.dstore at_195 (q := 197) rfl (Ls' := #[.val (.int a), .val (.int b), .val (.int cc), .val (.int d), .val (.int fl), .val (.double x0), .second, .val (.double x1), .second, .val (.double p1), .second, .val (.double p2), .second, .val (.int t1), .val (.int t2), .val (.int (2 : Int32)), .val (.ref ax), .val (.ref c), .val (.double v310), .second, .val (.double v310), .second, .unset, .unset]) rfl ?_
    refine Go.aload at_197 (q := 199) rfl rfl rfl ?_
    refine Go.aload at_199 (q := 201) rfl rfl rfl ?_
    refine Go.dload at_201 (q := 203) rfl rfl ?_
    refine Go.iconst at_203 (q := 204) rfl (x := (0 : Int32)) (by decide) ?_
    refine Go.callVV (P := fun w_ h' => w_ = .int 1 ∧ CN Z h' n0 c A ax (-1 : Int32) (2 : Int32) (0 : Int32) [(.int (0 : Int32)), (.int (2 : Int32)), (.int (2 : Int32))] [(.int (0 : Int32)), (.int (2 : Int32))] [(.int t1), (.int t2)] [(.double p1), (.double p2)] [(.double 0), (.double u1)] [(.double x0), (.double x1)]) (argsL := [(.ref ax), (.double v310), (.int (0 : Int32))]) (rest := []) (wd := 0) (Ls1 := #[.val (.ref c), .val (.ref ax), .val (.double v310), .second, .val (.int (0 : Int32))]) at_204 (q := 207) rfl (w57 hw) (w58 hw) (w60 hw) (w59 hw) (w61 hw) (w5 hw) (by decide) pn6 pd6 rfl rfl Cg312.exa (fun m_ => by simp [entryFrame, mkF, argsToLocals, Value.category]) rfl (by decide) rfl (by decide) (by decide) (by decide) (s3_2_eq l Z a0 hw n0 g312 X0 X1 (0 + X1) (((-X0) + P1) + P2) P1 P2 v310 y1 y2 sx0 sx1 su1 (by omega) bX0 bX1 sv310 t1n hy1 m1 bP1 t2n hy2 m2 bP2 (by omega) Cg312 (Q := RV (fun w_ h' => w_ = .int 1 ∧ CN Z h' n0 c A ax (-1 : Int32) (2 : Int32) (0 : Int32) [(.int (0 : Int32)), (.int (2 : Int32)), (.int (2 : Int32))] [(.int (0 : Int32)), (.int (2 : Int32))] [(.int t1), (.int t2)] [(.double p1), (.double p2)] [(.double 0), (.double u1)] [(.double x0), (.double x1)])) (fun h' q => ⟨_, rfl, rfl, q⟩)) ?_
    rintro _ g327 ⟨rfl, Cg327⟩
    refine Go.istore at_207 (q := 209) rfl (Ls' := #[.val (.int a), .val (.int b), .val (.int cc), .val (.int d), .val (.int fl), .val (.double x0), .second, .val (.double x1), .second, .val (.double p1), .second, .val (.double p2), .second, .val (.int t1), .val (.int t2), .val (.int (2 : Int32)), .val (.ref ax), .val (.ref c), .val (.double v310), .second, .val (.double v310), .second, .val (.int (1 : Int32)), .unset]) rfl ?_
    refine Go.aload at_209 (q := 211) rfl rfl rfl ?_
    refine Go.aload at_211 (q := 213) rfl rfl rfl ?_
    refine Go.dload at_213 (q := 215) rfl rfl ?_
    refine Go.ldc2D at_215 (q := 218) rfl (v := (4584664420663164928 : UInt64)) (w75 hw) ?_
    refine Go.dsubX at_218 (q := 219) rfl (sx_sub sv310 sx_32 (by omega)) ?_
    intro v328 sv328
    refine Go.iconst at_219 (q := 220) rfl (x := (0 : Int32)) (by decide) ?_
    refine Go.callVV (P := fun w_ h' => w_ = .int 0 ∧ CN Z h' n0 c A ax (-1 : Int32) (2 : Int32) (0 : Int32) [(.int (0 : Int32)), (.int (2 : Int32)), (.int (2 : Int32))] [(.int (0 : Int32)), (.int (2 : Int32))] [(.int t1), (.int t2)] [(.double p1), (.double p2)] [(.double 0), (.double u1)] [(.double x0), (.double x1)]) (argsL := [(.ref ax), (.double v328), (.int (0 : Int32))]) (rest := []) (wd := 0) (Ls1 := #[.val (.ref c), .val (.ref ax), .val (.double v328), .second, .val (.int (0 : Int32))]) at_220 (q := 223) rfl (w57 hw) (w58 hw) (w60 hw) (w59 hw) (w61 hw) (w5 hw) (by decide) pn6 pd6 rfl rfl Cg327.exa (fun m_ => by simp [entryFrame, mkF, argsToLocals, Value.category]) rfl (by decide) rfl (by decide) (by decide) (by decide) (s3_2_gt l Z a0 hw n0 g327 X0 X1 (0 + X1) ((((-X0) + P1) + P2) - 1) P1 P2 v328 y1 y2 sx0 sx1 su1 (by omega) bX0 bX1 sv328 t1n hy1 m1 bP1 t2n hy2 m2 bP2 (by omega) Cg327 (Q := RV (fun w_ h' => w_ = .int 0 ∧ CN Z h' n0 c A ax (-1 : Int32) (2 : Int32) (0 : Int32) [(.int (0 : Int32)), (.int (2 : Int32)), (.int (2 : Int32))] [(.int (0 : Int32)), (.int (2 : Int32))] [(.int t1), (.int t2)] [(.double p1), (.double p2)] [(.double 0), (.double u1)] [(.double x0), (.double x1)])) (fun h' q => ⟨_, rfl, rfl, q⟩)) ?_
    rintro _ g329 ⟨rfl, Cg329⟩
    refine Go.istore at_223 (q := 225) rfl (Ls' := #[.val (.int a), .val (.int b), .val (.int cc), .val (.int d), .val (.int fl), .val (.double x0), .second, .val (.double x1), .second, .val (.double p1), .second, .val (.double p2), .second, .val (.int t1), .val (.int t2), .val (.int (2 : Int32)), .val (.ref ax), .val (.ref c), .val (.double v310), .second, .val (.double v310), .second, .val (.int (1 : Int32)), .val (.int (0 : Int32))]) rfl ?_
    refine Go.iload at_225 (q := 227) rfl rfl ?_
    refine Go.if_eq at_227 (q := 239) (q' := 230) (by decide) rfl rfl (fun c_ => absurd c_ (by decide)) (fun _ => ?_)
    refine Go.iload at_230 (q := 232) rfl rfl ?_
    refine Go.if_ne at_232 (q := 239) (q' := 235) (by decide) rfl rfl (fun c_ => absurd (by decide) c_) (fun _ => ?_)
    refine Go.iconst at_235 (q := 236) rfl (x := (1 : Int32)) (by decide) ?_
    refine Go.goto at_236 (q := 240) (by decide) rfl ?_
    refine Go.zreturn at_240 (by decide) (by decide) (by decide) ?_
    exact rfl
theorem pk {t : Int32} (ht : t = 0 ∨ t = 1) {x0 x1 : UInt64} {X0 X1 : Int} (d0 : FP.Core.DInt X0 x0) (d1 : FP.Core.DInt X1 x1) (b0 : X0.natAbs ≤ 512) (b1 : X1.natAbs ≤ 512) : ∃ y Y, ¬ t < 0 ∧ [Value.double x0, .double x1][t.toNatClampNeg]? = some (.double y) ∧ FP.Core.DInt Y y ∧ Y.natAbs ≤ 512 := by
  rcases ht with rfl | rfl
  · exact ⟨x0, X0, by decide, rfl, d0, b0⟩
  · exact ⟨x1, X1, by decide, rfl, d1, b1⟩
theorem pm {K Y : Int} {p y : UInt64} (sp : Sx K p) (dy : FP.Core.DInt Y y) (bK : K.natAbs ≤ 32) (bY : Y.natAbs ≤ 512) : ∃ P, Sx P (FP.dmul p y) ∧ P.natAbs ≤ 16384 := by
  have h : (K * Y).natAbs ≤ 16384 := by rw [Int.natAbs_mul]; exact Nat.le_trans (Nat.mul_le_mul bK bY) (by decide)
  exact ⟨K * Y, sx_mul sp dy (by omega), h⟩
theorem x_rng (a : Int32) : ((a &&& 1023) - 512).toInt.natAbs ≤ 512 := by
  have e := c_mask a 1023 10 (by decide) (by decide)
  have q := (c_isub (a &&& 1023) 512)
  have z : (512 : Int32).toInt = 512 := rfl
  have r1 := Int32.toInt_lt ((a &&& 1023) - 512)
  have r2 := Int32.le_toInt ((a &&& 1023) - 512)
  omega
theorem k17 (c : Int32) : 0 ≤ ((c &&& 2147483647) % 17).toInt ∧ ((c &&& 2147483647) % 17).toInt ≤ 16 := by
  have e := c_mask c 2147483647 31 (by decide) (by decide)
  have e6 := (c_irem (c &&& 2147483647) 17 17 rfl).1 (by omega)
  omega
theorem and1 (x : Int32) : x &&& 1 = 0 ∨ x &&& 1 = 1 := by
  have e := c_mask x 1 1 (by decide) (by decide)
  have z0 : (0 : Int32).toInt = 0 := rfl
  have z1 : (1 : Int32).toInt = 1 := rfl
  simp only [← Int32.toInt_inj]
  omega
set_option maxRecDepth 65536 in
set_option maxHeartbeats 40000000 in
theorem law74 (l : Launch) (Z : State) (a0 : Array Value) (hw : Hw a0 Z) (n0 : Nat) (h : Heap) (O : Old Z n0 h) (a b cc d fl : Int32) (x0 x1 p1 p2 : UInt64) (t1 t2 : Int32) (m : Int32) (X0 X1 K1 K2 : Int) (d0 : FP.Core.DInt X0 x0) (d1 : FP.Core.DInt X1 x1) (b0 : X0.natAbs ≤ 512) (b1 : X1.natAbs ≤ 512) (sp1 : Sx K1 p1) (sp2 : Sx K2 p2) (bK1 : K1.natAbs ≤ 32) (bK2 : K2.natAbs ≤ 32) (ht1 : t1 = 0 ∨ t1 = 1) (ht2 : t2 = 0 ∨ t2 = 1) (hm : m = 0 ∨ m = 1 ∨ m = 2) :
    Go l Z x code maxLocals ret room_1 n0 (fun v _ => v = some (.int 1)) h 0 0 74 #[.val (.int a), .val (.int b), .val (.int cc), .val (.int d), .val (.int fl), .val (.double x0), .second, .val (.double x1), .second, .val (.double p1), .second, .val (.double p2), .second, .val (.int t1), .val (.int t2), .val (.int m), .unset, .unset, .unset, .unset, .unset, .unset, .unset, .unset] [] := by
  obtain ⟨y1, Y1, t1n, hy1, dy1, bY1⟩ := pk ht1 d0 d1 b0 b1
  obtain ⟨y2, Y2, t2n, hy2, dy2, bY2⟩ := pk ht2 d0 d1 b0 b1
  obtain ⟨P1, m1, bP1⟩ := pm sp1 dy1 bK1 bY1
  obtain ⟨P2, m2, bP2⟩ := pm sp2 dy2 bK2 bY2
  rcases hm with rfl | rfl | rfl
  · exact law74_0 l Z a0 hw n0 h O a b cc d fl x0 x1 p1 p2 t1 t2 (32 * X0) (32 * X1) P1 P2 y1 y2 (sx_whole d0) (sx_whole d1) (by omega) (by omega) t1n hy1 m1 bP1 t2n hy2 m2 bP2
  · exact law74_1 l Z a0 hw n0 h O a b cc d fl x0 x1 p1 p2 t1 t2 (32 * X0) (32 * X1) P1 P2 y1 y2 (sx_whole d0) (sx_whole d1) (by omega) (by omega) t1n hy1 m1 bP1 t2n hy2 m2 bP2
  · exact law74_2 l Z a0 hw n0 h O a b cc d fl x0 x1 p1 p2 t1 t2 (32 * X0) (32 * X1) P1 P2 y1 y2 (sx_whole d0) (sx_whole d1) (by omega) (by omega) t1n hy1 m1 bP1 t2n hy2 m2 bP2
theorem ushr2_nn (v : Int32) : 0 ≤ (XT.ushr v (2 : Int32)).toInt := by
  have e := c_iushr v 2 2 (by decide) (by decide)
  have e' : (XT.ushr v (2 : Int32)).toInt = (v.toInt % 4294967296) / (2 ^ 2 : Nat) := e
  have p : 0 ≤ v.toInt % 4294967296 := Int.emod_nonneg _ (by decide)
  omega
theorem rem3 (x : Int32) : XT.ushr x 2 % 3 = 0 ∨ XT.ushr x 2 % 3 = 1 ∨ XT.ushr x 2 % 3 = 2 := by
  have e := ushr2_nn x
  have e6 := (c_irem (XT.ushr x 2) 3 3 rfl).1 e
  have z0 : (0 : Int32).toInt = 0 := rfl
  have z1 : (1 : Int32).toInt = 1 := rfl
  have z2 : (2 : Int32).toInt = 2 := rfl
  simp only [← Int32.toInt_inj]
  omega
set_option maxRecDepth 65536 in
set_option maxHeartbeats 40000000 in
theorem b0 (l : Launch) (Z : State) (a0 : Array Value) (hw : Hw a0 Z) (n0 : Nat) (h : Heap) (O : Old Z n0 h) (a b cc d fl : Int32) :
    Go l Z x code maxLocals ret room_1 n0 (fun v _ => v = some (.int 1)) h 0 0 0 #[.val (.int a), .val (.int b), .val (.int cc), .val (.int d), .val (.int fl), .unset, .unset, .unset, .unset, .unset, .unset, .unset, .unset, .unset, .unset, .unset, .unset, .unset, .unset, .unset, .unset, .unset, .unset, .unset] [] := by
  refine Go.iloadN at_0 (q := 1) rfl rfl ?_
  refine Go.sipush at_1 (q := 4) rfl (x := (1023 : Int32)) (by decide) ?_
  refine Go.iand at_4 (q := 5) rfl ?_
  refine Go.sipush at_5 (q := 8) rfl (x := (512 : Int32)) (by decide) ?_
  refine Go.isub at_8 (q := 9) rfl ?_
  refine Go.i2d at_9 (q := 10) rfl ?_
  refine Go.dstore at_10 (q := 12) rfl (Ls' := #[.val (.int a), .val (.int b), .val (.int cc), .val (.int d), .val (.int fl), .val (.double (FP.i2d ((a &&& (1023 : Int32)) - (512 : Int32)))), .second, .unset, .unset, .unset, .unset, .unset, .unset, .unset, .unset, .unset, .unset, .unset, .unset, .unset, .unset, .unset, .unset, .unset]) rfl ?_
  refine Go.iloadN at_12 (q := 13) rfl rfl ?_
  refine Go.sipush at_13 (q := 16) rfl (x := (1023 : Int32)) (by decide) ?_
  refine Go.iand at_16 (q := 17) rfl ?_
  refine Go.sipush at_17 (q := 20) rfl (x := (512 : Int32)) (by decide) ?_
  refine Go.isub at_20 (q := 21) rfl ?_
  refine Go.i2d at_21 (q := 22) rfl ?_
  refine Go.dstore at_22 (q := 24) rfl (Ls' := #[.val (.int a), .val (.int b), .val (.int cc), .val (.int d), .val (.int fl), .val (.double (FP.i2d ((a &&& (1023 : Int32)) - (512 : Int32)))), .second, .val (.double (FP.i2d ((b &&& (1023 : Int32)) - (512 : Int32)))), .second, .unset, .unset, .unset, .unset, .unset, .unset, .unset, .unset, .unset, .unset, .unset, .unset, .unset, .unset, .unset]) rfl ?_
  refine Go.iloadN at_24 (q := 25) rfl rfl ?_
  refine Go.ldc at_25 (q := 27) rfl (v := (2147483647 : Int32)) (w0 hw) ?_
  refine Go.iand at_27 (q := 28) rfl ?_
  refine Go.bipush at_28 (q := 30) rfl (x := (17 : Int32)) (by decide) ?_
  refine Go.irem at_30 (q := 31) rfl (by decide) ?_
  refine Go.i2d at_31 (q := 32) rfl ?_
  refine Go.ldc2D at_32 (q := 35) rfl (v := (4625196817309499392 : UInt64)) (w1 hw) ?_
  refine Go.ddivX at_35 (q := 36) rfl (sx_p (k17 _)) ?_
  intro p1 sp1
  refine Go.dstore at_36 (q := 38) rfl (Ls' := #[.val (.int a), .val (.int b), .val (.int cc), .val (.int d), .val (.int fl), .val (.double (FP.i2d ((a &&& (1023 : Int32)) - (512 : Int32)))), .second, .val (.double (FP.i2d ((b &&& (1023 : Int32)) - (512 : Int32)))), .second, .val (.double p1), .second, .unset, .unset, .unset, .unset, .unset, .unset, .unset, .unset, .unset, .unset, .unset, .unset, .unset]) rfl ?_
  refine Go.iloadN at_38 (q := 39) rfl rfl ?_
  refine Go.ldc at_39 (q := 41) rfl (v := (2147483647 : Int32)) (w0 hw) ?_
  refine Go.iand at_41 (q := 42) rfl ?_
  refine Go.bipush at_42 (q := 44) rfl (x := (17 : Int32)) (by decide) ?_
  refine Go.irem at_44 (q := 45) rfl (by decide) ?_
  refine Go.i2d at_45 (q := 46) rfl ?_
  refine Go.ldc2D at_46 (q := 49) rfl (v := (4625196817309499392 : UInt64)) (w1 hw) ?_
  refine Go.ddivX at_49 (q := 50) rfl (sx_p (k17 _)) ?_
  intro p2 sp2
  refine Go.dstore at_50 (q := 52) rfl (Ls' := #[.val (.int a), .val (.int b), .val (.int cc), .val (.int d), .val (.int fl), .val (.double (FP.i2d ((a &&& (1023 : Int32)) - (512 : Int32)))), .second, .val (.double (FP.i2d ((b &&& (1023 : Int32)) - (512 : Int32)))), .second, .val (.double p1), .second, .val (.double p2), .second, .unset, .unset, .unset, .unset, .unset, .unset, .unset, .unset, .unset, .unset, .unset]) rfl ?_
  refine Go.iload at_52 (q := 54) rfl rfl ?_
  refine Go.iconst at_54 (q := 55) rfl (x := (1 : Int32)) (by decide) ?_
  refine Go.iand at_55 (q := 56) rfl ?_
  refine Go.istore at_56 (q := 58) rfl (Ls' := #[.val (.int a), .val (.int b), .val (.int cc), .val (.int d), .val (.int fl), .val (.double (FP.i2d ((a &&& (1023 : Int32)) - (512 : Int32)))), .second, .val (.double (FP.i2d ((b &&& (1023 : Int32)) - (512 : Int32)))), .second, .val (.double p1), .second, .val (.double p2), .second, .val (.int (fl &&& (1 : Int32))), .unset, .unset, .unset, .unset, .unset, .unset, .unset, .unset, .unset, .unset]) rfl ?_
  refine Go.iload at_58 (q := 60) rfl rfl ?_
  refine Go.iconst at_60 (q := 61) rfl (x := (1 : Int32)) (by decide) ?_
  refine Go.ishr at_61 (q := 62) rfl ?_
  refine Go.iconst at_62 (q := 63) rfl (x := (1 : Int32)) (by decide) ?_
  refine Go.iand at_63 (q := 64) rfl ?_
  refine Go.istore at_64 (q := 66) rfl (Ls' := #[.val (.int a), .val (.int b), .val (.int cc), .val (.int d), .val (.int fl), .val (.double (FP.i2d ((a &&& (1023 : Int32)) - (512 : Int32)))), .second, .val (.double (FP.i2d ((b &&& (1023 : Int32)) - (512 : Int32)))), .second, .val (.double p1), .second, .val (.double p2), .second, .val (.int (fl &&& (1 : Int32))), .val (.int ((fl >>> ((1 : Int32) &&& 31)) &&& (1 : Int32))), .unset, .unset, .unset, .unset, .unset, .unset, .unset, .unset, .unset]) rfl ?_
  refine Go.iload at_66 (q := 68) rfl rfl ?_
  refine Go.iconst at_68 (q := 69) rfl (x := (2 : Int32)) (by decide) ?_
  refine Go.iushr at_69 (q := 70) rfl ?_
  refine Go.iconst at_70 (q := 71) rfl (x := (3 : Int32)) (by decide) ?_
  refine Go.irem at_71 (q := 72) rfl (by decide) ?_
  refine Go.istore at_72 (q := 74) rfl (Ls' := #[.val (.int a), .val (.int b), .val (.int cc), .val (.int d), .val (.int fl), .val (.double (FP.i2d ((a &&& (1023 : Int32)) - (512 : Int32)))), .second, .val (.double (FP.i2d ((b &&& (1023 : Int32)) - (512 : Int32)))), .second, .val (.double p1), .second, .val (.double p2), .second, .val (.int (fl &&& (1 : Int32))), .val (.int ((fl >>> ((1 : Int32) &&& 31)) &&& (1 : Int32))), .val (.int ((XT.ushr fl (2 : Int32)) % (3 : Int32))), .unset, .unset, .unset, .unset, .unset, .unset, .unset, .unset]) rfl ?_
  exact law74 l Z a0 hw n0 h O a b cc d fl _ _ p1 p2 _ _ _ _ _ _ _ (FP.Core.i2d_int _) (FP.Core.i2d_int _) (x_rng a) (x_rng b) sp1 sp2 (by have := k17 cc; omega) (by have := k17 d; omega) (and1 _) (and1 _) (rem3 fl)
set_option maxRecDepth 65536 in
set_option maxHeartbeats 40000000 in
theorem comes_1 {Post : Tables → Env → Array Value → State → Outcome → State → Prop} (hpost : ∀ tb e args s v u, (limb_1_1.after args s (.returned v) u = true ∧ limb_1_2.after args s (.returned v) u = true ∧ True) → FrameEnd s (.returned v) u (Jvm.fieldLocs frame_1_writes args s ++ Jvm.arrayLocs frame_1_arrays args s ++ Jvm.staticLocs frame_1_statics s) 40 192 → Post tb e args s (.returned v) u) :
    ArmFor flags0 classFile x code maxLocals ret World_1 tables_1 room_1 Calls_1 rest_1 Pre_1 Post := by
  intro l hfl _ _ p e ha hc hk s m args below hf hA hF happ hP
  obtain ⟨hcalls, hrest, hpre⟩ := hP
  obtain ⟨-, -, -, hnamed, -, -, -, hat⟩ := (Spec.applies_iff hf).mp happ
  obtain ⟨hg, hn⟩ := and_e (Jvm.Cond.before_iff.mp (show (Jvm.Cond.and given_1 narrow_1).before args s = true from hpre))
  obtain ⟨g0, hg⟩ := and_e hg
  obtain ⟨g1, hg⟩ := and_e hg
  obtain ⟨g2, hg⟩ := and_e hg
  obtain ⟨g3, hg⟩ := and_e hg
  obtain ⟨g4, hg⟩ := and_e hg
  have g5 := hg
  obtain ⟨v0, v1, v2, v3, v4, rfl⟩ : ∃ v0 v1 v2 v3 v4 : Value, args = #[v0, v1, v2, v3, v4] := by
    have hs : args.size = 5 := by simpa [Jvm.Cond.value, given_1] using g0
    obtain ⟨L⟩ := args
    match L, hs with
    | [v0, v1, v2, v3, v4], _ => exact ⟨v0, v1, v2, v3, v4, rfl⟩
  have hw : Hw _ s := fun d (hd : d ∈ tables_1) => atoms_spec (ws := Jvm.Cond.code x code maxLocals ret :: tables_1) hat d (List.mem_cons_of_mem _ hd)
  have hfit : Fit s := fun {y c} hc i hi => by
    obtain ⟨ha, rfl⟩ := Array.getElem?_eq_some_iff.mp hc
    have q := List.all_eq_true.mp ((Array.all_eq_true_iff_forall_mem.mp hF) _ (Array.getElem_mem ha)) i (List.mem_range.mpr hi)
    simpa [Array.getElem?_eq_getElem hi] using q
  obtain ⟨x0, e0⟩ := is_v g1
  obtain rfl : v0 = (.int x0) := Option.some.inj e0
  obtain ⟨x1, e1⟩ := is_v g2
  obtain rfl : v1 = (.int x1) := Option.some.inj e1
  obtain ⟨x2, e2⟩ := is_v g3
  obtain rfl : v2 = (.int x2) := Option.some.inj e2
  obtain ⟨x3, e3⟩ := is_v g4
  obtain rfl : v3 = (.int x3) := Option.some.inj e3
  obtain ⟨x4, e4⟩ := is_v g5
  obtain rfl : v4 = (.int x4) := Option.some.inj e4
  have G := b0 l s _ hw s.heap.size s.heap (Old.start s) x0 x1 x2 x3 x4 
  obtain ⟨n, o, h1, h2, h3, _, L, rfl, ⟨N, rfl⟩, hq⟩ := (G.met pn0 (fun m => by simp [entryFrame, mkF, argsToLocals, Value.category, maxLocals]) tables_1) p e ha hc hk s m _ below hf ((Spec.applies_iff_loose hf).mp happ).1 ⟨rfl, State.Warmed39.refl s, rfl⟩ trivial
  refine ⟨n, _, h1, h2, h3, hpost _ _ _ _ _ _ ⟨Jvm.Cond.after_iff.mpr rfl, Jvm.Cond.after_iff.mpr (eq_i res_at (Term.int_eval (1)) rfl), trivial⟩ ⟨hq.1, hq.2.1, (hq.2.2.sift fun y hy => Or.inr (N y hy)).mono (by decide) (by decide)⟩⟩
theorem main_1_1 : Claimed_1_1 := comes_1 fun _ _ _ _ _ _ h hF => ⟨h.1, hF⟩
theorem main_1_2 : Claimed_1_2 := comes_1 fun _ _ _ _ _ _ h hF => ⟨h.2.1, hF⟩
end Jvm.Pilot.@@N@@
namespace Jvm.Pilot.@@N@@
open Jvm Jvm.ClassFile Sem Op Lib Jvm.Free Jvm.Stand Jvm.Pilot.@@N@@.Jvm.D
/-! MADE BY PROGRAM (witnessworld.py) out of the Statement's table words and the real class files: 12 classes; the members and pool entries that the words name. The judged class is class 1, her method 1. -/
namespace start1
open Jvm.ClassFile
def u (s : String) : CpInfo := .utf8 (stringToUtf16 s)
/-- a pool by its gaps: so many unusable entries, then the entry; so many at the end -/
def gap : Nat → List CpInfo → List CpInfo
  | 0, r => r
  | n + 1, r => .unusable :: gap n r
def poolList (es : List (Nat × CpInfo)) (last : Nat) : List CpInfo := es.foldr (fun e r => gap e.1 (e.2 :: r)) (gap last [])
def pool (es : List (Nat × CpInfo)) (last : Nat) : Array CpInfo := ⟨poolList es last⟩
def fileOf (pool : Array CpInfo) (this : Nat) (attrs : Array Attribute := #[]) (ms : Array MethodInfo := #[]) (fl : Nat := 33) (sup : Nat := 0) (ifs : Array Nat := #[]) (fds : Array FieldInfo := #[]) : ClassFile where
  minorVersion := 0
  majorVersion := 65
  constantPool := pool
  accessFlags := fl
  thisClass := this
  superClass := sup
  interfaces := ifs
  fields := fds
  methods := ms
  attributes := attrs
def plain (name : String) (sup : Option ClassId) : Class where
  name := name
  kind := .ordinary
  loader := none
  accessFlags := 33
  super := sup
  interfaces := #[]
  cf := none
  fields := #[]
  methods := #[]
  instanceTypes := #[]
  staticTypes := #[]
  resolved := #[]
  callSites := []
  init := .initialized
  statics := none
  mirror := none

def pool0 : Array CpInfo := pool [(5, u "<init>"), (0, u "()V"), (1, .class_ 10), (1, u "java/lang/Object")] 113

def k0c0 : Code := { maxStack := 0, maxLocals := 1, code := object_method_1_code, exceptionTable := #[], attributes := #[] }
def k0m0 : Method := { name := "<init>", desc := "()V", sig := { parameters := [], returnType := none }, accessFlags := 1, code := some k0c0 }
/-- java/lang/Object -/
def k0 : Class := { plain "java/lang/Object" none with
  accessFlags := 33
  interfaces := #[]
  cf := some (fileOf pool0 8 #[] #[{ accessFlags := 1, nameIndex := 5, descriptorIndex := 6, attributes := #[] }] 33 0 #[] #[])
  fields := #[]
  methods := #[k0m0]
  instanceTypes := #[]
  staticTypes := #[]
  resolved := Array.replicate 124 none
  statics := none }

def pool1 : Array CpInfo := pool [(2, .class_ 4), (1, u "java/lang/Object"), (0, u "<init>"), (0, u "()V"), (0, .integer 2147483647), (0, .double 4625196817309499392), (1, .class_ 11), (0, u "com/example/nona/nona/solver/ApproximateChain"), (0, .methodref 10 13), (0, .nameAndType 5 14), (0, u "(II)V"), (0, .methodref 10 16), (0, .nameAndType 17 18), (0, u "state"), (0, u "(I)V"), (0, .methodref 10 20), (0, .nameAndType 21 22), (0, u "move"), (0, u "(ID)V"), (0, .methodref 10 24), (0, .nameAndType 25 26), (0, u "gain"), (0, u "(D)V"), (0, .methodref 10 28), (0, .nameAndType 29 30), (0, u "solve"), (0, u "([DDI)Z"), (0, .double 4584664420663164928), (1, .class_ 34), (0, u "com/example/nona/nona/solver/ApproximateChainMovePinLaw"), (2, u "law"), (0, u "(IIIII)Z")] 5

def k1m0 : Method := { name := "<init>", desc := "()V", sig := { parameters := [], returnType := none }, accessFlags := 1, code := none }
def k1c1 : Code := { maxStack := 6, maxLocals := 24, code := code, exceptionTable := #[], attributes := #[] }
def k1m1 : Method := { name := "law", desc := "(IIIII)Z", sig := { parameters := [.int, .int, .int, .int, .int], returnType := some .boolean }, accessFlags := 9, code := some k1c1 }
/-- com/example/nona/nona/solver/ApproximateChainMovePinLaw -/
def k1 : Class := { plain "com/example/nona/nona/solver/ApproximateChainMovePinLaw" (some 0) with
  accessFlags := 49
  interfaces := #[]
  cf := some (fileOf pool1 33 #[] #[{ accessFlags := 1, nameIndex := 5, descriptorIndex := 6, attributes := #[] }, { accessFlags := 9, nameIndex := 37, descriptorIndex := 38, attributes := #[] }] 49 2 #[] #[])
  fields := #[]
  methods := #[k1m0, k1m1]
  instanceTypes := #[]
  staticTypes := #[]
  resolved := Array.replicate 44 none
  statics := none }

def pool2 : Array CpInfo := pool [(1, .methodref 2 3), (0, .class_ 4), (0, .nameAndType 5 6), (0, u "java/lang/Object"), (0, u "<init>"), (0, u "()V"), (0, .fieldref 8 9), (0, .class_ 10), (0, .nameAndType 11 12), (0, u "com/example/nona/nona/solver/ApproximateChain"), (0, u "open"), (0, u "I"), (0, .fieldref 8 14), (0, .nameAndType 15 12), (0, u "size"), (0, .fieldref 8 17), (0, .nameAndType 18 19), (0, u "starts"), (0, u "[I"), (0, .fieldref 8 21), (0, .nameAndType 22 19), (0, u "laters"), (0, .fieldref 8 24), (0, .nameAndType 25 19), (0, u "targets"), (0, .fieldref 8 27), (0, .nameAndType 28 29), (0, u "probabilities"), (0, u "[D"), (0, .fieldref 8 31), (0, .nameAndType 32 29), (0, u "gains"), (0, .fieldref 8 34), (0, .nameAndType 35 29), (0, u "residual"), (0, .fieldref 8 37), (0, .nameAndType 38 29), (0, u "shadow"), (0, .fieldref 8 40), (0, .nameAndType 41 29), (0, u "direction"), (0, .fieldref 8 43), (0, .nameAndType 44 29), (0, u "image"), (0, .fieldref 8 46), (0, .nameAndType 47 29), (0, u "preconditioned"), (0, .fieldref 8 49), (0, .nameAndType 50 29), (0, u "correction"), (0, .fieldref 8 52), (0, .nameAndType 53 29), (0, u "product"), (0, .methodref 8 55), (0, .nameAndType 56 6), (0, u "close"), (0, .fieldref 8 58), (0, .nameAndType 59 12), (0, u "count"), (0, .methodref 8 61), (0, .nameAndType 62 63), (0, u "solve"), (0, u "([D[DDI)Z"), (2, u "ones"), (6, .methodref 74 75), (0, .class_ 76), (0, .nameAndType 77 78), (0, u "java/lang/Math"), (0, u "abs"), (0, u "(D)D"), (0, .methodref 74 80), (0, .nameAndType 81 82), (0, u "max"), (0, u "(DD)D"), (0, .fieldref 8 84), (0, .nameAndType 85 12), (0, u "iterations"), (10, .double 9218868437227405312), (1, u "(II)V"), (2, u "state"), (0, u "(I)V"), (1, u "move"), (0, u "(ID)V"), (0, u "gain"), (0, u "(D)V"), (0, u "([DDI)Z")] 5

def k2c0 : Code := { maxStack := 3, maxLocals := 3, code := prog_136_method_1_code, exceptionTable := #[], attributes := #[] }
def k2m0 : Method := { name := "<init>", desc := "(II)V", sig := { parameters := [.int, .int], returnType := none }, accessFlags := 0, code := some k2c0 }
def k2c1 : Code := { maxStack := 4, maxLocals := 2, code := prog_136_method_2_code, exceptionTable := #[], attributes := #[] }
def k2m1 : Method := { name := "state", desc := "(I)V", sig := { parameters := [.int], returnType := none }, accessFlags := 0, code := some k2c1 }
def k2c2 : Code := { maxStack := 4, maxLocals := 4, code := prog_136_method_3_code, exceptionTable := #[], attributes := #[] }
def k2m2 : Method := { name := "move", desc := "(ID)V", sig := { parameters := [.int, .double], returnType := none }, accessFlags := 0, code := some k2c2 }
def k2c3 : Code := { maxStack := 6, maxLocals := 3, code := prog_136_method_4_code, exceptionTable := #[], attributes := #[] }
def k2m3 : Method := { name := "gain", desc := "(D)V", sig := { parameters := [.double], returnType := none }, accessFlags := 0, code := some k2c3 }
def k2c4 : Code := { maxStack := 4, maxLocals := 7, code := prog_136_method_5_code, exceptionTable := #[], attributes := #[] }
def k2m4 : Method := { name := "close", desc := "()V", sig := { parameters := [], returnType := none }, accessFlags := 2, code := some k2c4 }
def k2c5 : Code := { maxStack := 6, maxLocals := 5, code := prog_136_method_6_code, exceptionTable := #[], attributes := #[] }
def k2m5 : Method := { name := "solve", desc := "([DDI)Z", sig := { parameters := [(.array .double), .double, .int], returnType := some .boolean }, accessFlags := 0, code := some k2c5 }
def k2c6 : Code := { maxStack := 12, maxLocals := 27, code := prog_136_method_8_code, exceptionTable := #[], attributes := #[] }
def k2m6 : Method := { name := "solve", desc := "([D[DDI)Z", sig := { parameters := [(.array .double), (.array .double), .double, .int], returnType := some .boolean }, accessFlags := 2, code := some k2c6 }
/-- com/example/nona/nona/solver/ApproximateChain -/
def k2 : Class := { plain "com/example/nona/nona/solver/ApproximateChain" (some 0) with
  accessFlags := 48
  interfaces := #[]
  cf := some (fileOf pool2 8 #[] #[{ accessFlags := 0, nameIndex := 5, descriptorIndex := 98, attributes := #[] }, { accessFlags := 0, nameIndex := 101, descriptorIndex := 102, attributes := #[] }, { accessFlags := 0, nameIndex := 104, descriptorIndex := 105, attributes := #[] }, { accessFlags := 0, nameIndex := 106, descriptorIndex := 107, attributes := #[] }, { accessFlags := 2, nameIndex := 56, descriptorIndex := 6, attributes := #[] }, { accessFlags := 0, nameIndex := 62, descriptorIndex := 108, attributes := #[] }, { accessFlags := 2, nameIndex := 62, descriptorIndex := 63, attributes := #[] }] 48 2 #[] #[{ accessFlags := 18, nameIndex := 15, descriptorIndex := 12, attributes := #[] }, { accessFlags := 18, nameIndex := 18, descriptorIndex := 19, attributes := #[] }, { accessFlags := 18, nameIndex := 22, descriptorIndex := 19, attributes := #[] }, { accessFlags := 18, nameIndex := 25, descriptorIndex := 19, attributes := #[] }, { accessFlags := 18, nameIndex := 28, descriptorIndex := 29, attributes := #[] }, { accessFlags := 18, nameIndex := 32, descriptorIndex := 29, attributes := #[] }, { accessFlags := 2, nameIndex := 66, descriptorIndex := 29, attributes := #[] }, { accessFlags := 2, nameIndex := 59, descriptorIndex := 12, attributes := #[] }, { accessFlags := 2, nameIndex := 11, descriptorIndex := 12, attributes := #[] }, { accessFlags := 18, nameIndex := 35, descriptorIndex := 29, attributes := #[] }, { accessFlags := 18, nameIndex := 38, descriptorIndex := 29, attributes := #[] }, { accessFlags := 18, nameIndex := 41, descriptorIndex := 29, attributes := #[] }, { accessFlags := 18, nameIndex := 44, descriptorIndex := 29, attributes := #[] }, { accessFlags := 18, nameIndex := 47, descriptorIndex := 29, attributes := #[] }, { accessFlags := 18, nameIndex := 50, descriptorIndex := 29, attributes := #[] }, { accessFlags := 18, nameIndex := 53, descriptorIndex := 29, attributes := #[] }, { accessFlags := 2, nameIndex := 85, descriptorIndex := 12, attributes := #[] }])
  fields := #[{ name := "size", type := .int, accessFlags := 18, slot := 0, constantValue := 0 }, { name := "starts", type := (.array .int), accessFlags := 18, slot := 1, constantValue := 0 }, { name := "laters", type := (.array .int), accessFlags := 18, slot := 2, constantValue := 0 }, { name := "targets", type := (.array .int), accessFlags := 18, slot := 3, constantValue := 0 }, { name := "probabilities", type := (.array .double), accessFlags := 18, slot := 4, constantValue := 0 }, { name := "gains", type := (.array .double), accessFlags := 18, slot := 5, constantValue := 0 }, { name := "ones", type := (.array .double), accessFlags := 2, slot := 6, constantValue := 0 }, { name := "count", type := .int, accessFlags := 2, slot := 7, constantValue := 0 }, { name := "open", type := .int, accessFlags := 2, slot := 8, constantValue := 0 }, { name := "residual", type := (.array .double), accessFlags := 18, slot := 9, constantValue := 0 }, { name := "shadow", type := (.array .double), accessFlags := 18, slot := 10, constantValue := 0 }, { name := "direction", type := (.array .double), accessFlags := 18, slot := 11, constantValue := 0 }, { name := "image", type := (.array .double), accessFlags := 18, slot := 12, constantValue := 0 }, { name := "preconditioned", type := (.array .double), accessFlags := 18, slot := 13, constantValue := 0 }, { name := "correction", type := (.array .double), accessFlags := 18, slot := 14, constantValue := 0 }, { name := "product", type := (.array .double), accessFlags := 18, slot := 15, constantValue := 0 }, { name := "iterations", type := .int, accessFlags := 2, slot := 16, constantValue := 0 }]
  methods := #[k2m0, k2m1, k2m2, k2m3, k2m4, k2m5, k2m6]
  instanceTypes := #[.int, (.array .int), (.array .int), (.array .int), (.array .double), (.array .double), (.array .double), .int, .int, (.array .double), (.array .double), (.array .double), (.array .double), (.array .double), (.array .double), (.array .double), .int]
  staticTypes := #[]
  resolved := Array.replicate 114 none
  statics := none }

def pool3 : Array CpInfo := pool [(1, .class_ 2), (0, u "java/lang/Math"), (1, .class_ 6), (1, u "java/lang/Object"), (0, u "<init>"), (0, u "()V"), (5, u "(D)D"), (37, u "(DD)D"), (45, .class_ 100), (1, u "java/lang/Math$RandomNumberGeneratorHolder"), (23, u "abs"), (47, u "negativeZeroFloatBits"), (0, u "J"), (2, u "negativeZeroDoubleBits"), (21, u "max"), (46, u "$assertionsDisabled"), (0, u "Z"), (91, u "twoToTheDoubleScaleDown"), (0, u "D"), (4, u "twoToTheDoubleScaleUp"), (9, u "E"), (3, u "PI"), (2, u "TAU"), (2, u "DEGREES_TO_RADIANS"), (0, u "RADIANS_TO_DEGREES")] 94

def k3m0 : Method := { name := "<init>", desc := "()V", sig := { parameters := [], returnType := none }, accessFlags := 2, code := none }
def k3c1 : Code := { maxStack := 4, maxLocals := 2, code := jdk_29_method_64_code, exceptionTable := #[], attributes := #[] }
def k3m1 : Method := { name := "abs", desc := "(D)D", sig := { parameters := [.double], returnType := some .double }, accessFlags := 9, code := some k3c1 }
def k3c2 : Code := { maxStack := 4, maxLocals := 4, code := jdk_29_method_68_code, exceptionTable := #[], attributes := #[] }
def k3m2 : Method := { name := "max", desc := "(DD)D", sig := { parameters := [.double, .double], returnType := some .double }, accessFlags := 9, code := some k3c2 }
/-- java/lang/Math -/
def k3 : Class := { plain "java/lang/Math" (some 0) with
  accessFlags := 49
  interfaces := #[]
  cf := some (fileOf pool3 1 #[.nestMembers #[98]] #[{ accessFlags := 2, nameIndex := 7, descriptorIndex := 8, attributes := #[] }, { accessFlags := 9, nameIndex := 124, descriptorIndex := 14, attributes := #[] }, { accessFlags := 9, nameIndex := 198, descriptorIndex := 52, attributes := #[] }] 49 4 #[] #[{ accessFlags := 25, nameIndex := 354, descriptorIndex := 339, attributes := #[] }, { accessFlags := 25, nameIndex := 358, descriptorIndex := 339, attributes := #[] }, { accessFlags := 25, nameIndex := 361, descriptorIndex := 339, attributes := #[] }, { accessFlags := 26, nameIndex := 364, descriptorIndex := 339, attributes := #[] }, { accessFlags := 26, nameIndex := 365, descriptorIndex := 339, attributes := #[] }, { accessFlags := 26, nameIndex := 172, descriptorIndex := 173, attributes := #[] }, { accessFlags := 26, nameIndex := 176, descriptorIndex := 173, attributes := #[] }, { accessFlags := 8, nameIndex := 344, descriptorIndex := 339, attributes := #[] }, { accessFlags := 8, nameIndex := 338, descriptorIndex := 339, attributes := #[] }, { accessFlags := 4120, nameIndex := 245, descriptorIndex := 246, attributes := #[] }])
  fields := #[{ name := "E", type := .double, accessFlags := 25, slot := 0, constantValue := 0 }, { name := "PI", type := .double, accessFlags := 25, slot := 1, constantValue := 0 }, { name := "TAU", type := .double, accessFlags := 25, slot := 2, constantValue := 0 }, { name := "DEGREES_TO_RADIANS", type := .double, accessFlags := 26, slot := 3, constantValue := 0 }, { name := "RADIANS_TO_DEGREES", type := .double, accessFlags := 26, slot := 4, constantValue := 0 }, { name := "negativeZeroFloatBits", type := .long, accessFlags := 26, slot := 5, constantValue := 0 }, { name := "negativeZeroDoubleBits", type := .long, accessFlags := 26, slot := 6, constantValue := 0 }, { name := "twoToTheDoubleScaleUp", type := .double, accessFlags := 8, slot := 7, constantValue := 0 }, { name := "twoToTheDoubleScaleDown", type := .double, accessFlags := 8, slot := 8, constantValue := 0 }, { name := "$assertionsDisabled", type := .boolean, accessFlags := 4120, slot := 9, constantValue := 0 }]
  methods := #[k3m0, k3m1, k3m2]
  instanceTypes := #[]
  staticTypes := #[.double, .double, .double, .double, .double, .long, .long, .double, .double, .boolean]
  resolved := Array.replicate 460 none
  statics := none }

def pool4 : Array CpInfo := pool [(1, u "java/lang/Cloneable"), (0, .class_ 1), (0, u "java/lang/Object"), (0, .class_ 3)] 3

/-- java/lang/Cloneable -/
def k4 : Class := { plain "java/lang/Cloneable" (some 0) with
  accessFlags := 1537
  interfaces := #[]
  cf := some (fileOf pool4 2 #[] #[] 1537 4 #[] #[])
  fields := #[]
  methods := #[]
  instanceTypes := #[]
  staticTypes := #[]
  resolved := Array.replicate 8 none
  statics := none }

def pool5 : Array CpInfo := pool [(1, u "java/io/Serializable"), (0, .class_ 1), (0, u "java/lang/Object"), (0, .class_ 3)] 3

/-- java/io/Serializable -/
def k5 : Class := { plain "java/io/Serializable" (some 0) with
  accessFlags := 1537
  interfaces := #[]
  cf := some (fileOf pool5 2 #[] #[] 1537 4 #[] #[])
  fields := #[]
  methods := #[]
  instanceTypes := #[]
  staticTypes := #[]
  resolved := Array.replicate 8 none
  statics := none }

/-- the primitive byte -/
def k6 : Class := { plain "byte" none with kind := .primitive 'B', accessFlags := 0x411 }
/-- [B -/
def k7 : Class := { plain "[B" (some 0) with kind := .array 6 .byte, interfaces := #[4, 5], accessFlags := 1041 }

/-- the primitive double -/
def k8 : Class := { plain "double" none with kind := .primitive 'D', accessFlags := 0x411 }
/-- [D -/
def k9 : Class := { plain "[D" (some 0) with kind := .array 8 .double, interfaces := #[4, 5], accessFlags := 1041 }

/-- the primitive int -/
def k10 : Class := { plain "int" none with kind := .primitive 'I', accessFlags := 0x411 }
/-- [I -/
def k11 : Class := { plain "[I" (some 0) with kind := .array 10 .int, interfaces := #[4, 5], accessFlags := 1041 }

def heap : Heap := #[]
def classes : Array Class := #[k0, k1, k2, k3, k4, k5, k6, k7, k8, k9, k10, k11]
def interned : List (Array UInt16 × Addr) := []
def slotsUsed : Nat := 0
def theMethod : MethodId := ⟨1, 1⟩
def args0 : Array Value := #[.int 5, .int 301, .int 7, .int 9, .int 11]
def aboutOver (below : List Frame) : State where
  vm := { classes := classes, interned := interned.toArray }
  heap := heap
  slotsUsed := slotsUsed
  threads := #[{ frames := .invoking theMethod args0 :: below }]
def below0 : List Frame := [.native { method := ⟨0, 0⟩, args := #[] }]
def about1 : State := aboutOver below0
def p0 : Program := .bare "" "" ""
def e0 : Env := launch0.env 0 0 0
theorem w_frames : about1.frames = Frame.invoking theMethod args0 :: below0 := rfl
set_option maxRecDepth 65536 in
theorem w_args : argsFit about1.vm theMethod args0 = true := by decide +kernel
set_option maxRecDepth 65536 in
theorem w_heap : heapFits about1 = true := by decide +kernel
set_option maxRecDepth 65536 in
theorem w_runnable : about1.curStatus? = some .runnable := by decide +kernel
set_option maxRecDepth 65536 in
theorem w_alone : about1.alone = true := by decide +kernel
set_option maxRecDepth 65536 in
theorem w_named : about1.methodNamed? x = some theMethod := by decide +kernel
set_option maxRecDepth 65536 in
theorem w_hears : about1.hears theMethod below0 = true := by decide +kernel
set_option maxRecDepth 65536 in
theorem w_ripe : about1.ripe theMethod args0 below0 = true := by decide +kernel
theorem w_running : about1.status = .running := rfl
set_option maxRecDepth 65536 in
theorem w_room : about1.hasRoom e0.platform room_1 = true :=
  launch0.hasRoom_least _ room_1 (by decide +kernel) (by decide +kernel) (by decide +kernel) (by decide +kernel) (by decide +kernel) (by decide +kernel)
theorem allAtoms_all (ts : List Jvm.Cond) (a : Array Jvm.Value) (st : Jvm.State) : (allAtoms ts).before a st = ts.all (fun c => c.before a st) := by
  induction ts with
  | nil => rfl
  | cons c t ih =>
    show (Jvm.Cond.and c (allAtoms t)).before a st = _
    rw [Jvm.Cond.before_and, ih, List.all_cons]
def words1 : List Jvm.Cond := Jvm.Cond.code x code maxLocals ret :: tables_1
/-- a 'code' word, met by the world's own term for the bytes: nothing is compared byte by byte -/
theorem code_word {y : MethodName} {bytes : ByteArray} {mx : Nat} {rt : Option FieldType} {a : Array Value} {s : State} {m : MethodId} {meth : Method} {c : Code} (h1 : s.methodNamed? y = some m) (h2 : s.vm.method? m = some meth) (h3 : meth.code = some c) (h4 : c.code = bytes)
    (h5 : (c.maxLocals == mx && c.exceptionTable.isEmpty && decide (c.maxStack ≤ mostOperands) && decide (meth.sig.returnType = rt) && !meth.locks && decide (parseMethodDescriptor y.desc = some meth.sig)) = true) : (Jvm.Cond.code y bytes mx rt).before a s = true := by
  simp only [Bool.and_eq_true, beq_iff_eq, Bool.not_eq_true', decide_eq_true_eq] at h5
  obtain ⟨⟨⟨⟨⟨g1, g2⟩, g3⟩, g4⟩, g5⟩, g6⟩ := h5
  simp [Cond.before, Cond.holds, Cond.value, h1, h2, h3, h4, g1, g2, g3, g4, g5, g6]
def isCode : Jvm.Cond → Bool
  | .code _ _ _ _ => true
  | _ => false
theorem all_split {L : List Jvm.Cond} {P : Jvm.Cond → Bool} (h1 : L.all (fun c => isCode c || P c) = true) (h2 : ∀ c ∈ L.filter isCode, P c = true) : L.all P = true := by
  refine List.all_eq_true.mpr fun c hc => ?_
  have h := List.all_eq_true.mp h1 c hc
  rcases Bool.eq_false_or_eq_true (isCode c) with hi | hi
  · exact h2 c (List.mem_filter.mpr ⟨hc, hi⟩)
  · simpa [hi] using h
set_option maxRecDepth 65536 in
theorem w_c0 : (Jvm.Cond.code x code maxLocals ret).before args0 about1 = true := code_word (m := ⟨1, 1⟩) (meth := k1m1) (c := k1c1) (by decide +kernel) rfl rfl rfl (by decide +kernel)
set_option maxRecDepth 65536 in
theorem w_c1 : (Jvm.Cond.code ({ cls := "com/example/nona/nona/solver/ApproximateChain", name := "<init>", desc := "(II)V" } : Jvm.MethodName) prog_136_method_1_code (3 : Nat) (Option.none : Option Jvm.ClassFile.FieldType)).before args0 about1 = true := code_word (m := ⟨2, 0⟩) (meth := k2m0) (c := k2c0) (by decide +kernel) rfl rfl rfl (by decide +kernel)
set_option maxRecDepth 65536 in
theorem w_c2 : (Jvm.Cond.code ({ cls := "java/lang/Object", name := "<init>", desc := "()V" } : Jvm.MethodName) object_method_1_code (1 : Nat) (Option.none : Option Jvm.ClassFile.FieldType)).before args0 about1 = true := code_word (m := ⟨0, 0⟩) (meth := k0m0) (c := k0c0) (by decide +kernel) rfl rfl rfl (by decide +kernel)
set_option maxRecDepth 65536 in
theorem w_c3 : (Jvm.Cond.code ({ cls := "com/example/nona/nona/solver/ApproximateChain", name := "state", desc := "(I)V" } : Jvm.MethodName) prog_136_method_2_code (2 : Nat) (Option.none : Option Jvm.ClassFile.FieldType)).before args0 about1 = true := code_word (m := ⟨2, 1⟩) (meth := k2m1) (c := k2c1) (by decide +kernel) rfl rfl rfl (by decide +kernel)
set_option maxRecDepth 65536 in
theorem w_c4 : (Jvm.Cond.code ({ cls := "com/example/nona/nona/solver/ApproximateChain", name := "close", desc := "()V" } : Jvm.MethodName) prog_136_method_5_code (7 : Nat) (Option.none : Option Jvm.ClassFile.FieldType)).before args0 about1 = true := code_word (m := ⟨2, 4⟩) (meth := k2m4) (c := k2c4) (by decide +kernel) rfl rfl rfl (by decide +kernel)
set_option maxRecDepth 65536 in
theorem w_c5 : (Jvm.Cond.code ({ cls := "com/example/nona/nona/solver/ApproximateChain", name := "gain", desc := "(D)V" } : Jvm.MethodName) prog_136_method_4_code (3 : Nat) (Option.none : Option Jvm.ClassFile.FieldType)).before args0 about1 = true := code_word (m := ⟨2, 3⟩) (meth := k2m3) (c := k2c3) (by decide +kernel) rfl rfl rfl (by decide +kernel)
set_option maxRecDepth 65536 in
theorem w_c6 : (Jvm.Cond.code ({ cls := "com/example/nona/nona/solver/ApproximateChain", name := "solve", desc := "([DDI)Z" } : Jvm.MethodName) prog_136_method_6_code (5 : Nat) (Option.some Jvm.ClassFile.FieldType.boolean)).before args0 about1 = true := code_word (m := ⟨2, 5⟩) (meth := k2m5) (c := k2c5) (by decide +kernel) rfl rfl rfl (by decide +kernel)
set_option maxRecDepth 65536 in
theorem w_c7 : (Jvm.Cond.code ({ cls := "com/example/nona/nona/solver/ApproximateChain", name := "solve", desc := "([D[DDI)Z" } : Jvm.MethodName) prog_136_method_8_code (27 : Nat) (Option.some Jvm.ClassFile.FieldType.boolean)).before args0 about1 = true := code_word (m := ⟨2, 6⟩) (meth := k2m6) (c := k2c6) (by decide +kernel) rfl rfl rfl (by decide +kernel)
set_option maxRecDepth 65536 in
theorem w_c8 : (Jvm.Cond.code ({ cls := "java/lang/Math", name := "abs", desc := "(D)D" } : Jvm.MethodName) jdk_29_method_64_code (2 : Nat) (Option.some Jvm.ClassFile.FieldType.double)).before args0 about1 = true := code_word (m := ⟨3, 1⟩) (meth := k3m1) (c := k3c1) (by decide +kernel) rfl rfl rfl (by decide +kernel)
set_option maxRecDepth 65536 in
theorem w_c9 : (Jvm.Cond.code ({ cls := "java/lang/Math", name := "max", desc := "(DD)D" } : Jvm.MethodName) jdk_29_method_68_code (4 : Nat) (Option.some Jvm.ClassFile.FieldType.double)).before args0 about1 = true := code_word (m := ⟨3, 2⟩) (meth := k3m2) (c := k3c2) (by decide +kernel) rfl rfl rfl (by decide +kernel)
set_option maxRecDepth 65536 in
theorem w_c10 : (Jvm.Cond.code ({ cls := "com/example/nona/nona/solver/ApproximateChain", name := "move", desc := "(ID)V" } : Jvm.MethodName) prog_136_method_3_code (4 : Nat) (Option.none : Option Jvm.ClassFile.FieldType)).before args0 about1 = true := code_word (m := ⟨2, 2⟩) (meth := k2m2) (c := k2c2) (by decide +kernel) rfl rfl rfl (by decide +kernel)
def codes1 : List Jvm.Cond := [Jvm.Cond.code x code maxLocals ret, Jvm.Cond.code ({ cls := "com/example/nona/nona/solver/ApproximateChain", name := "<init>", desc := "(II)V" } : Jvm.MethodName) prog_136_method_1_code (3 : Nat) (Option.none : Option Jvm.ClassFile.FieldType), Jvm.Cond.code ({ cls := "java/lang/Object", name := "<init>", desc := "()V" } : Jvm.MethodName) object_method_1_code (1 : Nat) (Option.none : Option Jvm.ClassFile.FieldType), Jvm.Cond.code ({ cls := "com/example/nona/nona/solver/ApproximateChain", name := "state", desc := "(I)V" } : Jvm.MethodName) prog_136_method_2_code (2 : Nat) (Option.none : Option Jvm.ClassFile.FieldType), Jvm.Cond.code ({ cls := "com/example/nona/nona/solver/ApproximateChain", name := "close", desc := "()V" } : Jvm.MethodName) prog_136_method_5_code (7 : Nat) (Option.none : Option Jvm.ClassFile.FieldType), Jvm.Cond.code ({ cls := "com/example/nona/nona/solver/ApproximateChain", name := "gain", desc := "(D)V" } : Jvm.MethodName) prog_136_method_4_code (3 : Nat) (Option.none : Option Jvm.ClassFile.FieldType), Jvm.Cond.code ({ cls := "com/example/nona/nona/solver/ApproximateChain", name := "solve", desc := "([DDI)Z" } : Jvm.MethodName) prog_136_method_6_code (5 : Nat) (Option.some Jvm.ClassFile.FieldType.boolean), Jvm.Cond.code ({ cls := "com/example/nona/nona/solver/ApproximateChain", name := "solve", desc := "([D[DDI)Z" } : Jvm.MethodName) prog_136_method_8_code (27 : Nat) (Option.some Jvm.ClassFile.FieldType.boolean), Jvm.Cond.code ({ cls := "java/lang/Math", name := "abs", desc := "(D)D" } : Jvm.MethodName) jdk_29_method_64_code (2 : Nat) (Option.some Jvm.ClassFile.FieldType.double), Jvm.Cond.code ({ cls := "java/lang/Math", name := "max", desc := "(DD)D" } : Jvm.MethodName) jdk_29_method_68_code (4 : Nat) (Option.some Jvm.ClassFile.FieldType.double), Jvm.Cond.code ({ cls := "com/example/nona/nona/solver/ApproximateChain", name := "move", desc := "(ID)V" } : Jvm.MethodName) prog_136_method_3_code (4 : Nat) (Option.none : Option Jvm.ClassFile.FieldType)]
set_option maxRecDepth 65536 in
theorem codes_eq : words1.filter isCode = codes1 := rfl
theorem w_codes : ∀ c ∈ words1.filter isCode, c.before args0 about1 = true := by
  rw [codes_eq]
  intro c hc
  simp only [codes1, List.mem_cons, List.not_mem_nil, or_false] at hc
  rcases hc with rfl | rfl | rfl | rfl | rfl | rfl | rfl | rfl | rfl | rfl | rfl
  · exact w_c0
  · exact w_c1
  · exact w_c2
  · exact w_c3
  · exact w_c4
  · exact w_c5
  · exact w_c6
  · exact w_c7
  · exact w_c8
  · exact w_c9
  · exact w_c10
set_option maxRecDepth 65536 in
theorem w_t1 : (words1.take 24).all (fun c => isCode c || c.before args0 about1) = true := by decide +kernel
set_option maxRecDepth 65536 in
theorem w_t2 : ((words1.drop 24).take 24).all (fun c => isCode c || c.before args0 about1) = true := by decide +kernel
set_option maxRecDepth 65536 in
theorem w_t3 : (((words1.drop 24).drop 24).take 24).all (fun c => isCode c || c.before args0 about1) = true := by decide +kernel
set_option maxRecDepth 65536 in
theorem w_t4 : (((words1.drop 24).drop 24).drop 24).all (fun c => isCode c || c.before args0 about1) = true := by decide +kernel
theorem w_tables : (allAtoms (Jvm.Cond.code x code maxLocals ret :: tables_1)).before args0 about1 = true := by
  rw [allAtoms_all]
  show words1.all (fun c => c.before args0 about1) = true
  refine all_split ?_ w_codes
  rw [← List.take_append_drop 24 words1, List.all_append, w_t1, ← List.take_append_drop 24 (words1.drop 24), List.all_append, w_t2, ← List.take_append_drop 24 ((words1.drop 24).drop 24), List.all_append, w_t3, w_t4]
  rfl
set_option maxRecDepth 65536 in
theorem w_case : (Jvm.Cond.and given_1 narrow_1).before args0 about1 = true := by decide +kernel
theorem w_applies : (headSpec (Jvm.Cond.code x code maxLocals ret :: tables_1) room_1).applies x e0.platform about1 = true :=
  (Spec.applies_iff w_frames).mpr ⟨w_running, w_runnable, w_alone, w_named, w_hears, w_ripe, w_room, w_tables⟩
theorem atStart : AtStart classFile x code maxLocals ret World_1 tables_1 room_1 Calls_1 rest_1 Pre_1 launch0 p0 e0 about1 theMethod args0 below0 :=
  ⟨lists_1, trivial, launch0.admits_env _ _ _, launch0.least_env, fairChoices_fair.cas, fairChoices_fair.clock, w_frames, w_args, w_heap, w_applies, trivial, trivial, w_case⟩
end start1
theorem witness_1 : WitnessClaimed_1 := ⟨start1.p0, start1.e0, start1.about1, start1.theMethod, start1.args0, start1.below0, start1.atStart⟩
end Jvm.Pilot.@@N@@
