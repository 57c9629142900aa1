import JvmDerived
import JvmDerived.Pilot.@@N@@Statement
import JvmDerived.Pilot.@@N@@Code
set_option linter.unusedVariables false
set_option linter.unusedSimpArgs false
namespace Jvm.OwnKit
open Jvm Jvm.ClassFile Sem Op Lib Jvm.Free Jvm.Stand Jvm.LawKit Jvm.RoadKit
/-- the run from here ends in a return that answers Q, having written new cells alone -/
def Ends (p : Program) (e : Env) (below : List Frame) (s : State) (n0 : Nat) (Q : Option Value → Heap → Prop) (k n : Nat) (T : State) (g : JFrame) : Prop :=
  ∃ s₂ o, Steps p.tables e below (T.setTop g) s₂ ∧ s₂.status = .running ∧ Ended s₂ below o ∧ ∃ v L, o = .returned v ∧ (Fr n0 L ∧ Q v s₂.heap) ∧ FrameEnd s o s₂ L k n
theorem Ends.step {p : Program} {e : Env} {below : List Frame} {s : State} {n0 : Nat} {Q : Option Value → Heap → Prop} {k n : Nat} {T T' : State} {g g' : JFrame} (K : Ends p e below s n0 Q k n T' g') (f : ∀ t, Steps p.tables e below (T'.setTop g') t → Steps p.tables e below (T.setTop g) t) : Ends p e below s n0 Q k n T g := by
  obtain ⟨s2, o, h, r⟩ := K
  exact ⟨s2, o, f _ h, r⟩
/-- what is the same through a whole body -/
def Cx (Z : State) (mn : MethodName) (code : ByteArray) (maxL : Nat) (ret : Option FieldType) (p : Program) (s : State) (m : MethodId) (meth : Method) (c : Code) : Prop :=
  p.tables.exec = Jvm.exec ∧ Z.Warmed39 s.vm ∧ c.code = code ∧ c.maxLocals = maxL ∧ s.vm.findClass mn.cls = some m.cls ∧ meth.sig.returnType = ret ∧ meth.locks = false ∧ meth.name = mn.name
/-- from this pc, these locals and this stack, over the heap h, at most k cells and n slots made so far, the body ends as Q says -/
def Go (l : Launch) (Z : State) (mn : MethodName) (code : ByteArray) (maxL : Nat) (ret : Option FieldType) (R : Room) (n0 : Nat) (Q : Option Value → Heap → Prop) (h : Heap) (k n : Nat) (pc : Nat) (Ls : Array Slot) (st : List Value) : Prop :=
  ∀ (p : Program) (e : Env) (s : State) (m : MethodId) (args : Array Value) (below : List Frame) (meth : Method) (c : Code) (T : State) (locs : List Loc) (k' n' : Nat),
    Cx Z mn code maxL ret p s m meth c → Stand p l e R s m args below meth c T locs k' n' → k' ≤ k → n' ≤ n → Fr n0 locs → T.heap = h → Ends p e below s n0 Q R.cells R.slots T (mkF m pc Ls st)
/-- the answer of a body that returns a value | nothing -/
def RV (P : Value → Heap → Prop) : Option Value → Heap → Prop := fun v h => ∃ w, v = some w ∧ P w h
def RN (P : Heap → Prop) : Option Value → Heap → Prop := fun v h => v = none ∧ P h
section Laws
variable {l : Launch} {Z : State} {mn : MethodName} {code : ByteArray} {maxL : Nat} {ret : Option FieldType} {R : Room} {n0 : Nat} {Q : Option Value → Heap → Prop} {h : Heap} {k n pc q : Nat} {Ls Ls' : Array Slot} {st st' : List Value} {a0 : Array Value}
theorem Go.plain (K : Go l Z mn code maxL ret R n0 Q h k n q Ls' st') (f : ∀ (p : Program) (e : Env) (s : State) (m : MethodId) (args : Array Value) (below : List Frame) (meth : Method) (c : Code) (T : State) (locs : List Loc) (k' n' : Nat), p.tables.exec = Jvm.exec → c.code = code → Stand p l e R s m args below meth c T locs k' n' → ∀ t, Steps p.tables e below (T.setTop (mkF m q Ls' st')) t → Steps p.tables e below (T.setTop (mkF m pc Ls st)) t) : Go l Z mn code maxL ret R n0 Q h k n pc Ls st :=
  fun p e s m args below meth c T locs k' n' C X hk hn N eT => (K p e s m args below meth c T locs k' n' C X hk hn N eT).step (f p e s m args below meth c T locs k' n' C.1 C.2.2.1 X)
theorem Go.mono {k1 n1 : Nat} (K : Go l Z mn code maxL ret R n0 Q h k n pc Ls st) (h1 : k1 ≤ k) (h2 : n1 ≤ n) : Go l Z mn code maxL ret R n0 Q h k1 n1 pc Ls st :=
  fun p e s m args below meth c T locs k' n' C X hk hn N eT => K p e s m args below meth c T locs k' n' C X (Nat.le_trans hk h1) (Nat.le_trans hn h2) N eT
theorem Go.imp {Q' : Option Value → Heap → Prop} (K : Go l Z mn code maxL ret R n0 Q h k n pc Ls st) (f : ∀ v h, Q v h → Q' v h) : Go l Z mn code maxL ret R n0 Q' h k n pc Ls st :=
  fun p e s m args below meth c T locs k' n' C X hk hn N eT => by
    obtain ⟨s2, o, h1, h2, h3, v, L, h4, h5, h6⟩ := K p e s m args below meth c T locs k' n' C X hk hn N eT
    exact ⟨s2, o, h1, h2, h3, v, L, h4, ⟨h5.1, f _ _ h5.2⟩, h6⟩
theorem Go.met {as : Array Value} (pn : plainFor mn = true) (hef : ∀ m, entryFrame m as maxL = mkF m 0 Ls []) (G : Go l Z mn code maxL ret R n0 Q h 0 0 0 Ls []) (ws : List Jvm.Cond) :
    MetFree l mn (head1 (Jvm.Cond.code mn code maxL ret :: ws) R) (fun a U => a = as ∧ Z.Warmed39 U.vm ∧ U.heap = h) (fun _ _ _ _ _ => True) (fun _ U o U' => ∃ v L, o = .returned v ∧ (Fr n0 L ∧ Q v U'.heap) ∧ FrameEnd U o U' L R.cells R.slots) := by
  refine MetFree.of_bodySF pn hisR ?_
  intro p e s m args below meth c s₁ Bd hml0 hP hK
  obtain ⟨rfl, hZ, hh⟩ := hP
  have e0 : s₁.heap = h := by rw [← hh, Bd.state]; rfl
  rw [hef]
  exact G p e s m _ below meth c s₁ [] 0 0 ⟨Bd.exec, hZ, Bd.bytes, hml0, findClass_of_methodNamed Bd.named, Bd.returns, BodyLoose.notSynchronized Bd, (name_of_methodNamed Bd.named Bd.method).1⟩ (Stand.of_body Bd) (Nat.le_refl _) (Nat.le_refl _) (Fr.nil n0) e0

theorem Go.iloadN {i : Fin 4} {v : Int32} (hd : decode code pc = .ok (.iload_n i, 1)) (hq : q = pc + 1) (hl : Ls[i.val]? = some (.val (.int v))) (K : Go l Z mn code maxL ret R n0 Q h k n q Ls (.int v :: st)) : Go l Z mn code maxL ret R n0 Q h k n pc Ls (st) := by
  subst hq
  exact K.plain fun p e s m args below meth c T locs k' n' hx hby X t r => XS.iloadN X.here hx rfl (hb hby hd) hl r
theorem Go.iload {i : Nat} {v : Int32} (hd : decode code pc = .ok (.iload i, 2)) (hq : q = pc + 2) (hl : Ls[i]? = some (.val (.int v))) (K : Go l Z mn code maxL ret R n0 Q h k n q Ls (.int v :: st)) : Go l Z mn code maxL ret R n0 Q h k n pc Ls (st) := by
  subst hq
  exact K.plain fun p e s m args below meth c T locs k' n' hx hby X t r => XS.iload X.here hx rfl (hb hby hd) hl r
theorem Go.lloadN {i : Fin 4} {v : Int64} (hd : decode code pc = .ok (.lload_n i, 1)) (hq : q = pc + 1) (hl : Ls[i.val]? = some (.val (.long v))) (K : Go l Z mn code maxL ret R n0 Q h k n q Ls (.long v :: st)) : Go l Z mn code maxL ret R n0 Q h k n pc Ls (st) := by
  subst hq
  exact K.plain fun p e s m args below meth c T locs k' n' hx hby X t r => XT.lloadN X.here hx rfl (hb hby hd) hl r
theorem Go.lload {i : Nat} {v : Int64} (hd : decode code pc = .ok (.lload i, 2)) (hq : q = pc + 2) (hl : Ls[i]? = some (.val (.long v))) (K : Go l Z mn code maxL ret R n0 Q h k n q Ls (.long v :: st)) : Go l Z mn code maxL ret R n0 Q h k n pc Ls (st) := by
  subst hq
  exact K.plain fun p e s m args below meth c T locs k' n' hx hby X t r => XT.lload X.here hx rfl (hb hby hd) hl r
theorem Go.aloadN {i : Fin 4} {v : Value} (hd : decode code pc = .ok (.aload_n i, 1)) (hq : q = pc + 1) (hl : Ls[i.val]? = some (.val v)) (hv : v.isRef = true) (K : Go l Z mn code maxL ret R n0 Q h k n q Ls (v :: st)) : Go l Z mn code maxL ret R n0 Q h k n pc Ls (st) := by
  subst hq
  exact K.plain fun p e s m args below meth c T locs k' n' hx hby X t r => XS.aloadN X.here hx rfl (hb hby hd) hl hv r
theorem Go.aload {i : Nat} {v : Value} (hd : decode code pc = .ok (.aload i, 2)) (hq : q = pc + 2) (hl : Ls[i]? = some (.val v)) (hv : v.isRef = true) (K : Go l Z mn code maxL ret R n0 Q h k n q Ls (v :: st)) : Go l Z mn code maxL ret R n0 Q h k n pc Ls (st) := by
  subst hq
  exact K.plain fun p e s m args below meth c T locs k' n' hx hby X t r => XS.aload X.here hx rfl (hb hby hd) hl hv r
theorem Go.istoreN {i : Fin 4} {v : Int32} (hd : decode code pc = .ok (.istore_n i, 1)) (hq : q = pc + 1) (hl : storeLocals Ls i.val (.int v) = some Ls') (K : Go l Z mn code maxL ret R n0 Q h k n q Ls' (st)) : Go l Z mn code maxL ret R n0 Q h k n pc Ls (.int v :: st) := by
  subst hq
  exact K.plain fun p e s m args below meth c T locs k' n' hx hby X t r => XS.istoreN X.here hx rfl (hb hby hd) rfl hl r
theorem Go.istore {i : Nat} {v : Int32} (hd : decode code pc = .ok (.istore i, 2)) (hq : q = pc + 2) (hl : storeLocals Ls i (.int v) = some Ls') (K : Go l Z mn code maxL ret R n0 Q h k n q Ls' (st)) : Go l Z mn code maxL ret R n0 Q h k n pc Ls (.int v :: st) := by
  subst hq
  exact K.plain fun p e s m args below meth c T locs k' n' hx hby X t r => XS.istore X.here hx rfl (hb hby hd) rfl hl r
theorem Go.lstoreN {i : Fin 4} {v : Int64} (hd : decode code pc = .ok (.lstore_n i, 1)) (hq : q = pc + 1) (hl : storeLocals Ls i.val (.long v) = some Ls') (K : Go l Z mn code maxL ret R n0 Q h k n q Ls' (st)) : Go l Z mn code maxL ret R n0 Q h k n pc Ls (.long v :: st) := by
  subst hq
  exact K.plain fun p e s m args below meth c T locs k' n' hx hby X t r => XT.lstoreN X.here hx rfl (hb hby hd) rfl hl r
theorem Go.lstore {i : Nat} {v : Int64} (hd : decode code pc = .ok (.lstore i, 2)) (hq : q = pc + 2) (hl : storeLocals Ls i (.long v) = some Ls') (K : Go l Z mn code maxL ret R n0 Q h k n q Ls' (st)) : Go l Z mn code maxL ret R n0 Q h k n pc Ls (.long v :: st) := by
  subst hq
  exact K.plain fun p e s m args below meth c T locs k' n' hx hby X t r => XT.lstore X.here hx rfl (hb hby hd) rfl hl r
theorem Go.astoreN {i : Fin 4} {v : Value} (hd : decode code pc = .ok (.astore_n i, 1)) (hq : q = pc + 1) (hv : v.isRef = true) (hl : storeLocals Ls i.val v = some Ls') (K : Go l Z mn code maxL ret R n0 Q h k n q Ls' (st)) : Go l Z mn code maxL ret R n0 Q h k n pc Ls (v :: st) := by
  subst hq
  exact K.plain fun p e s m args below meth c T locs k' n' hx hby X t r => XS.astoreN X.here hx rfl (hb hby hd) rfl hv hl r
theorem Go.astore {i : Nat} {v : Value} (hd : decode code pc = .ok (.astore i, 2)) (hq : q = pc + 2) (hv : v.isRef = true) (hl : storeLocals Ls i v = some Ls') (K : Go l Z mn code maxL ret R n0 Q h k n q Ls' (st)) : Go l Z mn code maxL ret R n0 Q h k n pc Ls (v :: st) := by
  subst hq
  exact K.plain fun p e s m args below meth c T locs k' n' hx hby X t r => XS.astore X.here hx rfl (hb hby hd) rfl hv hl r
theorem Go.iconst {i : Int} {x : Int32} (hd : decode code pc = .ok (.iconst i, 1)) (hq : q = pc + 1) (hi : Int32.ofInt i = x) (K : Go l Z mn code maxL ret R n0 Q h k n q Ls (.int x :: st)) : Go l Z mn code maxL ret R n0 Q h k n pc Ls (st) := by
  subst hq
  exact K.plain fun p e s m args below meth c T locs k' n' hx hby X t r => XS.iconst X.here hx rfl (hb hby hd) (by rw [hi]; exact r)
theorem Go.bipush {i : Int} {x : Int32} (hd : decode code pc = .ok (.bipush i, 2)) (hq : q = pc + 2) (hi : (Int8.ofInt i).toInt32 = x) (K : Go l Z mn code maxL ret R n0 Q h k n q Ls (.int x :: st)) : Go l Z mn code maxL ret R n0 Q h k n pc Ls (st) := by
  subst hq
  exact K.plain fun p e s m args below meth c T locs k' n' hx hby X t r => XS.bipush X.here hx rfl (hb hby hd) (by rw [hi]; exact r)
theorem Go.sipush {i : Int} {x : Int32} (hd : decode code pc = .ok (.sipush i, 3)) (hq : q = pc + 3) (hi : (Int16.ofInt i).toInt32 = x) (K : Go l Z mn code maxL ret R n0 Q h k n q Ls (.int x :: st)) : Go l Z mn code maxL ret R n0 Q h k n pc Ls (st) := by
  subst hq
  exact K.plain fun p e s m args below meth c T locs k' n' hx hby X t r => XS.sipush X.here hx rfl (hb hby hd) (by rw [hi]; exact r)
theorem Go.lconst {i : Fin 2} {x : Int64} (hd : decode code pc = .ok (.lconst i, 1)) (hq : q = pc + 1) (hi : Int64.ofNat i = x) (K : Go l Z mn code maxL ret R n0 Q h k n q Ls (.long x :: st)) : Go l Z mn code maxL ret R n0 Q h k n pc Ls (st) := by
  subst hq
  exact K.plain fun p e s m args below meth c T locs k' n' hx hby X t r => XT.lconst X.here hx rfl (hb hby hd) (by rw [hi]; exact r)
theorem Go.aconstNull (hd : decode code pc = .ok (.aconst_null, 1)) (hq : q = pc + 1) (K : Go l Z mn code maxL ret R n0 Q h k n q Ls (.null :: st)) : Go l Z mn code maxL ret R n0 Q h k n pc Ls (st) := by
  subst hq
  exact K.plain fun p e s m args below meth c T locs k' n' hx hby X t r => XS.aconstNull X.here hx rfl (hb hby hd) r
theorem Go.iadd {x y : Int32} (hd : decode code pc = .ok (.iadd, 1)) (hq : q = pc + 1) (K : Go l Z mn code maxL ret R n0 Q h k n q Ls (.int (x + y) :: st)) : Go l Z mn code maxL ret R n0 Q h k n pc Ls (.int y :: .int x :: st) := by
  subst hq
  exact K.plain fun p e s m args below meth c T locs k' n' hx hby X t r => XS.iadd X.here hx rfl (hb hby hd) rfl r
theorem Go.isub {x y : Int32} (hd : decode code pc = .ok (.isub, 1)) (hq : q = pc + 1) (K : Go l Z mn code maxL ret R n0 Q h k n q Ls (.int (x - y) :: st)) : Go l Z mn code maxL ret R n0 Q h k n pc Ls (.int y :: .int x :: st) := by
  subst hq
  exact K.plain fun p e s m args below meth c T locs k' n' hx hby X t r => XS.isub X.here hx rfl (hb hby hd) rfl r
theorem Go.iand {x y : Int32} (hd : decode code pc = .ok (.iand, 1)) (hq : q = pc + 1) (K : Go l Z mn code maxL ret R n0 Q h k n q Ls (.int (x &&& y) :: st)) : Go l Z mn code maxL ret R n0 Q h k n pc Ls (.int y :: .int x :: st) := by
  subst hq
  exact K.plain fun p e s m args below meth c T locs k' n' hx hby X t r => XS.iand X.here hx rfl (hb hby hd) rfl r
theorem Go.imul {x y : Int32} (hd : decode code pc = .ok (.imul, 1)) (hq : q = pc + 1) (K : Go l Z mn code maxL ret R n0 Q h k n q Ls (.int (x * y) :: st)) : Go l Z mn code maxL ret R n0 Q h k n pc Ls (.int y :: .int x :: st) := by
  subst hq
  exact K.plain fun p e s m args below meth c T locs k' n' hx hby X t r => XS.imul X.here hx rfl (hb hby hd) rfl r
theorem Go.ixor {x y : Int32} (hd : decode code pc = .ok (.ixor, 1)) (hq : q = pc + 1) (K : Go l Z mn code maxL ret R n0 Q h k n q Ls (.int (x ^^^ y) :: st)) : Go l Z mn code maxL ret R n0 Q h k n pc Ls (.int y :: .int x :: st) := by
  subst hq
  exact K.plain fun p e s m args below meth c T locs k' n' hx hby X t r => XT.ixor X.here hx rfl (hb hby hd) rfl r
theorem Go.ior {x y : Int32} (hd : decode code pc = .ok (.ior, 1)) (hq : q = pc + 1) (K : Go l Z mn code maxL ret R n0 Q h k n q Ls (.int (x ||| y) :: st)) : Go l Z mn code maxL ret R n0 Q h k n pc Ls (.int y :: .int x :: st) := by
  subst hq
  exact K.plain fun p e s m args below meth c T locs k' n' hx hby X t r => XT.ior X.here hx rfl (hb hby hd) rfl r
theorem Go.ishl {x y : Int32} (hd : decode code pc = .ok (.ishl, 1)) (hq : q = pc + 1) (K : Go l Z mn code maxL ret R n0 Q h k n q Ls (.int (x <<< (y &&& 31)) :: st)) : Go l Z mn code maxL ret R n0 Q h k n pc Ls (.int y :: .int x :: st) := by
  subst hq
  exact K.plain fun p e s m args below meth c T locs k' n' hx hby X t r => XT.ishl X.here hx rfl (hb hby hd) rfl r
theorem Go.ishr {x y : Int32} (hd : decode code pc = .ok (.ishr, 1)) (hq : q = pc + 1) (K : Go l Z mn code maxL ret R n0 Q h k n q Ls (.int (x >>> (y &&& 31)) :: st)) : Go l Z mn code maxL ret R n0 Q h k n pc Ls (.int y :: .int x :: st) := by
  subst hq
  exact K.plain fun p e s m args below meth c T locs k' n' hx hby X t r => XT.ishr X.here hx rfl (hb hby hd) rfl r
theorem Go.iushr {x y : Int32} (hd : decode code pc = .ok (.iushr, 1)) (hq : q = pc + 1) (K : Go l Z mn code maxL ret R n0 Q h k n q Ls (.int (XT.ushr x y) :: st)) : Go l Z mn code maxL ret R n0 Q h k n pc Ls (.int y :: .int x :: st) := by
  subst hq
  exact K.plain fun p e s m args below meth c T locs k' n' hx hby X t r => XT.iushr X.here hx rfl (hb hby hd) rfl r
theorem Go.ladd {x y : Int64} (hd : decode code pc = .ok (.ladd, 1)) (hq : q = pc + 1) (K : Go l Z mn code maxL ret R n0 Q h k n q Ls (.long (x + y) :: st)) : Go l Z mn code maxL ret R n0 Q h k n pc Ls (.long y :: .long x :: st) := by
  subst hq
  exact K.plain fun p e s m args below meth c T locs k' n' hx hby X t r => XT.ladd X.here hx rfl (hb hby hd) rfl r
theorem Go.lsub {x y : Int64} (hd : decode code pc = .ok (.lsub, 1)) (hq : q = pc + 1) (K : Go l Z mn code maxL ret R n0 Q h k n q Ls (.long (x - y) :: st)) : Go l Z mn code maxL ret R n0 Q h k n pc Ls (.long y :: .long x :: st) := by
  subst hq
  exact K.plain fun p e s m args below meth c T locs k' n' hx hby X t r => XT.lsub X.here hx rfl (hb hby hd) rfl r
theorem Go.lmul {x y : Int64} (hd : decode code pc = .ok (.lmul, 1)) (hq : q = pc + 1) (K : Go l Z mn code maxL ret R n0 Q h k n q Ls (.long (x * y) :: st)) : Go l Z mn code maxL ret R n0 Q h k n pc Ls (.long y :: .long x :: st) := by
  subst hq
  exact K.plain fun p e s m args below meth c T locs k' n' hx hby X t r => XT.lmul X.here hx rfl (hb hby hd) rfl r
theorem Go.land {x y : Int64} (hd : decode code pc = .ok (.land, 1)) (hq : q = pc + 1) (K : Go l Z mn code maxL ret R n0 Q h k n q Ls (.long (x &&& y) :: st)) : Go l Z mn code maxL ret R n0 Q h k n pc Ls (.long y :: .long x :: st) := by
  subst hq
  exact K.plain fun p e s m args below meth c T locs k' n' hx hby X t r => XT.land X.here hx rfl (hb hby hd) rfl r
theorem Go.lor {x y : Int64} (hd : decode code pc = .ok (.lor, 1)) (hq : q = pc + 1) (K : Go l Z mn code maxL ret R n0 Q h k n q Ls (.long (x ||| y) :: st)) : Go l Z mn code maxL ret R n0 Q h k n pc Ls (.long y :: .long x :: st) := by
  subst hq
  exact K.plain fun p e s m args below meth c T locs k' n' hx hby X t r => XT.lor X.here hx rfl (hb hby hd) rfl r
theorem Go.lxor {x y : Int64} (hd : decode code pc = .ok (.lxor, 1)) (hq : q = pc + 1) (K : Go l Z mn code maxL ret R n0 Q h k n q Ls (.long (x ^^^ y) :: st)) : Go l Z mn code maxL ret R n0 Q h k n pc Ls (.long y :: .long x :: st) := by
  subst hq
  exact K.plain fun p e s m args below meth c T locs k' n' hx hby X t r => XT.lxor X.here hx rfl (hb hby hd) rfl r
theorem Go.lshl {x : Int64} {y : Int32} (hd : decode code pc = .ok (.lshl, 1)) (hq : q = pc + 1) (K : Go l Z mn code maxL ret R n0 Q h k n q Ls (.long (x <<< (y.toInt64 &&& 63)) :: st)) : Go l Z mn code maxL ret R n0 Q h k n pc Ls (.int y :: .long x :: st) := by
  subst hq
  exact K.plain fun p e s m args below meth c T locs k' n' hx hby X t r => XT.lshl X.here hx rfl (hb hby hd) rfl r
theorem Go.lshr {x : Int64} {y : Int32} (hd : decode code pc = .ok (.lshr, 1)) (hq : q = pc + 1) (K : Go l Z mn code maxL ret R n0 Q h k n q Ls (.long (x >>> (y.toInt64 &&& 63)) :: st)) : Go l Z mn code maxL ret R n0 Q h k n pc Ls (.int y :: .long x :: st) := by
  subst hq
  exact K.plain fun p e s m args below meth c T locs k' n' hx hby X t r => XT.lshr X.here hx rfl (hb hby hd) rfl r
theorem Go.lushr {x : Int64} {y : Int32} (hd : decode code pc = .ok (.lushr, 1)) (hq : q = pc + 1) (K : Go l Z mn code maxL ret R n0 Q h k n q Ls (.long (XT.ushrL x y) :: st)) : Go l Z mn code maxL ret R n0 Q h k n pc Ls (.int y :: .long x :: st) := by
  subst hq
  exact K.plain fun p e s m args below meth c T locs k' n' hx hby X t r => XT.lushr X.here hx rfl (hb hby hd) rfl r
theorem Go.idiv {x y : Int32} (hd : decode code pc = .ok (.idiv, 1)) (hq : q = pc + 1) (hy : y ≠ 0) (K : Go l Z mn code maxL ret R n0 Q h k n q Ls (.int (x / y) :: st)) : Go l Z mn code maxL ret R n0 Q h k n pc Ls (.int y :: .int x :: st) := by
  subst hq
  exact K.plain fun p e s m args below meth c T locs k' n' hx hby X t r => XS.idiv X.here hx rfl (hb hby hd) rfl hy r
theorem Go.irem {x y : Int32} (hd : decode code pc = .ok (.irem, 1)) (hq : q = pc + 1) (hy : y ≠ 0) (K : Go l Z mn code maxL ret R n0 Q h k n q Ls (.int (x % y) :: st)) : Go l Z mn code maxL ret R n0 Q h k n pc Ls (.int y :: .int x :: st) := by
  subst hq
  exact K.plain fun p e s m args below meth c T locs k' n' hx hby X t r => XS.irem X.here hx rfl (hb hby hd) rfl hy (by rw [irem_eq_mod]; exact r)
theorem Go.lrem {x y : Int64} (hd : decode code pc = .ok (.lrem, 1)) (hq : q = pc + 1) (hy : y ≠ 0) (K : Go l Z mn code maxL ret R n0 Q h k n q Ls (.long (x % y) :: st)) : Go l Z mn code maxL ret R n0 Q h k n pc Ls (.long y :: .long x :: st) := by
  subst hq
  exact K.plain fun p e s m args below meth c T locs k' n' hx hby X t r => XT.lrem X.here hx rfl (hb hby hd) rfl hy (by rw [lrem_mod]; exact r)
theorem Go.ineg {x : Int32} (hd : decode code pc = .ok (.ineg, 1)) (hq : q = pc + 1) (K : Go l Z mn code maxL ret R n0 Q h k n q Ls (.int (-x) :: st)) : Go l Z mn code maxL ret R n0 Q h k n pc Ls (.int x :: st) := by
  subst hq
  exact K.plain fun p e s m args below meth c T locs k' n' hx hby X t r => XS.ineg X.here hx rfl (hb hby hd) rfl r
theorem Go.lneg {x : Int64} (hd : decode code pc = .ok (.lneg, 1)) (hq : q = pc + 1) (K : Go l Z mn code maxL ret R n0 Q h k n q Ls (.long (-x) :: st)) : Go l Z mn code maxL ret R n0 Q h k n pc Ls (.long x :: st) := by
  subst hq
  exact K.plain fun p e s m args below meth c T locs k' n' hx hby X t r => XT.lneg X.here hx rfl (hb hby hd) rfl r
theorem Go.i2l {x : Int32} (hd : decode code pc = .ok (.i2l, 1)) (hq : q = pc + 1) (K : Go l Z mn code maxL ret R n0 Q h k n q Ls (.long x.toInt64 :: st)) : Go l Z mn code maxL ret R n0 Q h k n pc Ls (.int x :: st) := by
  subst hq
  exact K.plain fun p e s m args below meth c T locs k' n' hx hby X t r => XT.i2l X.here hx rfl (hb hby hd) rfl r
theorem Go.l2i {x : Int64} (hd : decode code pc = .ok (.l2i, 1)) (hq : q = pc + 1) (K : Go l Z mn code maxL ret R n0 Q h k n q Ls (.int x.toInt32 :: st)) : Go l Z mn code maxL ret R n0 Q h k n pc Ls (.long x :: st) := by
  subst hq
  exact K.plain fun p e s m args below meth c T locs k' n' hx hby X t r => XT.l2i X.here hx rfl (hb hby hd) rfl r
theorem Go.i2b {x : Int32} (hd : decode code pc = .ok (.i2b, 1)) (hq : q = pc + 1) (K : Go l Z mn code maxL ret R n0 Q h k n q Ls (.int x.toInt8.toInt32 :: st)) : Go l Z mn code maxL ret R n0 Q h k n pc Ls (.int x :: st) := by
  subst hq
  exact K.plain fun p e s m args below meth c T locs k' n' hx hby X t r => XT.i2b X.here hx rfl (hb hby hd) rfl r
theorem Go.i2s {x : Int32} (hd : decode code pc = .ok (.i2s, 1)) (hq : q = pc + 1) (K : Go l Z mn code maxL ret R n0 Q h k n q Ls (.int x.toInt16.toInt32 :: st)) : Go l Z mn code maxL ret R n0 Q h k n pc Ls (.int x :: st) := by
  subst hq
  exact K.plain fun p e s m args below meth c T locs k' n' hx hby X t r => XT.i2s X.here hx rfl (hb hby hd) rfl r
theorem Go.i2c {x : Int32} (hd : decode code pc = .ok (.i2c, 1)) (hq : q = pc + 1) (K : Go l Z mn code maxL ret R n0 Q h k n q Ls (.int x.toUInt32.toUInt16.toUInt32.toInt32 :: st)) : Go l Z mn code maxL ret R n0 Q h k n pc Ls (.int x :: st) := by
  subst hq
  exact K.plain fun p e s m args below meth c T locs k' n' hx hby X t r => XT.i2c X.here hx rfl (hb hby hd) rfl r
theorem Go.lcmp {x y : Int64} (hd : decode code pc = .ok (.lcmp, 1)) (hq : q = pc + 1) (K : Go l Z mn code maxL ret R n0 Q h k n q Ls (.int (XT.cmpL x y) :: st)) : Go l Z mn code maxL ret R n0 Q h k n pc Ls (.long y :: .long x :: st) := by
  subst hq
  exact K.plain fun p e s m args below meth c T locs k' n' hx hby X t r => XT.lcmp X.here hx rfl (hb hby hd) rfl r
theorem Go.iinc {i : Nat} {cst : Int} {x w : Int32} (hd : decode code pc = .ok (.iinc i cst, 3)) (hq : q = pc + 3) (hl : Ls[i]? = some (.val (.int x))) (hw : x + Int32.ofInt cst = w) (hl' : storeLocals Ls i (.int w) = some Ls') (K : Go l Z mn code maxL ret R n0 Q h k n q Ls' (st)) : Go l Z mn code maxL ret R n0 Q h k n pc Ls (st) := by
  subst hq
  exact K.plain fun p e s m args below meth c T locs k' n' hx hby X t r => XS.iinc X.here hx rfl (hb hby hd) hl (by rw [hw]; exact hl') r
theorem Go.dup {v : Value} (hd : decode code pc = .ok (.dup, 1)) (hq : q = pc + 1) (hc : v.category = 1) (K : Go l Z mn code maxL ret R n0 Q h k n q Ls (v :: v :: st)) : Go l Z mn code maxL ret R n0 Q h k n pc Ls (v :: st) := by
  subst hq
  exact K.plain fun p e s m args below meth c T locs k' n' hx hby X t r => XS.dup X.here hx rfl (hb hby hd) rfl hc r
theorem Go.pop {v : Value} (hd : decode code pc = .ok (.pop, 1)) (hq : q = pc + 1) (hc : v.category = 1) (K : Go l Z mn code maxL ret R n0 Q h k n q Ls (st)) : Go l Z mn code maxL ret R n0 Q h k n pc Ls (v :: st) := by
  subst hq
  exact K.plain fun p e s m args below meth c T locs k' n' hx hby X t r => XT.pop X.here hx rfl (hb hby hd) rfl hc r
theorem Go.dupX1 {v w : Value} (hd : decode code pc = .ok (.dup_x1, 1)) (hq : q = pc + 1) (hc : v.category = 1) (hc' : w.category = 1) (K : Go l Z mn code maxL ret R n0 Q h k n q Ls (v :: w :: v :: st)) : Go l Z mn code maxL ret R n0 Q h k n pc Ls (v :: w :: st) := by
  subst hq
  exact K.plain fun p e s m args below meth c T locs k' n' hx hby X t r => XT.dupX1 X.here hx rfl (hb hby hd) rfl hc hc' r
theorem Go.dup2 {v w : Value} (hd : decode code pc = .ok (.dup2, 1)) (hq : q = pc + 1) (hc : v.category = 1) (hc' : w.category = 1) (K : Go l Z mn code maxL ret R n0 Q h k n q Ls (v :: w :: v :: w :: st)) : Go l Z mn code maxL ret R n0 Q h k n pc Ls (v :: w :: st) := by
  subst hq
  exact K.plain fun p e s m args below meth c T locs k' n' hx hby X t r => XT.dup2 X.here hx rfl (hb hby hd) rfl hc hc' r
theorem Go.dup2L {x : Int64} (hd : decode code pc = .ok (.dup2, 1)) (hq : q = pc + 1) (K : Go l Z mn code maxL ret R n0 Q h k n q Ls (.long x :: .long x :: st)) : Go l Z mn code maxL ret R n0 Q h k n pc Ls (.long x :: st) := by
  subst hq
  exact K.plain fun p e s m args below meth c T locs k' n' hx hby X t r => XT.dup2L X.here hx rfl (hb hby hd) rfl r
theorem Go.goto {o : Int} (hd : decode code pc = .ok (.goto o, 3)) (ho : 0 ≤ (pc : Int) + o) (hq : ((pc : Int) + o).toNat = q) (K : Go l Z mn code maxL ret R n0 Q h k n q Ls st) : Go l Z mn code maxL ret R n0 Q h k n pc Ls st :=
  K.plain fun p e s m args below meth c T locs k' n' hx hby X t r => XS.goto X.here hx rfl rfl (hb hby hd) ho hq r
theorem Go.icmp_eq {x y' : Int32} {o : Int} {q' : Nat} (hd : decode code pc = .ok (.if_icmp .eq o, 3)) (ho : 0 ≤ (pc : Int) + o) (hq : ((pc : Int) + o).toNat = q) (hq' : q' = pc + 3) (K1 : x = y' → Go l Z mn code maxL ret R n0 Q h k n q Ls st) (K2 : ¬ x = y' → Go l Z mn code maxL ret R n0 Q h k n q' Ls st) : Go l Z mn code maxL ret R n0 Q h k n pc Ls (.int y' :: .int x :: st) := by
  subst hq'
  by_cases hc : x = y'
  · exact (K1 hc).plain fun p e s m args below meth c T locs k' n' hx hby X t r => XS.icmpYes X.here hx rfl rfl (hb hby hd) rfl (teq hc).1 ho hq r
  · exact (K2 (hc)).plain fun p e s m args below meth c T locs k' n' hx hby X t r => XS.icmpNo X.here hx rfl (hb hby hd) rfl (feq (hc)).1 r
theorem Go.if_eq {x : Int32} {o : Int} {q' : Nat} (hd : decode code pc = .ok (.ifCond .eq o, 3)) (ho : 0 ≤ (pc : Int) + o) (hq : ((pc : Int) + o).toNat = q) (hq' : q' = pc + 3) (K1 : x = 0 → Go l Z mn code maxL ret R n0 Q h k n q Ls st) (K2 : ¬ x = 0 → Go l Z mn code maxL ret R n0 Q h k n q' Ls st) : Go l Z mn code maxL ret R n0 Q h k n pc Ls (.int x :: st) := by
  subst hq'
  by_cases hc : x = 0
  · exact (K1 hc).plain fun p e s m args below meth c T locs k' n' hx hby X t r => XS.ifYes X.here hx rfl rfl (hb hby hd) rfl ((if0 _ _).trans (teq hc).1) ho hq r
  · exact (K2 (hc)).plain fun p e s m args below meth c T locs k' n' hx hby X t r => XS.ifNo X.here hx rfl (hb hby hd) rfl ((if0 _ _).trans (feq (hc)).1) r
theorem Go.icmp_ne {x y' : Int32} {o : Int} {q' : Nat} (hd : decode code pc = .ok (.if_icmp .ne o, 3)) (ho : 0 ≤ (pc : Int) + o) (hq : ((pc : Int) + o).toNat = q) (hq' : q' = pc + 3) (K1 : ¬ x = y' → Go l Z mn code maxL ret R n0 Q h k n q Ls st) (K2 : x = y' → Go l Z mn code maxL ret R n0 Q h k n q' Ls st) : Go l Z mn code maxL ret R n0 Q h k n pc Ls (.int y' :: .int x :: st) := by
  subst hq'
  by_cases hc : ¬ x = y'
  · exact (K1 hc).plain fun p e s m args below meth c T locs k' n' hx hby X t r => XS.icmpYes X.here hx rfl rfl (hb hby hd) rfl (feq hc).2 ho hq r
  · exact (K2 (Decidable.not_not.mp hc)).plain fun p e s m args below meth c T locs k' n' hx hby X t r => XS.icmpNo X.here hx rfl (hb hby hd) rfl (teq (Decidable.not_not.mp hc)).2 r
theorem Go.if_ne {x : Int32} {o : Int} {q' : Nat} (hd : decode code pc = .ok (.ifCond .ne o, 3)) (ho : 0 ≤ (pc : Int) + o) (hq : ((pc : Int) + o).toNat = q) (hq' : q' = pc + 3) (K1 : ¬ x = 0 → Go l Z mn code maxL ret R n0 Q h k n q Ls st) (K2 : x = 0 → Go l Z mn code maxL ret R n0 Q h k n q' Ls st) : Go l Z mn code maxL ret R n0 Q h k n pc Ls (.int x :: st) := by
  subst hq'
  by_cases hc : ¬ x = 0
  · exact (K1 hc).plain fun p e s m args below meth c T locs k' n' hx hby X t r => XS.ifYes X.here hx rfl rfl (hb hby hd) rfl ((if0 _ _).trans (feq hc).2) ho hq r
  · exact (K2 (Decidable.not_not.mp hc)).plain fun p e s m args below meth c T locs k' n' hx hby X t r => XS.ifNo X.here hx rfl (hb hby hd) rfl ((if0 _ _).trans (teq (Decidable.not_not.mp hc)).2) r
theorem Go.icmp_lt {x y' : Int32} {o : Int} {q' : Nat} (hd : decode code pc = .ok (.if_icmp .lt o, 3)) (ho : 0 ≤ (pc : Int) + o) (hq : ((pc : Int) + o).toNat = q) (hq' : q' = pc + 3) (K1 : x < y' → Go l Z mn code maxL ret R n0 Q h k n q Ls st) (K2 : ¬ x < y' → Go l Z mn code maxL ret R n0 Q h k n q' Ls st) : Go l Z mn code maxL ret R n0 Q h k n pc Ls (.int y' :: .int x :: st) := by
  subst hq'
  by_cases hc : x < y'
  · exact (K1 hc).plain fun p e s m args below meth c T locs k' n' hx hby X t r => XS.icmpYes X.here hx rfl rfl (hb hby hd) rfl (tlt hc).1 ho hq r
  · exact (K2 (hc)).plain fun p e s m args below meth c T locs k' n' hx hby X t r => XS.icmpNo X.here hx rfl (hb hby hd) rfl (flt (hc)).1 r
theorem Go.if_lt {x : Int32} {o : Int} {q' : Nat} (hd : decode code pc = .ok (.ifCond .lt o, 3)) (ho : 0 ≤ (pc : Int) + o) (hq : ((pc : Int) + o).toNat = q) (hq' : q' = pc + 3) (K1 : x < 0 → Go l Z mn code maxL ret R n0 Q h k n q Ls st) (K2 : ¬ x < 0 → Go l Z mn code maxL ret R n0 Q h k n q' Ls st) : Go l Z mn code maxL ret R n0 Q h k n pc Ls (.int x :: st) := by
  subst hq'
  by_cases hc : x < 0
  · exact (K1 hc).plain fun p e s m args below meth c T locs k' n' hx hby X t r => XS.ifYes X.here hx rfl rfl (hb hby hd) rfl ((if0 _ _).trans (tlt hc).1) ho hq r
  · exact (K2 (hc)).plain fun p e s m args below meth c T locs k' n' hx hby X t r => XS.ifNo X.here hx rfl (hb hby hd) rfl ((if0 _ _).trans (flt (hc)).1) r
theorem Go.icmp_ge {x y' : Int32} {o : Int} {q' : Nat} (hd : decode code pc = .ok (.if_icmp .ge o, 3)) (ho : 0 ≤ (pc : Int) + o) (hq : ((pc : Int) + o).toNat = q) (hq' : q' = pc + 3) (K1 : ¬ x < y' → Go l Z mn code maxL ret R n0 Q h k n q Ls st) (K2 : x < y' → Go l Z mn code maxL ret R n0 Q h k n q' Ls st) : Go l Z mn code maxL ret R n0 Q h k n pc Ls (.int y' :: .int x :: st) := by
  subst hq'
  by_cases hc : ¬ x < y'
  · exact (K1 hc).plain fun p e s m args below meth c T locs k' n' hx hby X t r => XS.icmpYes X.here hx rfl rfl (hb hby hd) rfl (flt hc).2.1 ho hq r
  · exact (K2 (Decidable.not_not.mp hc)).plain fun p e s m args below meth c T locs k' n' hx hby X t r => XS.icmpNo X.here hx rfl (hb hby hd) rfl (tlt (Decidable.not_not.mp hc)).2.1 r
theorem Go.if_ge {x : Int32} {o : Int} {q' : Nat} (hd : decode code pc = .ok (.ifCond .ge o, 3)) (ho : 0 ≤ (pc : Int) + o) (hq : ((pc : Int) + o).toNat = q) (hq' : q' = pc + 3) (K1 : ¬ x < 0 → Go l Z mn code maxL ret R n0 Q h k n q Ls st) (K2 : x < 0 → Go l Z mn code maxL ret R n0 Q h k n q' Ls st) : Go l Z mn code maxL ret R n0 Q h k n pc Ls (.int x :: st) := by
  subst hq'
  by_cases hc : ¬ x < 0
  · exact (K1 hc).plain fun p e s m args below meth c T locs k' n' hx hby X t r => XS.ifYes X.here hx rfl rfl (hb hby hd) rfl ((if0 _ _).trans (flt hc).2.1) ho hq r
  · exact (K2 (Decidable.not_not.mp hc)).plain fun p e s m args below meth c T locs k' n' hx hby X t r => XS.ifNo X.here hx rfl (hb hby hd) rfl ((if0 _ _).trans (tlt (Decidable.not_not.mp hc)).2.1) r
theorem Go.icmp_gt {x y' : Int32} {o : Int} {q' : Nat} (hd : decode code pc = .ok (.if_icmp .gt o, 3)) (ho : 0 ≤ (pc : Int) + o) (hq : ((pc : Int) + o).toNat = q) (hq' : q' = pc + 3) (K1 : y' < x → Go l Z mn code maxL ret R n0 Q h k n q Ls st) (K2 : ¬ y' < x → Go l Z mn code maxL ret R n0 Q h k n q' Ls st) : Go l Z mn code maxL ret R n0 Q h k n pc Ls (.int y' :: .int x :: st) := by
  subst hq'
  by_cases hc : y' < x
  · exact (K1 hc).plain fun p e s m args below meth c T locs k' n' hx hby X t r => XS.icmpYes X.here hx rfl rfl (hb hby hd) rfl (tlt hc).2.2.1 ho hq r
  · exact (K2 (hc)).plain fun p e s m args below meth c T locs k' n' hx hby X t r => XS.icmpNo X.here hx rfl (hb hby hd) rfl (flt (hc)).2.2.1 r
theorem Go.if_gt {x : Int32} {o : Int} {q' : Nat} (hd : decode code pc = .ok (.ifCond .gt o, 3)) (ho : 0 ≤ (pc : Int) + o) (hq : ((pc : Int) + o).toNat = q) (hq' : q' = pc + 3) (K1 : 0 < x → Go l Z mn code maxL ret R n0 Q h k n q Ls st) (K2 : ¬ 0 < x → Go l Z mn code maxL ret R n0 Q h k n q' Ls st) : Go l Z mn code maxL ret R n0 Q h k n pc Ls (.int x :: st) := by
  subst hq'
  by_cases hc : 0 < x
  · exact (K1 hc).plain fun p e s m args below meth c T locs k' n' hx hby X t r => XS.ifYes X.here hx rfl rfl (hb hby hd) rfl ((if0 _ _).trans (tlt hc).2.2.1) ho hq r
  · exact (K2 (hc)).plain fun p e s m args below meth c T locs k' n' hx hby X t r => XS.ifNo X.here hx rfl (hb hby hd) rfl ((if0 _ _).trans (flt (hc)).2.2.1) r
theorem Go.icmp_le {x y' : Int32} {o : Int} {q' : Nat} (hd : decode code pc = .ok (.if_icmp .le o, 3)) (ho : 0 ≤ (pc : Int) + o) (hq : ((pc : Int) + o).toNat = q) (hq' : q' = pc + 3) (K1 : ¬ y' < x → Go l Z mn code maxL ret R n0 Q h k n q Ls st) (K2 : y' < x → Go l Z mn code maxL ret R n0 Q h k n q' Ls st) : Go l Z mn code maxL ret R n0 Q h k n pc Ls (.int y' :: .int x :: st) := by
  subst hq'
  by_cases hc : ¬ y' < x
  · exact (K1 hc).plain fun p e s m args below meth c T locs k' n' hx hby X t r => XS.icmpYes X.here hx rfl rfl (hb hby hd) rfl (flt hc).2.2.2 ho hq r
  · exact (K2 (Decidable.not_not.mp hc)).plain fun p e s m args below meth c T locs k' n' hx hby X t r => XS.icmpNo X.here hx rfl (hb hby hd) rfl (tlt (Decidable.not_not.mp hc)).2.2.2 r
theorem Go.if_le {x : Int32} {o : Int} {q' : Nat} (hd : decode code pc = .ok (.ifCond .le o, 3)) (ho : 0 ≤ (pc : Int) + o) (hq : ((pc : Int) + o).toNat = q) (hq' : q' = pc + 3) (K1 : ¬ 0 < x → Go l Z mn code maxL ret R n0 Q h k n q Ls st) (K2 : 0 < x → Go l Z mn code maxL ret R n0 Q h k n q' Ls st) : Go l Z mn code maxL ret R n0 Q h k n pc Ls (.int x :: st) := by
  subst hq'
  by_cases hc : ¬ 0 < x
  · exact (K1 hc).plain fun p e s m args below meth c T locs k' n' hx hby X t r => XS.ifYes X.here hx rfl rfl (hb hby hd) rfl ((if0 _ _).trans (flt hc).2.2.2) ho hq r
  · exact (K2 (Decidable.not_not.mp hc)).plain fun p e s m args below meth c T locs k' n' hx hby X t r => XS.ifNo X.here hx rfl (hb hby hd) rfl ((if0 _ _).trans (tlt (Decidable.not_not.mp hc)).2.2.2) r
theorem Go.ifnull {v : Value} {o : Int} {q' : Nat} (hd : decode code pc = .ok (.ifnull o, 3)) (ho : 0 ≤ (pc : Int) + o) (hq : ((pc : Int) + o).toNat = q) (hq' : q' = pc + 3) (hv : v.isRef = true) (K1 : v = .null → Go l Z mn code maxL ret R n0 Q h k n q Ls st) (K2 : ∀ a, v = .ref a → Go l Z mn code maxL ret R n0 Q h k n q' Ls st) : Go l Z mn code maxL ret R n0 Q h k n pc Ls (v :: st) := by
  subst hq'
  rcases ref_cases hv with rfl | ⟨a, rfl⟩
  · exact (K1 rfl).plain fun p e s m args below meth c T locs k' n' hx hby X t r => XS.ifnullYes X.here hx rfl rfl (hb hby hd) rfl ho hq r
  · exact (K2 a rfl).plain fun p e s m args below meth c T locs k' n' hx hby X t r => XS.ifnullNo X.here hx rfl (hb hby hd) rfl r
theorem Go.ifnonnull {v : Value} {o : Int} {q' : Nat} (hd : decode code pc = .ok (.ifnonnull o, 3)) (ho : 0 ≤ (pc : Int) + o) (hq : ((pc : Int) + o).toNat = q) (hq' : q' = pc + 3) (hv : v.isRef = true) (K1 : ∀ a, v = .ref a → Go l Z mn code maxL ret R n0 Q h k n q Ls st) (K2 : v = .null → Go l Z mn code maxL ret R n0 Q h k n q' Ls st) : Go l Z mn code maxL ret R n0 Q h k n pc Ls (v :: st) := by
  subst hq'
  rcases ref_cases hv with rfl | ⟨a, rfl⟩
  · exact (K2 rfl).plain fun p e s m args below meth c T locs k' n' hx hby X t r => XT.ifnonnullNo X.here hx rfl (hb hby hd) rfl r
  · exact (K1 a rfl).plain fun p e s m args below meth c T locs k' n' hx hby X t r => XT.ifnonnullYes X.here hx rfl rfl (hb hby hd) rfl ho hq r
theorem Go.acmp_eq {v w : Value} {o : Int} {q' : Nat} (hd : decode code pc = .ok (.if_acmp .eq o, 3)) (ho : 0 ≤ (pc : Int) + o) (hq : ((pc : Int) + o).toNat = q) (hq' : q' = pc + 3) (hv : v.isRef = true) (hw : w.isRef = true) (K1 : v = w → Go l Z mn code maxL ret R n0 Q h k n q Ls st) (K2 : ¬ v = w → Go l Z mn code maxL ret R n0 Q h k n q' Ls st) : Go l Z mn code maxL ret R n0 Q h k n pc Ls (w :: v :: st) := by
  subst hq'
  by_cases hc : v = w
  · exact (K1 hc).plain fun p e s m args below meth c T locs k' n' hx hby X t r => RoadKit.acmp X hx rfl hv hw rfl (hb hby hd) rfl (same := true) (by simp [hc]) ho (by simp [acV, hq]) r
  · exact (K2 hc).plain fun p e s m args below meth c T locs k' n' hx hby X t r => RoadKit.acmp X hx rfl hv hw rfl (hb hby hd) rfl (same := false) (by simp [hc]) ho (by simp [acV]) r
theorem Go.acmp_ne {v w : Value} {o : Int} {q' : Nat} (hd : decode code pc = .ok (.if_acmp .ne o, 3)) (ho : 0 ≤ (pc : Int) + o) (hq : ((pc : Int) + o).toNat = q) (hq' : q' = pc + 3) (hv : v.isRef = true) (hw : w.isRef = true) (K1 : ¬ v = w → Go l Z mn code maxL ret R n0 Q h k n q Ls st) (K2 : v = w → Go l Z mn code maxL ret R n0 Q h k n q' Ls st) : Go l Z mn code maxL ret R n0 Q h k n pc Ls (w :: v :: st) := by
  subst hq'
  by_cases hc : v = w
  · exact (K2 hc).plain fun p e s m args below meth c T locs k' n' hx hby X t r => RoadKit.acmp X hx rfl hv hw rfl (hb hby hd) rfl (same := true) (by simp [hc]) ho (by simp [acV]) r
  · exact (K1 hc).plain fun p e s m args below meth c T locs k' n' hx hby X t r => RoadKit.acmp X hx rfl hv hw rfl (hb hby hd) rfl (same := false) (by simp [hc]) ho (by simp [acV, hq]) r
/-! constants of the pool -/
theorem Go.ldc {i : Nat} {v : Int32} (hd : decode code pc = .ok (.ldc i, 2)) (hq : q = pc + 2) (w : (Jvm.Cond.constant mn.cls i v).before a0 Z = true) (K : Go l Z mn code maxL ret R n0 Q h k n q Ls (.int v :: st)) : Go l Z mn code maxL ret R n0 Q h k n pc Ls st := by
  subst hq
  exact fun p e s m args below meth c T locs k' n' C X hk hn N eT => (K p e s m args below meth c T locs k' n' C X hk hn N eT).step fun t r => X.ldcI C.1 C.2.2.2.2.1 (mvT C.2.1 w) rfl (hb C.2.2.1 hd) r
theorem Go.ldcW {i : Nat} {v : Int32} (hd : decode code pc = .ok (.ldc_w i, 3)) (hq : q = pc + 3) (w : (Jvm.Cond.constant mn.cls i v).before a0 Z = true) (K : Go l Z mn code maxL ret R n0 Q h k n q Ls (.int v :: st)) : Go l Z mn code maxL ret R n0 Q h k n pc Ls st := by
  subst hq
  exact fun p e s m args below meth c T locs k' n' C X hk hn N eT => (K p e s m args below meth c T locs k' n' C X hk hn N eT).step fun t r => X.ldcWI C.1 C.2.2.2.2.1 (mvT C.2.1 w) rfl (hb C.2.2.1 hd) r
theorem Go.ldc2 {i : Nat} {v : Int64} (hd : decode code pc = .ok (.ldc2_w i, 3)) (hq : q = pc + 3) (w : (Jvm.Cond.constantLong mn.cls i v).before a0 Z = true) (K : Go l Z mn code maxL ret R n0 Q h k n q Ls (.long v :: st)) : Go l Z mn code maxL ret R n0 Q h k n pc Ls st := by
  subst hq
  exact fun p e s m args below meth c T locs k' n' C X hk hn N eT => (K p e s m args below meth c T locs k' n' C X hk hn N eT).step fun t r => X.ldc2J C.1 C.2.2.2.2.1 (mvT C.2.1 w) rfl (hb C.2.2.1 hd) r
/-! statics and fields -/
theorem Go.getS {i : Nat} {O nm d : String} {v : Value} (hd : decode code pc = .ok (.getstatic i, 3)) (hq : q = pc + 3) (w : (Jvm.Cond.fieldLink mn.cls i O nm d).before a0 Z = true) (F : Sta Z h O nm d v) (K : Go l Z mn code maxL ret R n0 Q h k n q Ls (v :: st)) : Go l Z mn code maxL ret R n0 Q h k n pc Ls st := by
  subst hq
  intro p e s m args below meth c T locs k' n' C X hk hn N eT
  obtain ⟨T', X', e', f⟩ := RoadKit.getS (host := "") X C.1 C.2.1 C.2.2.2.2.1 w Via.refl eT F (g := mkF m pc Ls st) rfl (hb C.2.2.1 hd)
  exact (K p e s m args below meth c T' locs k' n' C X' hk hn N e').step f
theorem Go.getF {i : Nat} {R0 O nm d host : String} {a : Addr} {v : Value} (hd : decode code pc = .ok (.getfield i, 3)) (hq : q = pc + 3) (w : (Jvm.Cond.fieldLink mn.cls i R0 nm d).before a0 Z = true ∨ (Jvm.Cond.fieldLinkNest mn.cls i R0 nm d host).before a0 Z = true) (via : Via Z R0 O nm d) (F : Fld Z h a O nm d v) (K : Go l Z mn code maxL ret R n0 Q h k n q Ls (v :: st)) : Go l Z mn code maxL ret R n0 Q h k n pc Ls (.ref a :: st) := by
  subst hq
  intro p e s m args below meth c T locs k' n' C X hk hn N eT
  obtain ⟨T', X', e', f⟩ := RoadKit.getF X C.1 C.2.1 C.2.2.2.2.1 w via eT F (g := mkF m pc Ls (.ref a :: st)) rfl rfl (hb C.2.2.1 hd)
  exact (K p e s m args below meth c T' locs k' n' C X' hk hn N e').step f
theorem Go.putF {i kk : Nat} {R0 O nm d host C : String} {a : Addr} {v old : Value} {ty : FieldType} (hd : decode code pc = .ok (.putfield i, 3)) (hq : q = pc + 3) (w : (Jvm.Cond.fieldLink mn.cls i R0 nm d).before a0 Z = true ∨ (Jvm.Cond.fieldLinkNest mn.cls i R0 nm d host).before a0 Z = true) (via : Via Z R0 O nm d) (F : Fld Z h a O nm d old) (E : Exa Z h a C) (L : (Jvm.Cond.lays C O nm d).before a0 Z = true ∨ ((Jvm.Cond.laysFinal C O nm d).before a0 Z = true ∧ mn.cls = O ∧ mn.name = "<init>")) (wi : (Jvm.Cond.instantiable C kk).before a0 Z = true)
    (hty : parseFieldDescriptor d = some ty) (hna : narrow ty v = v) (hf : fits ty v = true) (ha : n0 ≤ a) (K : ∀ h', Wr h h' a (RoadKit.slotOf Z O nm d) v → Go l Z mn code maxL ret R n0 Q h' k n q Ls st) : Go l Z mn code maxL ret R n0 Q h k n pc Ls (v :: .ref a :: st) := by
  subst hq
  intro p e s m args below meth c T locs k' n' Cc X hk hn N eT
  obtain ⟨T', h', X', e', W, f⟩ := RoadKit.putF X Cc.1 Cc.2.1 Cc.2.2.2.2.1 w via eT F E (L.imp id fun q => ⟨q.1, q.2.1, Cc.2.2.2.2.2.2.2.trans q.2.2⟩) wi hty hna hf (g := mkF m pc Ls (v :: .ref a :: st)) rfl rfl (hb Cc.2.2.1 hd)
  exact (K h' W p e s m args below meth c T' _ k' n' Cc X' hk hn (Fr.snoc X' N ha) e').step f
theorem Go.cast {i : Nat} {Kc : String} {a : Addr} (hd : decode code pc = .ok (.checkcast i, 3)) (hq : q = pc + 3) (w : (Jvm.Cond.classLink mn.cls i Kc).before a0 Z = true) (F : Ins Z h a Kc true) (K : Go l Z mn code maxL ret R n0 Q h k n q Ls (.ref a :: st)) : Go l Z mn code maxL ret R n0 Q h k n pc Ls (.ref a :: st) := by
  subst hq
  intro p e s m args below meth c T locs k' n' C X hk hn N eT
  obtain ⟨T', X', e', f⟩ := castY X C.1 C.2.1 C.2.2.2.2.1 w eT F (g := mkF m pc Ls (.ref a :: st)) rfl rfl (hb C.2.2.1 hd)
  exact (K p e s m args below meth c T' locs k' n' C X' hk hn N e').step f
/-! new, arrays -/
theorem Go.new {i kk : Nat} {C : String} (hd : decode code pc = .ok (.new i, 3)) (hq : q = pc + 3) (w : (Jvm.Cond.classLink mn.cls i C).before a0 Z = true) (wi : (Jvm.Cond.instantiable C kk).before a0 Z = true) (wz : (Jvm.Cond.initialized C).before a0 Z = true) (hc : k + 1 ≤ R.cells) (hs : n + kk ≤ R.slots)
    (K : ∀ h' a, a = h.size → Ext h h' → Exa Z h' a C → (∀ {O nm d : String} {ty : FieldType}, Laid Z a0 C O nm d → parseFieldDescriptor d = some ty → Fld Z h' a O nm d (defaultValue ty)) → Go l Z mn code maxL ret R n0 Q h' (k + 1) (n + kk) q Ls (.ref a :: st)) : Go l Z mn code maxL ret R n0 Q h k n pc Ls st := by
  subst hq
  intro p e s m args below meth c T locs k' n' Cc X hk hn N eT
  obtain ⟨T', h', X', e', E, A, D, -, f⟩ := newO X Cc.1 Cc.2.1 Cc.2.2.2.2.1 w wi wz eT (g := mkF m pc Ls st) rfl (hb Cc.2.2.1 hd) (by omega) (by omega)
  exact (K h' h.size rfl E A (fun L t => D L t) p e s m args below meth c T' locs _ _ Cc X' (by omega) (by omega) N e').step f
theorem Go.initObj {i wd : Nat} {a : Addr} (hd : decode code pc = .ok (.invokespecial i, 3)) (hq : q = pc + 3) (w1 : (Jvm.Cond.methodLink mn.cls i Lib.objectInit).before a0 Z = true) (w2 : (Jvm.Cond.instanceMethod Lib.objectInit).before a0 Z = true) (w3 : (Jvm.Cond.code Lib.objectInit ⟨#[0xb1]⟩ 1 none).before a0 Z = true) (hsz : Ls.size = maxL) (hf : 1 ≤ R.frames) (hW : (st.map fun v => v.category).sum = wd) (hl : wd + 12 ≤ R.locals) (K : Go l Z mn code maxL ret R n0 Q h k n q Ls st) : Go l Z mn code maxL ret R n0 Q h k n pc Ls (.ref a :: st) := by
  subst hq
  intro p e s m args below meth c T locs k' n' C X hk hn N eT
  obtain ⟨T', X', e', f⟩ := initO X C.1 C.2.1 C.2.2.2.2.1 w1 w2 w3 eT (g := mkF m pc Ls (.ref a :: st)) rfl (by rw [C.2.2.2.1]; exact hsz) rfl (hb C.2.2.1 hd) hf (W := wd) (by simp [hW]) hl
  exact (K p e s m args below meth c T' locs k' n' C X' hk hn N e').step f

end Laws
theorem cmpL_eq (x y : Int64) : XT.cmpL x y = 0 ↔ x = y := by
  unfold XT.cmpL
  by_cases h1 : y < x
  · rw [if_pos h1]; constructor
    · intro e; exact absurd e (by decide)
    · rintro rfl; exact absurd h1 Int64.lt_irrefl
  · rw [if_neg h1]
    by_cases h2 : x = y
    · simp [h2]
    · rw [if_neg h2]; constructor
      · intro e; exact absurd e (by decide)
      · intro e; exact absurd e h2
theorem cmpL_lt (x y : Int64) : XT.cmpL x y < 0 ↔ x < y := by
  unfold XT.cmpL
  by_cases h1 : y < x
  · rw [if_pos h1]; constructor
    · intro e; exact absurd e (by decide)
    · intro e; rw [Int64.lt_iff_toInt_lt] at e h1; omega
  · rw [if_neg h1]
    by_cases h2 : x = y
    · rw [if_pos h2]; constructor
      · intro e; exact absurd e (by decide)
      · intro e; rw [h2] at e; exact absurd e Int64.lt_irrefl
    · rw [if_neg h2]; constructor
      · intro _; rw [Int64.lt_iff_toInt_lt] at h1 ⊢; rw [← Int64.toInt_inj] at h2; omega
      · intro _; decide
theorem cmpL_gt (x y : Int64) : 0 < XT.cmpL x y ↔ y < x := by
  unfold XT.cmpL
  by_cases h1 : y < x
  · rw [if_pos h1]; constructor
    · intro _; exact h1
    · intro _; decide
  · rw [if_neg h1]
    by_cases h2 : x = y
    · rw [if_pos h2]; constructor
      · intro e; exact absurd e (by decide)
      · intro e; exact absurd e h1
    · rw [if_neg h2]; constructor
      · intro e; exact absurd e (by decide)
      · intro e; exact absurd e h1
section Laws2
variable {l : Launch} {Z : State} {mn : MethodName} {code : ByteArray} {maxL : Nat} {ret : Option FieldType} {R : Room} {n0 : Nat} {Q : Option Value → Heap → Prop} {h : Heap} {k n pc q : Nat} {Ls Ls' : Array Slot} {st st' : List Value} {a0 : Array Value}
theorem Go.lif_eq {x y' : Int64} {o : Int} {q' : Nat} (hd : decode code pc = .ok (.ifCond .eq o, 3)) (ho : 0 ≤ (pc : Int) + o) (hq : ((pc : Int) + o).toNat = q) (hq' : q' = pc + 3) (K1 : x = y' → Go l Z mn code maxL ret R n0 Q h k n q Ls st) (K2 : ¬ x = y' → Go l Z mn code maxL ret R n0 Q h k n q' Ls st) : Go l Z mn code maxL ret R n0 Q h k n pc Ls (.int (XT.cmpL x y') :: st) :=
  Go.if_eq hd ho hq hq' (fun c => K1 ((cmpL_eq _ _).mp c)) (fun c => K2 fun e => c ((cmpL_eq _ _).mpr e))
theorem Go.lif_ne {x y' : Int64} {o : Int} {q' : Nat} (hd : decode code pc = .ok (.ifCond .ne o, 3)) (ho : 0 ≤ (pc : Int) + o) (hq : ((pc : Int) + o).toNat = q) (hq' : q' = pc + 3) (K1 : ¬ x = y' → Go l Z mn code maxL ret R n0 Q h k n q Ls st) (K2 : x = y' → Go l Z mn code maxL ret R n0 Q h k n q' Ls st) : Go l Z mn code maxL ret R n0 Q h k n pc Ls (.int (XT.cmpL x y') :: st) :=
  Go.if_ne hd ho hq hq' (fun c => K1 fun e => c ((cmpL_eq _ _).mpr e)) (fun c => K2 ((cmpL_eq _ _).mp c))
theorem Go.lif_lt {x y' : Int64} {o : Int} {q' : Nat} (hd : decode code pc = .ok (.ifCond .lt o, 3)) (ho : 0 ≤ (pc : Int) + o) (hq : ((pc : Int) + o).toNat = q) (hq' : q' = pc + 3) (K1 : x < y' → Go l Z mn code maxL ret R n0 Q h k n q Ls st) (K2 : ¬ x < y' → Go l Z mn code maxL ret R n0 Q h k n q' Ls st) : Go l Z mn code maxL ret R n0 Q h k n pc Ls (.int (XT.cmpL x y') :: st) :=
  Go.if_lt hd ho hq hq' (fun c => K1 ((cmpL_lt _ _).mp c)) (fun c => K2 fun e => c ((cmpL_lt _ _).mpr e))
theorem Go.lif_ge {x y' : Int64} {o : Int} {q' : Nat} (hd : decode code pc = .ok (.ifCond .ge o, 3)) (ho : 0 ≤ (pc : Int) + o) (hq : ((pc : Int) + o).toNat = q) (hq' : q' = pc + 3) (K1 : ¬ x < y' → Go l Z mn code maxL ret R n0 Q h k n q Ls st) (K2 : x < y' → Go l Z mn code maxL ret R n0 Q h k n q' Ls st) : Go l Z mn code maxL ret R n0 Q h k n pc Ls (.int (XT.cmpL x y') :: st) :=
  Go.if_ge hd ho hq hq' (fun c => K1 fun e => c ((cmpL_lt _ _).mpr e)) (fun c => K2 ((cmpL_lt _ _).mp c))
theorem Go.lif_gt {x y' : Int64} {o : Int} {q' : Nat} (hd : decode code pc = .ok (.ifCond .gt o, 3)) (ho : 0 ≤ (pc : Int) + o) (hq : ((pc : Int) + o).toNat = q) (hq' : q' = pc + 3) (K1 : y' < x → Go l Z mn code maxL ret R n0 Q h k n q Ls st) (K2 : ¬ y' < x → Go l Z mn code maxL ret R n0 Q h k n q' Ls st) : Go l Z mn code maxL ret R n0 Q h k n pc Ls (.int (XT.cmpL x y') :: st) :=
  Go.if_gt hd ho hq hq' (fun c => K1 ((cmpL_gt _ _).mp c)) (fun c => K2 fun e => c ((cmpL_gt _ _).mpr e))
theorem Go.lif_le {x y' : Int64} {o : Int} {q' : Nat} (hd : decode code pc = .ok (.ifCond .le o, 3)) (ho : 0 ≤ (pc : Int) + o) (hq : ((pc : Int) + o).toNat = q) (hq' : q' = pc + 3) (K1 : ¬ y' < x → Go l Z mn code maxL ret R n0 Q h k n q Ls st) (K2 : y' < x → Go l Z mn code maxL ret R n0 Q h k n q' Ls st) : Go l Z mn code maxL ret R n0 Q h k n pc Ls (.int (XT.cmpL x y') :: st) :=
  Go.if_le hd ho hq hq' (fun c => K1 fun e => c ((cmpL_gt _ _).mpr e)) (fun c => K2 ((cmpL_gt _ _).mp c))
end Laws2
end Jvm.OwnKit

namespace Jvm.OwnKit
open Jvm Jvm.ClassFile Sem Op Lib Jvm.Free Jvm.Stand Jvm.LawKit Jvm.RoadKit
section Calls
variable {l : Launch} {Z : State} {mn : MethodName} {code : ByteArray} {maxL : Nat} {ret : Option FieldType} {R : Room} {n0 : Nat} {Q : Option Value → Heap → Prop} {h : Heap} {k n pc q : Nat} {Ls Ls' : Array Slot} {st st' : List Value} {a0 : Array Value}
  {y' : MethodName} {code' : ByteArray} {maxL' : Nat} {ret' : Option FieldType} {R' : Room} {Q' : Option Value → Heap → Prop} {argsL rest : List Value} {Ls1 : Array Slot} {ps : List FieldType} {r : Option FieldType} {i wd : Nat}
theorem Go.callS (hd : decode code pc = .ok (.invokestatic i, 3)) (hq : q = pc + 3) (w1 : (Jvm.Cond.methodLink mn.cls i y').before a0 Z = true) (w2 : (Jvm.Cond.static y').before a0 Z = true) (w3 : (Jvm.Cond.initialized y'.cls).before a0 Z = true) (w4 : (Jvm.Cond.code y' code' maxL' ret').before a0 Z = true)
    (hy : y'.cls ≠ "java/lang/invoke/MethodHandle" ∧ y'.cls ≠ "java/lang/invoke/VarHandle") (pn : plainFor y' = true) (pd : parseMethodDescriptor y'.desc = some ⟨ps, r⟩) (hl : argsL.length = ps.length) (hst : st = argsL.reverse ++ rest) (hef : ∀ m, entryFrame m argsL.toArray maxL' = mkF m 0 Ls1 []) (hsz : Ls.size = maxL)
    (hR1 : R'.frames + 1 ≤ R.frames) (hW : (rest.map fun v => v.category).sum = wd) (hR2 : wd + (maxL' + 11) + R'.locals ≤ R.locals) (hc : k + R'.cells ≤ R.cells) (hs : n + R'.slots ≤ R.slots)
    (G : Go l Z y' code' maxL' ret' R' n0 Q' h 0 0 0 Ls1 []) (K : ∀ v h', Q' v h' → Go l Z mn code maxL ret R n0 Q h' (k + R'.cells) (n + R'.slots) q Ls (v.toList ++ rest)) : Go l Z mn code maxL ret R n0 Q h k n pc Ls st := by
  subst hq hst hW
  intro p e s m args below meth c T locs k' n' C X hk hn N eT
  obtain ⟨v, vm1, ⟨T1, L1, k1, n1⟩, -, X1, ⟨Lc, hQ, e1, e2, e3⟩, f⟩ := Jvm.LawKit.callS X C.1 (y := y') C.2.2.2.2.1 (mvT C.2.1 w1) (mvT C.2.1 w2) (mvT C.2.1 w3) (mvT C.2.1 w4) hy (backOf (W := (rest.map fun v => v.category).sum) (Q := fun v h L => Fr n0 L ∧ Q' v h) (G.met pn hef []) C.2.1 w4 w3 hR1 hR2) (g := mkF m pc Ls (argsL.reverse ++ rest)) rfl (by rw [C.2.2.2.1]; exact hsz) (argsL := argsL) (rest := rest) (lenOf pd hl) rfl (by simp) (hb C.2.2.1 hd) (fun _ _ => ⟨rfl, eT, by show k' + _ ≤ _; omega, by show n' + _ ≤ _; omega⟩)
  dsimp only [Pt.U, Pt.locs, Pt.cells, Pt.slots] at X1 e1 e2 e3 f hQ
  subst e1 e2 e3
  exact (K v T1.heap hQ.2 p e s m args below meth c T1 _ _ _ C X1 (by omega) (by omega) (Fr.app N hQ.1) rfl).step f
theorem Go.callV {C : String} {a : Addr} (hd : decode code pc = .ok (.invokevirtual i, 3)) (hq : q = pc + 3) (w1 : (Jvm.Cond.methodLink mn.cls i y').before a0 Z = true) (w2 : (Jvm.Cond.declares y').before a0 Z = true) (w3 : (Jvm.Cond.selects C y' y').before a0 Z = true) (w4 : (Jvm.Cond.instanceMethod y').before a0 Z = true) (w5 : (Jvm.Cond.code y' code' maxL' ret').before a0 Z = true) (w6 : (Jvm.Cond.initialized y'.cls).before a0 Z = true)
    (hy : y'.cls ≠ "java/lang/invoke/MethodHandle" ∧ y'.cls ≠ "java/lang/invoke/VarHandle") (pn : plainFor y' = true) (pd : parseMethodDescriptor y'.desc = some ⟨ps, r⟩) (hl : argsL.length = ps.length) (hst : st = argsL.reverse ++ .ref a :: rest) (E : Exa Z h a C) (hef : ∀ m, entryFrame m (.ref a :: argsL).toArray maxL' = mkF m 0 Ls1 []) (hsz : Ls.size = maxL)
    (hR1 : R'.frames + 1 ≤ R.frames) (hW : (rest.map fun v => v.category).sum = wd) (hR2 : wd + (maxL' + 11) + R'.locals ≤ R.locals) (hc : k + R'.cells ≤ R.cells) (hs : n + R'.slots ≤ R.slots)
    (G : Go l Z y' code' maxL' ret' R' n0 Q' h 0 0 0 Ls1 []) (K : ∀ v h', Q' v h' → Go l Z mn code maxL ret R n0 Q h' (k + R'.cells) (n + R'.slots) q Ls (v.toList ++ rest)) : Go l Z mn code maxL ret R n0 Q h k n pc Ls st := by
  subst hq hst hW
  intro p e s m args below meth c T locs k' n' Cc X hk hn N eT
  obtain ⟨cq, kq, qa, qb, qc⟩ := isOf Cc.2.1 eT E
  obtain ⟨v, vm1, ⟨T1, L1, k1, n1⟩, -, X1, ⟨Lc, hQ, e1, e2, e3⟩, f⟩ := X.virtualBack Cc.1 (y := y') (z := y') Cc.2.2.2.2.1 (mvT Cc.2.1 w1) (mvT Cc.2.1 w2) (notFace_of_selects (args := #[]) (mvT Cc.2.1 w3)) (mvT Cc.2.1 w3) (mvT Cc.2.1 w4) hy (backOf (W := (rest.map fun v => v.category).sum) (Q := fun v h L => Fr n0 L ∧ Q' v h) (G.met pn hef []) Cc.2.1 w5 w6 hR1 hR2) qa qc (g := mkF m pc Ls (argsL.reverse ++ .ref a :: rest)) rfl (by rw [Cc.2.2.2.1]; exact hsz) (Steps.refl _) (argsL := argsL) (rest := rest) (lenOf pd hl) rfl (by simp) (hb Cc.2.2.1 hd) (fun _ _ => ⟨rfl, eT, by show k' + _ ≤ _; omega, by show n' + _ ≤ _; omega⟩)
  dsimp only [Pt.U, Pt.locs, Pt.cells, Pt.slots] at X1 e1 e2 e3 f hQ
  subst e1 e2 e3
  exact (K v T1.heap hQ.2 p e s m args below meth c T1 _ _ _ Cc X1 (by omega) (by omega) (Fr.app N hQ.1) rfl).step fun t r => f.trans r
theorem Go.callI {a : Addr} (hd : decode code pc = .ok (.invokespecial i, 3)) (hq : q = pc + 3) (hn1 : y'.name = "<init>") (w1 : (Jvm.Cond.methodLink mn.cls i y').before a0 Z = true) (w2 : (Jvm.Cond.instanceMethod y').before a0 Z = true) (w3 : (Jvm.Cond.initialized y'.cls).before a0 Z = true) (w4 : (Jvm.Cond.code y' code' maxL' none).before a0 Z = true)
    (hy : y'.cls ≠ "java/lang/invoke/MethodHandle" ∧ y'.cls ≠ "java/lang/invoke/VarHandle") (pn : plainFor y' = true) (pd : parseMethodDescriptor y'.desc = some ⟨ps, r⟩) (hl : argsL.length = ps.length) (hst : st = argsL.reverse ++ .ref a :: rest) (hef : ∀ m, entryFrame m (.ref a :: argsL).toArray maxL' = mkF m 0 Ls1 []) (hsz : Ls.size = maxL)
    (hR1 : R'.frames + 1 ≤ R.frames) (hW : (rest.map fun v => v.category).sum = wd) (hR2 : wd + (maxL' + 11) + R'.locals ≤ R.locals) (hc : k + R'.cells ≤ R.cells) (hs : n + R'.slots ≤ R.slots)
    (G : Go l Z y' code' maxL' none R' n0 Q' h 0 0 0 Ls1 []) (K : ∀ v h', Q' v h' → Go l Z mn code maxL ret R n0 Q h' (k + R'.cells) (n + R'.slots) q Ls (v.toList ++ rest)) : Go l Z mn code maxL ret R n0 Q h k n pc Ls st := by
  subst hq hst hW
  intro p e s m args below meth c T locs k' n' Cc X hk hn N eT
  obtain ⟨v, vm1, ⟨T1, L1, k1, n1⟩, -, X1, ⟨Lc, hQ, e1, e2, e3⟩, f⟩ := X.specialBack Cc.1 (y := y') hn1 Cc.2.2.2.2.1 (mvT Cc.2.1 w1) (mvT Cc.2.1 w2) (mvT Cc.2.1 w4) hy (backOf (W := (rest.map fun v => v.category).sum) (Q := fun v h L => Fr n0 L ∧ Q' v h) (G.met pn hef []) Cc.2.1 w4 w3 hR1 hR2) (g := mkF m pc Ls (argsL.reverse ++ .ref a :: rest)) rfl (by rw [Cc.2.2.2.1]; exact hsz) (Steps.refl _) (a := a) (argsL := argsL) (rest := rest) (lenOf pd hl) rfl (by simp) (hb Cc.2.2.1 hd) (fun _ _ => ⟨rfl, eT, by show k' + _ ≤ _; omega, by show n' + _ ≤ _; omega⟩)
  dsimp only [Pt.U, Pt.locs, Pt.cells, Pt.slots] at X1 e1 e2 e3 f hQ
  subst e1 e2 e3
  exact (K v T1.heap hQ.2 p e s m args below meth c T1 _ _ _ Cc X1 (by omega) (by omega) (Fr.app N hQ.1) rfl).step fun t r => f.trans r
theorem Go.callSV {P : Value → Heap → Prop} (hd : decode code pc = .ok (.invokestatic i, 3)) (hq : q = pc + 3) (w1 : (Jvm.Cond.methodLink mn.cls i y').before a0 Z = true) (w2 : (Jvm.Cond.static y').before a0 Z = true) (w3 : (Jvm.Cond.initialized y'.cls).before a0 Z = true) (w4 : (Jvm.Cond.code y' code' maxL' ret').before a0 Z = true)
    (hy : y'.cls ≠ "java/lang/invoke/MethodHandle" ∧ y'.cls ≠ "java/lang/invoke/VarHandle") (pn : plainFor y' = true) (pd : parseMethodDescriptor y'.desc = some ⟨ps, r⟩) (hl : argsL.length = ps.length) (hst : st = argsL.reverse ++ rest) (hef : ∀ m, entryFrame m argsL.toArray maxL' = mkF m 0 Ls1 []) (hsz : Ls.size = maxL)
    (hR1 : R'.frames + 1 ≤ R.frames) (hW : (rest.map fun v => v.category).sum = wd) (hR2 : wd + (maxL' + 11) + R'.locals ≤ R.locals) (hc : k + R'.cells ≤ R.cells) (hs : n + R'.slots ≤ R.slots)
    (G : Go l Z y' code' maxL' ret' R' n0 (RV P) h 0 0 0 Ls1 []) (K : ∀ w h', P w h' → Go l Z mn code maxL ret R n0 Q h' (k + R'.cells) (n + R'.slots) q Ls (w :: rest)) : Go l Z mn code maxL ret R n0 Q h k n pc Ls st :=
  Go.callS hd hq w1 w2 w3 w4 hy pn pd hl hst hef hsz hR1 hW hR2 hc hs G fun v h' ⟨w, e, q⟩ => by subst e; exact K w h' q
theorem Go.callSN {P : Heap → Prop} (hd : decode code pc = .ok (.invokestatic i, 3)) (hq : q = pc + 3) (w1 : (Jvm.Cond.methodLink mn.cls i y').before a0 Z = true) (w2 : (Jvm.Cond.static y').before a0 Z = true) (w3 : (Jvm.Cond.initialized y'.cls).before a0 Z = true) (w4 : (Jvm.Cond.code y' code' maxL' ret').before a0 Z = true)
    (hy : y'.cls ≠ "java/lang/invoke/MethodHandle" ∧ y'.cls ≠ "java/lang/invoke/VarHandle") (pn : plainFor y' = true) (pd : parseMethodDescriptor y'.desc = some ⟨ps, r⟩) (hl : argsL.length = ps.length) (hst : st = argsL.reverse ++ rest) (hef : ∀ m, entryFrame m argsL.toArray maxL' = mkF m 0 Ls1 []) (hsz : Ls.size = maxL)
    (hR1 : R'.frames + 1 ≤ R.frames) (hW : (rest.map fun v => v.category).sum = wd) (hR2 : wd + (maxL' + 11) + R'.locals ≤ R.locals) (hc : k + R'.cells ≤ R.cells) (hs : n + R'.slots ≤ R.slots)
    (G : Go l Z y' code' maxL' ret' R' n0 (RN P) h 0 0 0 Ls1 []) (K : ∀ h', P h' → Go l Z mn code maxL ret R n0 Q h' (k + R'.cells) (n + R'.slots) q Ls rest) : Go l Z mn code maxL ret R n0 Q h k n pc Ls st :=
  Go.callS hd hq w1 w2 w3 w4 hy pn pd hl hst hef hsz hR1 hW hR2 hc hs G fun v h' ⟨e, q⟩ => by subst e; exact K h' q
theorem Go.callVV {P : Value → Heap → Prop} {C : String} {a : Addr} (hd : decode code pc = .ok (.invokevirtual i, 3)) (hq : q = pc + 3) (w1 : (Jvm.Cond.methodLink mn.cls i y').before a0 Z = true) (w2 : (Jvm.Cond.declares y').before a0 Z = true) (w3 : (Jvm.Cond.selects C y' y').before a0 Z = true) (w4 : (Jvm.Cond.instanceMethod y').before a0 Z = true) (w5 : (Jvm.Cond.code y' code' maxL' ret').before a0 Z = true) (w6 : (Jvm.Cond.initialized y'.cls).before a0 Z = true)
    (hy : y'.cls ≠ "java/lang/invoke/MethodHandle" ∧ y'.cls ≠ "java/lang/invoke/VarHandle") (pn : plainFor y' = true) (pd : parseMethodDescriptor y'.desc = some ⟨ps, r⟩) (hl : argsL.length = ps.length) (hst : st = argsL.reverse ++ .ref a :: rest) (E : Exa Z h a C) (hef : ∀ m, entryFrame m (.ref a :: argsL).toArray maxL' = mkF m 0 Ls1 []) (hsz : Ls.size = maxL)
    (hR1 : R'.frames + 1 ≤ R.frames) (hW : (rest.map fun v => v.category).sum = wd) (hR2 : wd + (maxL' + 11) + R'.locals ≤ R.locals) (hc : k + R'.cells ≤ R.cells) (hs : n + R'.slots ≤ R.slots)
    (G : Go l Z y' code' maxL' ret' R' n0 (RV P) h 0 0 0 Ls1 []) (K : ∀ w h', P w h' → Go l Z mn code maxL ret R n0 Q h' (k + R'.cells) (n + R'.slots) q Ls (w :: rest)) : Go l Z mn code maxL ret R n0 Q h k n pc Ls st :=
  Go.callV hd hq w1 w2 w3 w4 w5 w6 hy pn pd hl hst E hef hsz hR1 hW hR2 hc hs G fun v h' ⟨w, e, q⟩ => by subst e; exact K w h' q
theorem Go.callVN {P : Heap → Prop} {C : String} {a : Addr} (hd : decode code pc = .ok (.invokevirtual i, 3)) (hq : q = pc + 3) (w1 : (Jvm.Cond.methodLink mn.cls i y').before a0 Z = true) (w2 : (Jvm.Cond.declares y').before a0 Z = true) (w3 : (Jvm.Cond.selects C y' y').before a0 Z = true) (w4 : (Jvm.Cond.instanceMethod y').before a0 Z = true) (w5 : (Jvm.Cond.code y' code' maxL' ret').before a0 Z = true) (w6 : (Jvm.Cond.initialized y'.cls).before a0 Z = true)
    (hy : y'.cls ≠ "java/lang/invoke/MethodHandle" ∧ y'.cls ≠ "java/lang/invoke/VarHandle") (pn : plainFor y' = true) (pd : parseMethodDescriptor y'.desc = some ⟨ps, r⟩) (hl : argsL.length = ps.length) (hst : st = argsL.reverse ++ .ref a :: rest) (E : Exa Z h a C) (hef : ∀ m, entryFrame m (.ref a :: argsL).toArray maxL' = mkF m 0 Ls1 []) (hsz : Ls.size = maxL)
    (hR1 : R'.frames + 1 ≤ R.frames) (hW : (rest.map fun v => v.category).sum = wd) (hR2 : wd + (maxL' + 11) + R'.locals ≤ R.locals) (hc : k + R'.cells ≤ R.cells) (hs : n + R'.slots ≤ R.slots)
    (G : Go l Z y' code' maxL' ret' R' n0 (RN P) h 0 0 0 Ls1 []) (K : ∀ h', P h' → Go l Z mn code maxL ret R n0 Q h' (k + R'.cells) (n + R'.slots) q Ls rest) : Go l Z mn code maxL ret R n0 Q h k n pc Ls st :=
  Go.callV hd hq w1 w2 w3 w4 w5 w6 hy pn pd hl hst E hef hsz hR1 hW hR2 hc hs G fun v h' ⟨e, q⟩ => by subst e; exact K h' q
theorem Go.callIN {P : Heap → Prop} {a : Addr} (hd : decode code pc = .ok (.invokespecial i, 3)) (hq : q = pc + 3) (hn1 : y'.name = "<init>") (w1 : (Jvm.Cond.methodLink mn.cls i y').before a0 Z = true) (w2 : (Jvm.Cond.instanceMethod y').before a0 Z = true) (w3 : (Jvm.Cond.initialized y'.cls).before a0 Z = true) (w4 : (Jvm.Cond.code y' code' maxL' none).before a0 Z = true)
    (hy : y'.cls ≠ "java/lang/invoke/MethodHandle" ∧ y'.cls ≠ "java/lang/invoke/VarHandle") (pn : plainFor y' = true) (pd : parseMethodDescriptor y'.desc = some ⟨ps, r⟩) (hl : argsL.length = ps.length) (hst : st = argsL.reverse ++ .ref a :: rest) (hef : ∀ m, entryFrame m (.ref a :: argsL).toArray maxL' = mkF m 0 Ls1 []) (hsz : Ls.size = maxL)
    (hR1 : R'.frames + 1 ≤ R.frames) (hW : (rest.map fun v => v.category).sum = wd) (hR2 : wd + (maxL' + 11) + R'.locals ≤ R.locals) (hc : k + R'.cells ≤ R.cells) (hs : n + R'.slots ≤ R.slots)
    (G : Go l Z y' code' maxL' none R' n0 (RN P) h 0 0 0 Ls1 []) (K : ∀ h', P h' → Go l Z mn code maxL ret R n0 Q h' (k + R'.cells) (n + R'.slots) q Ls rest) : Go l Z mn code maxL ret R n0 Q h k n pc Ls st :=
  Go.callI hd hq hn1 w1 w2 w3 w4 hy pn pd hl hst hef hsz hR1 hW hR2 hc hs G fun v h' ⟨e, q⟩ => by subst e; exact K h' q
end Calls
section Rets
variable {l : Launch} {Z : State} {mn : MethodName} {code : ByteArray} {maxL : Nat} {R : Room} {n0 : Nat} {Q : Option Value → Heap → Prop} {h : Heap} {k n pc q : Nat} {Ls : Array Slot} {st : List Value}
theorem Go.retOut {w : Value} {t : FieldType} {i : Instr} (hd : decode code pc = .ok (i, 1)) (hna : narrow t w = w)
    (hi : (i = .ireturn ∧ (t = .int ∨ t = .boolean ∨ t = .byte ∨ t = .char ∨ t = .short) ∧ ∃ z, w = .int z) ∨ (i = .lreturn ∧ t = .long ∧ ∃ z, w = .long z) ∨ (i = .dreturn ∧ t = .double ∧ ∃ z, w = .double z) ∨ (i = .freturn ∧ t = .float ∧ ∃ z, w = .float z) ∨ (i = .areturn ∧ t.isReference = true ∧ w.isRef = true))
    (hk : k ≤ R.cells) (hn : n ≤ R.slots) (hQ : Q (some w) h) : Go l Z mn code maxL (some t) R n0 Q h k n pc Ls (w :: st) := by
  intro p e s m args below meth c T locs k' n' C X hk' hn' N eT
  obtain ⟨fs, hr, hrun, hended, hW, hsame⟩ := X.leave (v := some w) (fun hh => by rw [C.2.2.2.2.2.1] at hh; cases hh) C.2.2.2.2.2.2.1
  exact ⟨_, _, RoadKit.retOut X C.1 C.2.2.2.2.2.1 hna hi (hb C.2.2.1 hd) hr, hrun, hended, _, locs, rfl, ⟨N, by show Q _ T.heap; rw [eT]; exact hQ⟩, ⟨_, rfl⟩, hW, hsame.mono (by omega) (by omega)⟩
theorem Go.ireturn {z : Int32} (hd : decode code pc = .ok (.ireturn, 1)) (hk : k ≤ R.cells) (hn : n ≤ R.slots) (hQ : Q (some (.int z)) h) : Go l Z mn code maxL (some .int) R n0 Q h k n pc Ls (.int z :: st) :=
  Go.retOut hd rfl (Or.inl ⟨rfl, Or.inl rfl, z, rfl⟩) hk hn hQ
theorem Go.zreturn {z : Int32} (hd : decode code pc = .ok (.ireturn, 1)) (hk : k ≤ R.cells) (hn : n ≤ R.slots) (hz : z = 0 ∨ z = 1) (hQ : Q (some (.int z)) h) : Go l Z mn code maxL (some .boolean) R n0 Q h k n pc Ls (.int z :: st) :=
  Go.retOut hd (by rcases hz with rfl | rfl <;> rfl) (Or.inl ⟨rfl, Or.inr (Or.inl rfl), z, rfl⟩) hk hn hQ
theorem Go.creturn {z : Int32} (hd : decode code pc = .ok (.ireturn, 1)) (hk : k ≤ R.cells) (hn : n ≤ R.slots) (hz : narrow .char (.int z) = .int z) (hQ : Q (some (.int z)) h) : Go l Z mn code maxL (some .char) R n0 Q h k n pc Ls (.int z :: st) :=
  Go.retOut hd hz (Or.inl ⟨rfl, Or.inr (Or.inr (Or.inr (Or.inl rfl))), z, rfl⟩) hk hn hQ
theorem Go.lreturn {z : Int64} (hd : decode code pc = .ok (.lreturn, 1)) (hk : k ≤ R.cells) (hn : n ≤ R.slots) (hQ : Q (some (.long z)) h) : Go l Z mn code maxL (some .long) R n0 Q h k n pc Ls (.long z :: st) :=
  Go.retOut hd rfl (Or.inr (Or.inl ⟨rfl, rfl, z, rfl⟩)) hk hn hQ
theorem Go.areturn {w : Value} {t : FieldType} (hd : decode code pc = .ok (.areturn, 1)) (hk : k ≤ R.cells) (hn : n ≤ R.slots) (ht : t.isReference = true) (hw : w.isRef = true) (hQ : Q (some w) h) : Go l Z mn code maxL (some t) R n0 Q h k n pc Ls (w :: st) :=
  Go.retOut hd (by rcases ref_cases hw with rfl | ⟨a, rfl⟩ <;> cases t <;> first | exact absurd ht (by decide) | rfl) (Or.inr (Or.inr (Or.inr (Or.inr ⟨rfl, ht, hw⟩)))) hk hn hQ
theorem Go.vreturn (hd : decode code pc = .ok (.return_, 1)) (hk : k ≤ R.cells) (hn : n ≤ R.slots) (hQ : Q none h) : Go l Z mn code maxL none R n0 Q h k n pc Ls [] := by
  intro p e s m args below meth c T locs k' n' C X hk' hn' N eT
  obtain ⟨fs, hr, hrun, hended, hW, hsame⟩ := X.leave (v := none) (fun _ => rfl) C.2.2.2.2.2.2.1
  exact ⟨_, _, X.returnOut C.1 C.2.2.2.2.2.1 (hb C.2.2.1 hd) hr, hrun, hended, _, locs, rfl, ⟨N, by show Q _ T.heap; rw [eT]; exact hQ⟩, ⟨_, rfl⟩, hW, hsame.mono (by omega) (by omega)⟩
end Rets
/-- an array's whole content -/
def Ar (Z : State) (h : Heap) (a : Addr) (ty : FieldType) (cA : ClassId) (vs : List Value) : Prop := ∃ c : Cell, Arr Z h a c ty ∧ c.cls = cA ∧ c.slots.toList = vs
section Arrs
variable {Z : State} {h h' : Heap} {a b : Addr} {ty : FieldType} {cA : ClassId} {vs : List Value} {sl : Nat} {v : Value} {ws : List Addr}
theorem Ar.lt (F : Ar Z h a ty cA vs) : a < h.size := by obtain ⟨c, A, -⟩ := F; exact A.lt
theorem Ar.ext (F : Ar Z h a ty cA vs) (E : Ext h h') : Ar Z h' a ty cA vs := by obtain ⟨c, A, r⟩ := F; exact ⟨c, A.ext E, r⟩
theorem Ar.other (F : Ar Z h b ty cA vs) (W : Wr h h' a sl v) (q : b ≠ a) : Ar Z h' b ty cA vs := by obtain ⟨c, A, r⟩ := F; exact ⟨c, A.other W q, r⟩
theorem Ar.keep (F : Ar Z h a ty cA vs) (K : Keep h h' ws) (q : a ∉ ws) : Ar Z h' a ty cA vs := by obtain ⟨c, A, r⟩ := F; exact ⟨c, ⟨K.2.1 a c A.1 q, A.2⟩, r⟩
theorem Ar.set (F : Ar Z h a ty cA vs) (W : Wr h h' a sl v) : Ar Z h' a ty cA (vs.set sl v) := by
  obtain ⟨c, A, r1, r2⟩ := F
  exact ⟨_, A.same W, r1, by simp [Cell.setSlot, r2]⟩
theorem Ar.size (F : Ar Z h a ty cA vs) {c : Cell} (hc : h[a]? = some c) : c.slots.size = vs.length := by
  obtain ⟨c', A, -, r⟩ := F
  cases hc.symm.trans A.1
  rw [← r]; simp
theorem Ar.ne {C : String} {k : Nat} {a0 : Array Value} (F : Exa Z h b C) (wi : (Jvm.Cond.instantiable C k).before a0 Z = true) (G : Ar Z h a ty cA vs) : b ≠ a := by
  obtain ⟨c, A, -⟩ := G; exact ne_arr F wi A
end Arrs
section ArrSteps
variable {l : Launch} {Z : State} {mn : MethodName} {code : ByteArray} {maxL : Nat} {ret : Option FieldType} {R : Room} {n0 : Nat} {Q : Option Value → Heap → Prop} {h : Heap} {k n pc q : Nat} {Ls : Array Slot} {st : List Value} {a0 : Array Value} {a : Addr} {ty : FieldType} {cA : ClassId} {vs : List Value} {v : Value} {j x : Int32}
theorem inb {c : Cell} (hj : ¬ j < 0) (r : c.slots.toList = vs) (hv : j.toNatClampNeg < vs.length) : ¬ (j < 0 ∨ c.slots.size ≤ j.toNatClampNeg) := by
  rintro (q | q)
  · exact hj q
  · rw [← r] at hv; simp at hv; omega
theorem at_l {c : Cell} {i : Nat} (r : c.slots.toList = vs) (hv : vs[i]? = some v) : c.slots[i]? = some v := by rw [← r] at hv; simpa using hv
theorem Go.arraylength (hd : decode code pc = .ok (.arraylength, 1)) (hq : q = pc + 1) (A : Ar Z h a ty cA vs) {z : Int32} (hz : vs.length.toInt32 = z) (K : Go l Z mn code maxL ret R n0 Q h k n q Ls (.int z :: st)) : Go l Z mn code maxL ret R n0 Q h k n pc Ls (.ref a :: st) := by
  subst hq hz
  intro p e s m args below meth c T locs k' n' C X hk hn N eT
  obtain ⟨cl, A, r1, r2⟩ := A
  exact (K p e s m args below meth c T locs k' n' C X hk hn N eT).step fun t r => X.arraylength (g := mkF m pc Ls (.ref a :: st)) C.1 (by rw [eT]; exact A.1) (State.isArrayOf_alike C.2.1.alike A.2.1) rfl rfl (hb C.2.2.1 hd) t (by rw [show cl.slots.size = vs.length by rw [← r2]; simp]; exact r)
theorem Go.iaload (hd : decode code pc = .ok (.iaload, 1)) (hq : q = pc + 1) (A : Ar Z h a .int cA vs) (hj : ¬ j < 0) (hv : vs[j.toNatClampNeg]? = some v) (K : Go l Z mn code maxL ret R n0 Q h k n q Ls (v :: st)) : Go l Z mn code maxL ret R n0 Q h k n pc Ls (.int j :: .ref a :: st) := by
  subst hq
  intro p e s m args below meth c T locs k' n' C X hk hn N eT
  obtain ⟨cl, A, r1, r2⟩ := A
  exact (K p e s m args below meth c T locs k' n' C X hk hn N eT).step fun t r => X.iaload (g := mkF m pc Ls (.int j :: .ref a :: st)) C.1 (by rw [eT]; exact A.1) (State.isArrayOf_alike C.2.1.alike A.2.1) A.2.2 (inb hj r2 (List.getElem?_eq_some_iff.mp hv).1) (at_l r2 hv) rfl rfl (hb C.2.2.1 hd) t r
theorem Go.laload (hd : decode code pc = .ok (.laload, 1)) (hq : q = pc + 1) (A : Ar Z h a .long cA vs) (hj : ¬ j < 0) (hv : vs[j.toNatClampNeg]? = some v) (K : Go l Z mn code maxL ret R n0 Q h k n q Ls (v :: st)) : Go l Z mn code maxL ret R n0 Q h k n pc Ls (.int j :: .ref a :: st) := by
  subst hq
  intro p e s m args below meth c T locs k' n' C X hk hn N eT
  obtain ⟨cl, A, r1, r2⟩ := A
  exact (K p e s m args below meth c T locs k' n' C X hk hn N eT).step fun t r => X.laload (g := mkF m pc Ls (.int j :: .ref a :: st)) C.1 (by rw [eT]; exact A.1) (State.isArrayOf_alike C.2.1.alike A.2.1) A.2.2 (inb hj r2 (List.getElem?_eq_some_iff.mp hv).1) (at_l r2 hv) rfl rfl (hb C.2.2.1 hd) t r
theorem Go.caload (hd : decode code pc = .ok (.caload, 1)) (hq : q = pc + 1) (A : Ar Z h a .char cA vs) (hj : ¬ j < 0) (hv : vs[j.toNatClampNeg]? = some v) (K : Go l Z mn code maxL ret R n0 Q h k n q Ls (v :: st)) : Go l Z mn code maxL ret R n0 Q h k n pc Ls (.int j :: .ref a :: st) := by
  subst hq
  intro p e s m args below meth c T locs k' n' C X hk hn N eT
  obtain ⟨cl, A, r1, r2⟩ := A
  exact (K p e s m args below meth c T locs k' n' C X hk hn N eT).step fun t r => X.caload (g := mkF m pc Ls (.int j :: .ref a :: st)) C.1 (by rw [eT]; exact A.1) (State.isArrayOf_alike C.2.1.alike A.2.1) A.2.2 (inb hj r2 (List.getElem?_eq_some_iff.mp hv).1) (at_l r2 hv) rfl rfl (hb C.2.2.1 hd) t r
theorem Go.zaload (hd : decode code pc = .ok (.baload, 1)) (hq : q = pc + 1) (A : Ar Z h a .boolean cA vs) (hj : ¬ j < 0) (hv : vs[j.toNatClampNeg]? = some v) (K : Go l Z mn code maxL ret R n0 Q h k n q Ls (v :: st)) : Go l Z mn code maxL ret R n0 Q h k n pc Ls (.int j :: .ref a :: st) := by
  subst hq
  intro p e s m args below meth c T locs k' n' C X hk hn N eT
  obtain ⟨cl, A, r1, r2⟩ := A
  exact (K p e s m args below meth c T locs k' n' C X hk hn N eT).step fun t r => X.baloadBooleans (g := mkF m pc Ls (.int j :: .ref a :: st)) C.1 (by rw [eT]; exact A.1) (State.isArrayOf_alike C.2.1.alike A.2.1) A.2.2 (inb hj r2 (List.getElem?_eq_some_iff.mp hv).1) (at_l r2 hv) rfl rfl (hb C.2.2.1 hd) t r
theorem Go.baload (hd : decode code pc = .ok (.baload, 1)) (hq : q = pc + 1) (A : Ar Z h a .byte cA vs) (hj : ¬ j < 0) (hv : vs[j.toNatClampNeg]? = some v) (K : Go l Z mn code maxL ret R n0 Q h k n q Ls (v :: st)) : Go l Z mn code maxL ret R n0 Q h k n pc Ls (.int j :: .ref a :: st) := by
  subst hq
  intro p e s m args below meth c T locs k' n' C X hk hn N eT
  obtain ⟨cl, A, r1, r2⟩ := A
  exact (K p e s m args below meth c T locs k' n' C X hk hn N eT).step fun t r => X.baloadBytes (g := mkF m pc Ls (.int j :: .ref a :: st)) C.1 (by rw [eT]; exact A.1) (State.isArrayOf_alike C.2.1.alike A.2.1) A.2.2 (inb hj r2 (List.getElem?_eq_some_iff.mp hv).1) (at_l r2 hv) rfl rfl (hb C.2.2.1 hd) t r
theorem Go.aaload (hd : decode code pc = .ok (.aaload, 1)) (hq : q = pc + 1) (A : Ar Z h a ty cA vs) (ht : ty.isReference = true) (hj : ¬ j < 0) (hv : vs[j.toNatClampNeg]? = some v) (K : Go l Z mn code maxL ret R n0 Q h k n q Ls (v :: st)) : Go l Z mn code maxL ret R n0 Q h k n pc Ls (.int j :: .ref a :: st) := by
  subst hq
  intro p e s m args below meth c T locs k' n' C X hk hn N eT
  obtain ⟨cl, A, r1, r2⟩ := A
  exact (K p e s m args below meth c T locs k' n' C X hk hn N eT).step fun t r => X.aaload (g := mkF m pc Ls (.int j :: .ref a :: st)) C.1 (by rw [eT]; exact A.1) (State.isArrayOf_alike C.2.1.alike A.2.1) ht A.2.2 (inb hj r2 (List.getElem?_eq_some_iff.mp hv).1) (at_l r2 hv) rfl rfl (hb C.2.2.1 hd) t r
theorem Go.iastore (hd : decode code pc = .ok (.iastore, 1)) (hq : q = pc + 1) (A : Ar Z h a .int cA vs) (hj : ¬ j < 0) (hv : j.toNatClampNeg < vs.length) (ha : n0 ≤ a) (K : ∀ h', Wr h h' a j.toNatClampNeg (.int x) → Go l Z mn code maxL ret R n0 Q h' k n q Ls st) : Go l Z mn code maxL ret R n0 Q h k n pc Ls (.int x :: .int j :: .ref a :: st) := by
  subst hq
  intro p e s m args below meth c T locs k' n' C X hk hn N eT
  obtain ⟨cl, A, r1, r2⟩ := A
  obtain ⟨T', h', X', e', W, f⟩ := stI X C.1 C.2.1 eT A (inb hj r2 hv) (g := mkF m pc Ls (.int x :: .int j :: .ref a :: st)) rfl rfl (hb C.2.2.1 hd)
  exact (K h' W p e s m args below meth c T' _ k' n' C X' hk hn (Fr.snoc X' N ha) e').step f
theorem Go.lastore {x : Int64} (hd : decode code pc = .ok (.lastore, 1)) (hq : q = pc + 1) (A : Ar Z h a .long cA vs) (hj : ¬ j < 0) (hv : j.toNatClampNeg < vs.length) (ha : n0 ≤ a) (K : ∀ h', Wr h h' a j.toNatClampNeg (.long x) → Go l Z mn code maxL ret R n0 Q h' k n q Ls st) : Go l Z mn code maxL ret R n0 Q h k n pc Ls (.long x :: .int j :: .ref a :: st) := by
  subst hq
  intro p e s m args below meth c T locs k' n' C X hk hn N eT
  obtain ⟨cl, A, r1, r2⟩ := A
  obtain ⟨T', h', X', e', W, f⟩ := stJ X C.1 C.2.1 eT A (inb hj r2 hv) (g := mkF m pc Ls (.long x :: .int j :: .ref a :: st)) rfl rfl (hb C.2.2.1 hd)
  exact (K h' W p e s m args below meth c T' _ k' n' C X' hk hn (Fr.snoc X' N ha) e').step f
theorem Go.castore (hd : decode code pc = .ok (.castore, 1)) (hq : q = pc + 1) (A : Ar Z h a .char cA vs) (hj : ¬ j < 0) (hv : j.toNatClampNeg < vs.length) (ha : n0 ≤ a) (K : ∀ h', Wr h h' a j.toNatClampNeg (.int (nar .char x)) → Go l Z mn code maxL ret R n0 Q h' k n q Ls st) : Go l Z mn code maxL ret R n0 Q h k n pc Ls (.int x :: .int j :: .ref a :: st) := by
  subst hq
  intro p e s m args below meth c T locs k' n' C X hk hn N eT
  obtain ⟨cl, A, r1, r2⟩ := A
  obtain ⟨T', h', X', e', W, f⟩ := stC X C.1 C.2.1 eT A (inb hj r2 hv) (g := mkF m pc Ls (.int x :: .int j :: .ref a :: st)) rfl rfl (hb C.2.2.1 hd)
  exact (K h' W p e s m args below meth c T' _ k' n' C X' hk hn (Fr.snoc X' N ha) e').step f
theorem Go.zastore (hd : decode code pc = .ok (.bastore, 1)) (hq : q = pc + 1) (A : Ar Z h a .boolean cA vs) (hj : ¬ j < 0) (hv : j.toNatClampNeg < vs.length) (ha : n0 ≤ a) (K : ∀ h', Wr h h' a j.toNatClampNeg (.int (nar .boolean x)) → Go l Z mn code maxL ret R n0 Q h' k n q Ls st) : Go l Z mn code maxL ret R n0 Q h k n pc Ls (.int x :: .int j :: .ref a :: st) := by
  subst hq
  intro p e s m args below meth c T locs k' n' C X hk hn N eT
  obtain ⟨cl, A, r1, r2⟩ := A
  obtain ⟨T', h', X', e', W, f⟩ := stZ X C.1 C.2.1 eT A (inb hj r2 hv) (g := mkF m pc Ls (.int x :: .int j :: .ref a :: st)) rfl rfl (hb C.2.2.1 hd)
  exact (K h' W p e s m args below meth c T' _ k' n' C X' hk hn (Fr.snoc X' N ha) e').step f
theorem Go.aastore (hd : decode code pc = .ok (.aastore, 1)) (hq : q = pc + 1) (A : Ar Z h a ty cA vs) (ht : ty.isReference = true) (hj : ¬ j < 0) (hv : j.toNatClampNeg < vs.length) (S : Sto Z h a v) (ha : n0 ≤ a) (K : ∀ h', Wr h h' a j.toNatClampNeg v → Go l Z mn code maxL ret R n0 Q h' k n q Ls st) : Go l Z mn code maxL ret R n0 Q h k n pc Ls (v :: .int j :: .ref a :: st) := by
  subst hq
  intro p e s m args below meth c T locs k' n' C X hk hn N eT
  obtain ⟨cl, A, r1, r2⟩ := A
  obtain ⟨T', h', X', e', W, f⟩ := stR X C.1 C.2.1 eT A (inb hj r2 hv) ht S (g := mkF m pc Ls (v :: .int j :: .ref a :: st)) rfl rfl (hb C.2.2.1 hd)
  exact (K h' W p e s m args below meth c T' _ k' n' C X' hk hn (Fr.snoc X' N ha) e').step f
theorem Go.newarray {aty : ArrayType} {z : Int32} {cap : Nat} (hd : decode code pc = .ok (.newarray aty, 2)) (hq : q = pc + 2) (w : (Jvm.Cond.arrayClass (newarray.typeOf aty)).before a0 Z = true) (hz : ¬ z < 0) (hcap : z.toNatClampNeg ≤ cap) (hb8 : cap * 8 ≤ 536870912) (hc : k + 1 ≤ R.cells) (hs : n + cap ≤ R.slots)
    (K : ∀ h' a cA, a = h.size → Ext h h' → Ar Z h' a (newarray.typeOf aty) cA (List.replicate z.toNatClampNeg (defaultValue (newarray.typeOf aty))) → Go l Z mn code maxL ret R n0 Q h' (k + 1) (n + cap) q Ls (.ref a :: st)) : Go l Z mn code maxL ret R n0 Q h k n pc Ls (.int z :: st) := by
  subst hq
  intro p e s m args below meth c T locs k' n' C X hk hn N eT
  obtain ⟨T', h', cA, X', e', E, A, f⟩ := newP X C.1 C.2.1 w eT (g := mkF m pc Ls (.int z :: st)) rfl (hb C.2.2.1 hd) rfl hz hcap hb8 (by omega) (by omega)
  exact (K h' h.size cA rfl E ⟨_, A, rfl, by simp [newA]⟩ p e s m args below meth c T' locs _ _ C X' (by omega) (by omega) N e').step f
theorem Go.anewarray {C : String} {i : Nat} {z : Int32} {cap : Nat} (hd : decode code pc = .ok (.anewarray i, 3)) (hq : q = pc + 3) (w1 : (Jvm.Cond.classLink mn.cls i C).before a0 Z = true) (w2 : (Jvm.Cond.arrayOver (.object C)).before a0 Z = true) (hz : ¬ z < 0) (hcap : z.toNatClampNeg ≤ cap) (hb8 : cap * 8 ≤ 536870912) (hc : k + 1 ≤ R.cells) (hs : n + cap ≤ R.slots)
    (K : ∀ h' a cA, a = h.size → Ext h h' → Ar Z h' a (.object C) cA (List.replicate z.toNatClampNeg .null) → Ovr Z cA C → Go l Z mn code maxL ret R n0 Q h' (k + 1) (n + cap) q Ls (.ref a :: st)) : Go l Z mn code maxL ret R n0 Q h k n pc Ls (.int z :: st) := by
  subst hq
  intro p e s m args below meth c T locs k' n' Cc X hk hn N eT
  obtain ⟨T', h', cA, X', e', E, A, O, f⟩ := newR X Cc.1 Cc.2.1 Cc.2.2.2.2.1 w1 w2 eT (g := mkF m pc Ls (.int z :: st)) rfl (hb Cc.2.2.1 hd) rfl hz hcap hb8 (by omega) (by omega)
  exact (K h' h.size cA rfl E ⟨_, A, rfl, by simp [newA, defaultValue]⟩ O p e s m args below meth c T' locs _ _ Cc X' (by omega) (by omega) N e').step f
theorem sto_of {C : String} {b : Addr} (A : Ar Z h a ty cA vs) (O : Ovr Z cA C) (I : Ins Z h b C true) : Sto Z h a (.ref b) := by
  obtain ⟨c, A, q, -⟩ := A
  exact Sto.ofV A q O I
end ArrSteps
end Jvm.OwnKit
namespace Jvm.OwnKit
open Jvm Jvm.ClassFile Sem Op Lib Jvm.Free Jvm.Stand Jvm.LawKit Jvm.RoadKit
section Case
variable {args : Array Value} {s : State} {idx : List Nat} {t u : Term} {a b : Addr} {ty : FieldType} {cA : ClassId} {vs : List Value} {O nm d C K : String}
theorem eq_int {v : Int32} (h : (Jvm.Cond.eq t (.int v)).value args s none s idx = some true) : t.eval args s none idx s = some (.int v) := by
  cases ha : t.eval args s none idx s with
  | none => simp [Jvm.Cond.value, ha] at h
  | some x => cases x <;> simp [Jvm.Cond.value, Term.eval, ha] at h ⊢ <;> exact h
theorem eq_long {v : Int64} (h : (Jvm.Cond.eq t (.long v)).value args s none s idx = some true) : t.eval args s none idx s = some (.long v) := by
  cases ha : t.eval args s none idx s with
  | none => simp [Jvm.Cond.value, ha] at h
  | some x => cases x <;> simp [Jvm.Cond.value, Term.eval, ha] at h ⊢ <;> exact h
theorem eq_ref (h : (Jvm.Cond.eq t u).value args s none s idx = some true) (hu : u.eval args s none idx s = some (.ref b)) : t.eval args s none idx s = some (.ref b) := by
  cases ha : t.eval args s none idx s with
  | none => simp [Jvm.Cond.value, ha] at h
  | some x => cases x <;> simp [Jvm.Cond.value, ha, hu] at h ⊢ <;> exact h
theorem sta_ref (h : (Jvm.Cond.exactly (.static C nm d) K).value args s none s [] = some true) (h1 : (Jvm.Cond.initialized C).before args s = true) (h2 : (Jvm.Cond.laysStatic C nm d).before args s = true) : ∃ a, (Term.static C nm d).eval args s none [] s = some (.ref a) ∧ Sta s s.heap C nm d (.ref a) ∧ Exa s s.heap a K := by
  obtain ⟨a, ea⟩ := exa_v h
  exact ⟨a, ea, Sta.start ea (Or.inr ⟨h1, h2⟩), Exa.start ea h⟩
theorem sta_arr (h : (Jvm.Cond.arrayOf (.static C nm d) ty).value args s none s [] = some true) (h1 : (Jvm.Cond.initialized C).before args s = true) (h2 : (Jvm.Cond.laysStatic C nm d).before args s = true) : ∃ a cA vs, (Term.static C nm d).eval args s none [] s = some (.ref a) ∧ Sta s s.heap C nm d (.ref a) ∧ Ar s s.heap a ty cA vs := by
  obtain ⟨a, ea⟩ := arr_v h
  obtain ⟨c, A⟩ := Arr.start ea h
  exact ⟨a, c.cls, c.slots.toList, ea, Sta.start ea (Or.inr ⟨h1, h2⟩), c, A, rfl, rfl⟩
theorem fld_int {v : Int32} (ev : t.eval args s none [] s = some (.ref a)) (h : (Jvm.Cond.eq (.field t O nm d) (.int v)).value args s none s [] = some true) : Fld s s.heap a O nm d (.int v) := Fld.start ((fld_at ev).symm.trans (eq_int h))
theorem fld_long {v : Int64} (ev : t.eval args s none [] s = some (.ref a)) (h : (Jvm.Cond.eq (.field t O nm d) (.long v)).value args s none s [] = some true) : Fld s s.heap a O nm d (.long v) := Fld.start ((fld_at ev).symm.trans (eq_long h))
theorem nat_small {m : Nat} (h : m < 2 ^ 31) : m.toInt32.toNatClampNeg = m := by
  show m.toInt32.toInt.toNat = m
  rw [len_toInt h]; rfl
theorem Ar.at_start (A : Ar s s.heap a ty cA vs) : ∃ c : Cell, s.arrayAt? a = some c ∧ c.slots.toList = vs ∧ c.slots.size = vs.length := by
  obtain ⟨c, A, -, r⟩ := A
  exact ⟨c, A.fin (Vm.Alike.refl _), r, by rw [← r]; simp⟩
theorem arr_len {z : Int32} (ev : t.eval args s none [] s = some (.ref a)) (A : Ar s s.heap a ty cA vs) (h : (Jvm.Cond.eq (.length t) (.int z)).value args s none s [] = some true) : vs.length = z.toNatClampNeg := by
  obtain ⟨c, hc, -, r⟩ := A.at_start
  have e := eq_int h
  simp only [Term.eval, ev, hc, Option.bind_eq_bind, Option.bind_some] at e
  split at e
  · rename_i q
    have e2 : c.slots.size.toInt32 = z := by simpa using e
    rw [← e2, nat_small q, r]
  · simp at e
theorem arr_elem {j : Int32} {v : Int32} (ev : t.eval args s none [] s = some (.ref a)) (A : Ar s s.heap a ty cA vs) (h : (Jvm.Cond.eq (.elem t (.int j)) (.int v)).value args s none s [] = some true) : vs[j.toNatClampNeg]? = some (.int v) := by
  obtain ⟨c, hc, r, -⟩ := A.at_start
  have e := eq_int h
  simp only [Term.eval, ev, hc, Option.bind_eq_bind, Option.bind_some] at e
  split at e
  · simp at e
  · rw [← r]; simpa using e
theorem arr_elemR {j : Int32} {u : Term} {b : Addr} (ev : t.eval args s none [] s = some (.ref a)) (A : Ar s s.heap a ty cA vs) (h : (Jvm.Cond.eq (.elem t (.int j)) u).value args s none s [] = some true) (hu : u.eval args s none [] s = some (.ref b)) : vs[j.toNatClampNeg]? = some (.ref b) := by
  obtain ⟨c, hc, r, -⟩ := A.at_start
  have e := eq_ref h hu
  simp only [Term.eval, ev, hc, Option.bind_eq_bind, Option.bind_some] at e
  split at e
  · simp at e
  · rw [← r]; simpa using e
theorem fold_no {f : Nat → Option Bool} {x : Option Bool} (hx : x ≠ some true) : ∀ L : List Nat, L.foldl (fun acc i => match acc with | some true => f i | x => x) x = x
  | [] => rfl
  | i :: L => by
    rw [List.foldl_cons]
    rcases x with _ | _ | _
    · exact fold_no hx L
    · exact fold_no hx L
    · exact absurd rfl hx
theorem fold_all {f : Nat → Option Bool} : ∀ L : List Nat, L.foldl (fun acc i => match acc with | some true => f i | x => x) (some true) = some true → ∀ i ∈ L, f i = some true
  | [], _, i, hi => nomatch hi
  | j :: L, h, i, hi => by
    rw [List.foldl_cons] at h
    by_cases hj : f j = some true
    · have h' : L.foldl (fun acc i => match acc with | some true => f i | x => x) (f j) = some true := h
      rw [hj] at h'
      rcases List.mem_cons.mp hi with rfl | hi
      · exact hj
      · exact fold_all L h' i hi
    · have h' : L.foldl (fun acc i => match acc with | some true => f i | x => x) (f j) = some true := h
      rw [fold_no hj L] at h'
      exact absurd h' hj
theorem arr_all {c : Jvm.Cond} (ev : t.eval args s none [] s = some (.ref a)) (A : Ar s s.heap a ty cA vs) (h : (Jvm.Cond.all t c).value args s none s [] = some true) : ∀ i, i < vs.length → c.value args s none s [i] = some true := by
  obtain ⟨cl, hc, -, r⟩ := A.at_start
  intro i hi
  simp only [Jvm.Cond.value, ev, hc] at h
  exact fold_all _ h i (List.mem_range.mpr (by omega))
theorem all_elem {i : Nat} {v : Int32} (ev : t.eval args s none [i] s = some (.ref a)) (A : Ar s s.heap a ty cA vs) (hi : i < 2 ^ 31) (h : (Jvm.Cond.eq (.elem t (.index 0)) (.int v)).value args s none s [i] = some true) : vs[i]? = some (.int v) := by
  obtain ⟨c, hc, r, -⟩ := A.at_start
  have e := eq_int h
  simp only [Term.eval, ev, hc, Option.bind_eq_bind, Option.bind_some, List.getElem?_cons_zero, Option.map_some] at e
  split at e
  · simp at e
  · rw [← r]; rw [nat_small hi] at e; simpa using e
theorem all_le {i : Nat} {v : Int32} {c : Jvm.Cond} (hi : i < 2 ^ 31) (h : (Jvm.Cond.or (.le (.int v) (.index 0)) c).value args s none s [i] = some true) : v.toInt ≤ i ∨ c.value args s none s [i] = some true := by
  simp only [Jvm.Cond.value, Term.eval, List.getElem?_cons_zero, Option.map_some] at h
  by_cases q : v ≤ i.toInt32
  · left; rw [Int32.le_iff_toInt_le, len_toInt hi] at q; exact q
  · right; simpa [q] using h
theorem all_lt {i : Nat} {v : Int32} {c : Jvm.Cond} (hi : i < 2 ^ 31) (h : (Jvm.Cond.or (.lt (.index 0) (.int v)) c).value args s none s [i] = some true) : (i : Int) < v.toInt ∨ c.value args s none s [i] = some true := by
  simp only [Jvm.Cond.value, Term.eval, List.getElem?_cons_zero, Option.map_some] at h
  by_cases q : i.toInt32 < v
  · left; rw [Int32.lt_iff_toInt_lt, len_toInt hi] at q; exact q
  · right; simpa [q] using h
theorem sta_idx {C nm d : String} {idx : List Nat} {v : Value} (ev : (Term.static C nm d).eval args s none [] s = some v) : (Term.static C nm d).eval args s none idx s = some v := ev
end Case
end Jvm.OwnKit
namespace Jvm.RoadKit
open ClassFile
theorem Fld.nxt {Z : State} {h : Heap} {a0 : Array Value} {o : Addr} {h' : Heap} {C nm d nm' d' : String} {v w : Value} {t t' : FieldType} (F : Fld Z h o C nm d v) (W : Wr h h' o (slotOf Z C nm' d') w) (L : Laid Z a0 C C nm d) (L' : Laid Z a0 C C nm' d') (hn : nm ≠ nm') (ht : parseFieldDescriptor d = some t) (ht' : parseFieldDescriptor d' = some t') : Fld Z h' o C nm d v :=
  F.other W (Or.inr (slot_ne L L' hn ht ht'))
end Jvm.RoadKit
namespace Jvm.OwnKit
open Jvm Jvm.ClassFile Sem Op Lib Jvm.Free Jvm.Stand Jvm.LawKit Jvm.RoadKit
section More
variable {l : Launch} {Z : State} {mn : MethodName} {code : ByteArray} {maxL : Nat} {ret : Option FieldType} {R : Room} {n0 : Nat} {Q : Option Value → Heap → Prop} {h : Heap} {k n pc q : Nat} {Ls : Array Slot} {st : List Value} {a0 : Array Value}
theorem Go.anewarrayA {C ad : String} {ty : FieldType} {i : Nat} {z : Int32} {cap : Nat} (hd : decode code pc = .ok (.anewarray i, 3)) (hq : q = pc + 3) (hC : (FieldType.array ty).toString = C) (had : "[" ++ C = ad) (w1 : (Jvm.Cond.classLink mn.cls i C).before a0 Z = true) (w2 : (Jvm.Cond.arrayOver (.array ty)).before a0 Z = true) (hz : ¬ z < 0) (hcap : z.toNatClampNeg ≤ cap) (hb8 : cap * 8 ≤ 536870912) (hc : k + 1 ≤ R.cells) (hs : n + cap ≤ R.slots)
    (K : ∀ h' a cA, a = h.size → Ext h h' → Ar Z h' a (.array ty) cA (List.replicate z.toNatClampNeg .null) → OvrA Z cA ty C → Exa Z h' a ad → Go l Z mn code maxL ret R n0 Q h' (k + 1) (n + cap) q Ls (.ref a :: st)) : Go l Z mn code maxL ret R n0 Q h k n pc Ls (.int z :: st) := by
  subst hq
  intro p e s m args below meth c T locs k' n' Cc X hk hn N eT
  obtain ⟨T', h', cA, X', e', E, A, E2, O, f⟩ := newRA X Cc.1 Cc.2.1 Cc.2.2.2.2.1 hC w1 w2 eT (g := mkF m pc Ls (.int z :: st)) rfl (hb Cc.2.2.1 hd) rfl hz hcap hb8 (by omega) (by omega) had
  exact (K h' h.size cA rfl E ⟨_, A, rfl, by simp [newA, defaultValue]⟩ O E2 p e s m args below meth c T' locs _ _ Cc X' (by omega) (by omega) N e').step f
theorem Go.newarrayE {aty : ArrayType} {z : Int32} {cap : Nat} {ad : String} (hd : decode code pc = .ok (.newarray aty, 2)) (hq : q = pc + 2) (had : "[" ++ (newarray.typeOf aty).toString = ad) (w : (Jvm.Cond.arrayClass (newarray.typeOf aty)).before a0 Z = true) (hz : ¬ z < 0) (hcap : z.toNatClampNeg ≤ cap) (hb8 : cap * 8 ≤ 536870912) (hc : k + 1 ≤ R.cells) (hs : n + cap ≤ R.slots)
    (K : ∀ h' a cA, a = h.size → Ext h h' → Ar Z h' a (newarray.typeOf aty) cA (List.replicate z.toNatClampNeg (defaultValue (newarray.typeOf aty))) → Exa Z h' a ad → Go l Z mn code maxL ret R n0 Q h' (k + 1) (n + cap) q Ls (.ref a :: st)) : Go l Z mn code maxL ret R n0 Q h k n pc Ls (.int z :: st) := by
  subst hq
  intro p e s m args below meth c T locs k' n' C X hk hn N eT
  obtain ⟨T', h', cA, X', e', E, A, E2, f⟩ := newPE X C.1 C.2.1 w eT (g := mkF m pc Ls (.int z :: st)) rfl (hb C.2.2.1 hd) rfl hz hcap hb8 (by omega) (by omega) had
  exact (K h' h.size cA rfl E ⟨_, A, rfl, by simp [newA]⟩ E2 p e s m args below meth c T' locs _ _ C X' (by omega) (by omega) N e').step f
theorem sto_ofA {a b : Addr} {t0 ty : FieldType} {cA : ClassId} {vs : List Value} {C : String} (A : Ar Z h a t0 cA vs) (O : OvrA Z cA ty C) (I : Ins Z h b C true) : Sto Z h a (.ref b) := by
  obtain ⟨c, A, q, -⟩ := A
  exact Sto.ofVA A q O I
theorem Ar.nel {a b : Addr} {ty : FieldType} {cA : ClassId} {vs : List Value} (F : Ar Z h a ty cA vs) (e : b = h.size) : a ≠ b := fun q => Nat.ne_of_lt F.lt (q.trans e)
theorem Ins.ofExa {a : Addr} {C : String} (E : Exa Z h a C) : Ins Z h a C true := Ins.self E
end More
theorem cat_ref {v : Value} (h : v.isRef = true) : v.category = 1 := by rcases ref_cases h with rfl | ⟨a, rfl⟩ <;> rfl
section Addrs
variable {h : Heap} {x b o : Addr} {n0 : Nat}
theorem new_ne (l : x < h.size) (e : b = h.size) : x ≠ b := fun q => Nat.ne_of_lt l (q.trans e)
theorem new_le (l : n0 ≤ h.size) (e : b = h.size) : n0 ≤ b := Nat.le_trans l (Nat.le_of_eq e.symm)
theorem le_size (l : o < h.size) (n : n0 ≤ o) : n0 ≤ h.size := Nat.le_trans n (Nat.le_of_lt l)
end Addrs
section Nums
theorem idiv_nat {x y : Int32} {d : Nat} (h0 : ¬ x < 0) (hy : y.toInt = d) (hd : 1 < d) : ¬ (x / y) < 0 ∧ (x / y).toNatClampNeg = x.toNatClampNeg / d := by
  have z : (0 : Int32).toInt = 0 := rfl
  have z1 : (-1 : Int32).toInt = -1 := rfl
  have p : 0 ≤ x.toInt := by rw [Int32.lt_iff_toInt_lt] at h0; omega
  have ny : y ≠ -1 := by
    intro q
    rw [q, z1] at hy
    omega
  have e := (c_idiv x y d hy ny).1 p
  have p' : 0 ≤ x.toInt / (d : Int) := Int.ediv_nonneg p (by omega)
  refine ⟨by rw [Int32.lt_iff_toInt_lt]; omega, ?_⟩
  show (x / y).toInt.toNat = x.toInt.toNat / d
  rw [e]
  obtain ⟨m, hm⟩ := Int.eq_ofNat_of_zero_le p
  rw [hm]; rfl
theorem irem_nat {x y : Int32} {d : Nat} (h0 : ¬ x < 0) (hy : y.toInt = d) (hd : 1 < d) : ¬ (x % y) < 0 ∧ (x % y).toNatClampNeg = x.toNatClampNeg % d := by
  have z : (0 : Int32).toInt = 0 := rfl
  have p : 0 ≤ x.toInt := by rw [Int32.lt_iff_toInt_lt] at h0; omega
  have e := (c_irem x y d hy).1 p
  have p' : 0 ≤ x.toInt % (d : Int) := Int.emod_nonneg _ (by omega)
  refine ⟨by rw [Int32.lt_iff_toInt_lt]; omega, ?_⟩
  show (x % y).toInt.toNat = x.toInt.toNat % d
  rw [e]
  obtain ⟨m, hm⟩ := Int.eq_ofNat_of_zero_le p
  rw [hm]; rfl
theorem nonneg_iff {x : Int32} : ¬ x < 0 ↔ 0 ≤ x.toInt := by
  rw [Int32.lt_iff_toInt_lt]; have : (0 : Int32).toInt = 0 := rfl; omega
end Nums
end Jvm.OwnKit
namespace Jvm.OwnKit
open Jvm Jvm.ClassFile Sem Op Lib Jvm.Free Jvm.Stand Jvm.LawKit Jvm.RoadKit
section Calls5
variable {l : Launch} {Z : State} {mn : MethodName} {code : ByteArray} {maxL : Nat} {ret : Option FieldType} {R : Room} {n0 : Nat} {Q : Option Value → Heap → Prop} {h : Heap} {k n pc q : Nat} {Ls Ls' : Array Slot} {st st' : List Value} {a0 : Array Value}
  {y' : MethodName} {code' : ByteArray} {maxL' : Nat} {ret' : Option FieldType} {R' : Room} {Q' : Option Value → Heap → Prop} {argsL rest : List Value} {Ls1 : Array Slot} {ps : List FieldType} {r : Option FieldType} {i wd : Nat}

theorem Go.callU {z : MethodName} {C owner : String} {a : Addr} (hd : decode code pc = .ok (.invokevirtual i, 3)) (hq : q = pc + 3) (w1 : (Jvm.Cond.methodLink mn.cls i y').before a0 Z = true) (ws : (Jvm.Cond.sameMethod y'.cls owner y'.name y'.desc).before a0 Z = true) (w2 : (Jvm.Cond.declares ⟨owner, y'.name, y'.desc⟩).before a0 Z = true) (w3 : (Jvm.Cond.selects C y' z).before a0 Z = true) (w4 : (Jvm.Cond.instanceMethod z).before a0 Z = true) (w5 : (Jvm.Cond.code z code' maxL' ret').before a0 Z = true) (w6 : (Jvm.Cond.initialized z.cls).before a0 Z = true) (hy : owner ≠ "java/lang/invoke/MethodHandle" ∧ owner ≠ "java/lang/invoke/VarHandle") (pn : plainFor z = true) (pd : parseMethodDescriptor y'.desc = some ⟨ps, r⟩) (hl : argsL.length = ps.length) (hst : st = argsL.reverse ++ .ref a :: rest) (E : Exa Z h a C) (hef : ∀ m, entryFrame m (.ref a :: argsL).toArray maxL' = mkF m 0 Ls1 []) (hsz : Ls.size = maxL) (hR1 : R'.frames + 1 ≤ R.frames) (hW : (rest.map fun v => v.category).sum = wd) (hR2 : wd + (maxL' + 11) + R'.locals ≤ R.locals) (hc : k + R'.cells ≤ R.cells) (hs : n + R'.slots ≤ R.slots) (G : Go l Z z code' maxL' ret' R' n0 Q' h 0 0 0 Ls1 []) (K : ∀ v h', Q' v h' → Go l Z mn code maxL ret R n0 Q h' (k + R'.cells) (n + R'.slots) q Ls (v.toList ++ rest)) : Go l Z mn code maxL ret R n0 Q h k n pc Ls st := by
  subst hq hst hW
  intro p e s m args below meth c T locs k' n' Cc X hk hn N eT
  obtain ⟨cq, kq, qa, qb, qc⟩ := isOf Cc.2.1 eT E
  obtain ⟨v, vm1, ⟨T1, L1, k1, n1⟩, -, X1, ⟨Lc, hQ, e1, e2, e3⟩, f⟩ := X.virtualBackUp Cc.1 (x := y') (y := z) (owner := owner) Cc.2.2.2.2.1 (mvT Cc.2.1 w1) (mvT Cc.2.1 ws) (mvT Cc.2.1 w2) hy (mvT Cc.2.1 w3) (mvT Cc.2.1 w4) (backOf (W := (rest.map fun v => v.category).sum) (Q := fun v h L => Fr n0 L ∧ Q' v h) (G.met pn hef []) Cc.2.1 w5 w6 hR1 hR2) qa qc (g := mkF m pc Ls (argsL.reverse ++ .ref a :: rest)) rfl (by rw [Cc.2.2.2.1]; exact hsz) (Steps.refl _) (argsL := argsL) (rest := rest) (lenOf pd hl) rfl (by simp) (hb Cc.2.2.1 hd) (fun _ _ => ⟨rfl, eT, by show k' + _ ≤ _; omega, by show n' + _ ≤ _; omega⟩)
  dsimp only [Pt.U, Pt.locs, Pt.cells, Pt.slots] at X1 e1 e2 e3 f hQ
  subst e1 e2 e3
  exact (K v T1.heap hQ.2 p e s m args below meth c T1 _ _ _ Cc X1 (by omega) (by omega) (Fr.app N hQ.1) rfl).step fun t r => f.trans r
theorem Go.callP {a : Addr} {C C2 : String} {y2 z2 : MethodName} (hd : decode code pc = .ok (.invokevirtual i, 3)) (hq : q = pc + 3) (w1 : (Jvm.Cond.methodLink mn.cls i y').before a0 Z = true) (w2 : (Jvm.Cond.privateMethod y').before a0 Z = true) (w3 : (Jvm.Cond.selects C2 y2 z2).before a0 Z = true) (hz2 : z2.cls = y'.cls) (w4 : (Jvm.Cond.instanceMethod y').before a0 Z = true) (w5 : (Jvm.Cond.code y' code' maxL' ret').before a0 Z = true) (w6 : (Jvm.Cond.initialized y'.cls).before a0 Z = true) (hy : y'.cls ≠ "java/lang/invoke/MethodHandle" ∧ y'.cls ≠ "java/lang/invoke/VarHandle") (pn : plainFor y' = true) (pd : parseMethodDescriptor y'.desc = some ⟨ps, r⟩) (hl : argsL.length = ps.length) (hst : st = argsL.reverse ++ .ref a :: rest) (E : Exa Z h a C) (hef : ∀ m, entryFrame m (.ref a :: argsL).toArray maxL' = mkF m 0 Ls1 []) (hsz : Ls.size = maxL) (hR1 : R'.frames + 1 ≤ R.frames) (hW : (rest.map fun v => v.category).sum = wd) (hR2 : wd + (maxL' + 11) + R'.locals ≤ R.locals) (hc : k + R'.cells ≤ R.cells) (hs : n + R'.slots ≤ R.slots) (G : Go l Z y' code' maxL' ret' R' n0 Q' h 0 0 0 Ls1 []) (K : ∀ v h', Q' v h' → Go l Z mn code maxL ret R n0 Q h' (k + R'.cells) (n + R'.slots) q Ls (v.toList ++ rest)) : Go l Z mn code maxL ret R n0 Q h k n pc Ls st := by
  subst hq hst hW
  intro p e s m args below meth c T locs k' n' Cc X hk hn N eT
  obtain ⟨cq, qa, qb⟩ := E.cell
  have hpr : s.PrivateAt y' := Jvm.Cond.privateMethod_at (mvP Cc.2.1 w2 (args := #[]))
  have hse : (Jvm.Cond.selects y'.cls y' y').before args s = true := by
    obtain ⟨c2, r2, m2, -, -, q3, -, kk, q5, q6⟩ := Jvm.Cond.selects_spec (mvT (args := args) Cc.2.1 w3)
    exact Jvm.Stand.selects_self_of_private (hz2 ▸ findClass_of_methodNamed q3) q5 q6 hpr (mvT Cc.2.1 w4) hy
  obtain ⟨v, vm1, ⟨T1, L1, k1, n1⟩, -, X1, ⟨Lc, hQ, e1, e2, e3⟩, f⟩ := X.privateBack Cc.1 (y := y') Cc.2.2.2.2.1 (mvT Cc.2.1 w1) (mvT Cc.2.1 w4) hse hpr (mvT Cc.2.1 w5) hy (backOf (W := (rest.map fun v => v.category).sum) (Q := fun v h L => Fr n0 L ∧ Q' v h) (G.met pn hef []) Cc.2.1 w5 w6 hR1 hR2) (g := mkF m pc Ls (argsL.reverse ++ .ref a :: rest)) rfl (by rw [Cc.2.2.2.1]; exact hsz) (Steps.refl _) (a := a) (by rw [eT]; exact qa) qb (argsL := argsL) (rest := rest) (lenOf pd hl) rfl (by simp) (hb Cc.2.2.1 hd) (fun _ _ => ⟨rfl, eT, by show k' + _ ≤ _; omega, by show n' + _ ≤ _; omega⟩)
  dsimp only [Pt.U, Pt.locs, Pt.cells, Pt.slots] at X1 e1 e2 e3 f hQ
  subst e1 e2 e3
  exact (K v T1.heap hQ.2 p e s m args below meth c T1 _ _ _ Cc X1 (by omega) (by omega) (Fr.app N hQ.1) rfl).step fun t r => f.trans r
theorem Go.callUV {P : Value → Heap → Prop} {z : MethodName} {C owner : String} {a : Addr} (hd : decode code pc = .ok (.invokevirtual i, 3)) (hq : q = pc + 3) (w1 : (Jvm.Cond.methodLink mn.cls i y').before a0 Z = true) (ws : (Jvm.Cond.sameMethod y'.cls owner y'.name y'.desc).before a0 Z = true) (w2 : (Jvm.Cond.declares ⟨owner, y'.name, y'.desc⟩).before a0 Z = true) (w3 : (Jvm.Cond.selects C y' z).before a0 Z = true) (w4 : (Jvm.Cond.instanceMethod z).before a0 Z = true) (w5 : (Jvm.Cond.code z code' maxL' ret').before a0 Z = true) (w6 : (Jvm.Cond.initialized z.cls).before a0 Z = true) (hy : owner ≠ "java/lang/invoke/MethodHandle" ∧ owner ≠ "java/lang/invoke/VarHandle") (pn : plainFor z = true) (pd : parseMethodDescriptor y'.desc = some ⟨ps, r⟩) (hl : argsL.length = ps.length) (hst : st = argsL.reverse ++ .ref a :: rest) (E : Exa Z h a C) (hef : ∀ m, entryFrame m (.ref a :: argsL).toArray maxL' = mkF m 0 Ls1 []) (hsz : Ls.size = maxL) (hR1 : R'.frames + 1 ≤ R.frames) (hW : (rest.map fun v => v.category).sum = wd) (hR2 : wd + (maxL' + 11) + R'.locals ≤ R.locals) (hc : k + R'.cells ≤ R.cells) (hs : n + R'.slots ≤ R.slots) (G : Go l Z z code' maxL' ret' R' n0 (RV P) h 0 0 0 Ls1 []) (K : ∀ w h', P w h' → Go l Z mn code maxL ret R n0 Q h' (k + R'.cells) (n + R'.slots) q Ls (w :: rest)) : Go l Z mn code maxL ret R n0 Q h k n pc Ls st :=
  Go.callU hd hq w1 ws w2 w3 w4 w5 w6 hy pn pd hl hst E hef hsz hR1 hW hR2 hc hs G fun v h' ⟨w, e, q⟩ => by subst e; exact K w h' q
theorem Go.callUN {P : Heap → Prop} {z : MethodName} {C owner : String} {a : Addr} (hd : decode code pc = .ok (.invokevirtual i, 3)) (hq : q = pc + 3) (w1 : (Jvm.Cond.methodLink mn.cls i y').before a0 Z = true) (ws : (Jvm.Cond.sameMethod y'.cls owner y'.name y'.desc).before a0 Z = true) (w2 : (Jvm.Cond.declares ⟨owner, y'.name, y'.desc⟩).before a0 Z = true) (w3 : (Jvm.Cond.selects C y' z).before a0 Z = true) (w4 : (Jvm.Cond.instanceMethod z).before a0 Z = true) (w5 : (Jvm.Cond.code z code' maxL' ret').before a0 Z = true) (w6 : (Jvm.Cond.initialized z.cls).before a0 Z = true) (hy : owner ≠ "java/lang/invoke/MethodHandle" ∧ owner ≠ "java/lang/invoke/VarHandle") (pn : plainFor z = true) (pd : parseMethodDescriptor y'.desc = some ⟨ps, r⟩) (hl : argsL.length = ps.length) (hst : st = argsL.reverse ++ .ref a :: rest) (E : Exa Z h a C) (hef : ∀ m, entryFrame m (.ref a :: argsL).toArray maxL' = mkF m 0 Ls1 []) (hsz : Ls.size = maxL) (hR1 : R'.frames + 1 ≤ R.frames) (hW : (rest.map fun v => v.category).sum = wd) (hR2 : wd + (maxL' + 11) + R'.locals ≤ R.locals) (hc : k + R'.cells ≤ R.cells) (hs : n + R'.slots ≤ R.slots) (G : Go l Z z code' maxL' ret' R' n0 (RN P) h 0 0 0 Ls1 []) (K : ∀ h', P h' → Go l Z mn code maxL ret R n0 Q h' (k + R'.cells) (n + R'.slots) q Ls rest) : Go l Z mn code maxL ret R n0 Q h k n pc Ls st :=
  Go.callU hd hq w1 ws w2 w3 w4 w5 w6 hy pn pd hl hst E hef hsz hR1 hW hR2 hc hs G fun v h' ⟨e, q⟩ => by subst e; exact K h' q
theorem Go.callPV {P : Value → Heap → Prop} {a : Addr} {C C2 : String} {y2 z2 : MethodName} (hd : decode code pc = .ok (.invokevirtual i, 3)) (hq : q = pc + 3) (w1 : (Jvm.Cond.methodLink mn.cls i y').before a0 Z = true) (w2 : (Jvm.Cond.privateMethod y').before a0 Z = true) (w3 : (Jvm.Cond.selects C2 y2 z2).before a0 Z = true) (hz2 : z2.cls = y'.cls) (w4 : (Jvm.Cond.instanceMethod y').before a0 Z = true) (w5 : (Jvm.Cond.code y' code' maxL' ret').before a0 Z = true) (w6 : (Jvm.Cond.initialized y'.cls).before a0 Z = true) (hy : y'.cls ≠ "java/lang/invoke/MethodHandle" ∧ y'.cls ≠ "java/lang/invoke/VarHandle") (pn : plainFor y' = true) (pd : parseMethodDescriptor y'.desc = some ⟨ps, r⟩) (hl : argsL.length = ps.length) (hst : st = argsL.reverse ++ .ref a :: rest) (E : Exa Z h a C) (hef : ∀ m, entryFrame m (.ref a :: argsL).toArray maxL' = mkF m 0 Ls1 []) (hsz : Ls.size = maxL) (hR1 : R'.frames + 1 ≤ R.frames) (hW : (rest.map fun v => v.category).sum = wd) (hR2 : wd + (maxL' + 11) + R'.locals ≤ R.locals) (hc : k + R'.cells ≤ R.cells) (hs : n + R'.slots ≤ R.slots) (G : Go l Z y' code' maxL' ret' R' n0 (RV P) h 0 0 0 Ls1 []) (K : ∀ w h', P w h' → Go l Z mn code maxL ret R n0 Q h' (k + R'.cells) (n + R'.slots) q Ls (w :: rest)) : Go l Z mn code maxL ret R n0 Q h k n pc Ls st :=
  Go.callP hd hq w1 w2 w3 hz2 w4 w5 w6 hy pn pd hl hst E hef hsz hR1 hW hR2 hc hs G fun v h' ⟨w, e, q⟩ => by subst e; exact K w h' q
theorem Go.callPN {P : Heap → Prop} {a : Addr} {C C2 : String} {y2 z2 : MethodName} (hd : decode code pc = .ok (.invokevirtual i, 3)) (hq : q = pc + 3) (w1 : (Jvm.Cond.methodLink mn.cls i y').before a0 Z = true) (w2 : (Jvm.Cond.privateMethod y').before a0 Z = true) (w3 : (Jvm.Cond.selects C2 y2 z2).before a0 Z = true) (hz2 : z2.cls = y'.cls) (w4 : (Jvm.Cond.instanceMethod y').before a0 Z = true) (w5 : (Jvm.Cond.code y' code' maxL' ret').before a0 Z = true) (w6 : (Jvm.Cond.initialized y'.cls).before a0 Z = true) (hy : y'.cls ≠ "java/lang/invoke/MethodHandle" ∧ y'.cls ≠ "java/lang/invoke/VarHandle") (pn : plainFor y' = true) (pd : parseMethodDescriptor y'.desc = some ⟨ps, r⟩) (hl : argsL.length = ps.length) (hst : st = argsL.reverse ++ .ref a :: rest) (E : Exa Z h a C) (hef : ∀ m, entryFrame m (.ref a :: argsL).toArray maxL' = mkF m 0 Ls1 []) (hsz : Ls.size = maxL) (hR1 : R'.frames + 1 ≤ R.frames) (hW : (rest.map fun v => v.category).sum = wd) (hR2 : wd + (maxL' + 11) + R'.locals ≤ R.locals) (hc : k + R'.cells ≤ R.cells) (hs : n + R'.slots ≤ R.slots) (G : Go l Z y' code' maxL' ret' R' n0 (RN P) h 0 0 0 Ls1 []) (K : ∀ h', P h' → Go l Z mn code maxL ret R n0 Q h' (k + R'.cells) (n + R'.slots) q Ls rest) : Go l Z mn code maxL ret R n0 Q h k n pc Ls st :=
  Go.callP hd hq w1 w2 w3 hz2 w4 w5 w6 hy pn pd hl hst E hef hsz hR1 hW hR2 hc hs G fun v h' ⟨e, q⟩ => by subst e; exact K h' q
/-- an array whose elements are of its type -/
def ArF (Z : State) (h : Heap) (a : Addr) (ty : FieldType) (cA : ClassId) (vs : List Value) : Prop := ∃ c : Cell, Arr Z h a c ty ∧ c.cls = cA ∧ c.slots.toList = vs ∧ FitC Z c
theorem ArF.ext {a : Addr} {ty : FieldType} {cA : ClassId} {vs : List Value} {h' : Heap} (F : ArF Z h a ty cA vs) (E : Ext h h') : ArF Z h' a ty cA vs := by obtain ⟨c, A, r⟩ := F; exact ⟨c, A.ext E, r⟩
theorem ArF.start {s : State} {a : Addr} {ty : FieldType} {cA : ClassId} {vs : List Value} (hf : Fit s) (A : Ar s s.heap a ty cA vs) : ArF s s.heap a ty cA vs := by
  obtain ⟨c, A, r1, r2⟩ := A; exact ⟨c, A, r1, r2, FitC.start hf A⟩
theorem Go.clone {ad : String} {a : Addr} {ty : FieldType} {cA : ClassId} {vs : List Value} {cap : Nat} (hd : decode code pc = .ok (.invokevirtual i, 3)) (hq : q = pc + 3) (w1 : (Jvm.Cond.methodLink mn.cls i ⟨ad, "clone", "()Ljava/lang/Object;"⟩).before a0 Z = true) (w2 : (Jvm.Cond.sameMethod ad "java/lang/Object" "clone" "()Ljava/lang/Object;").before a0 Z = true) (w3 : (Jvm.Cond.native ⟨"java/lang/Object", "clone", "()Ljava/lang/Object;"⟩).before a0 Z = true)
    (w4 : (Jvm.Cond.instanceMethod ⟨"java/lang/Object", "clone", "()Ljava/lang/Object;"⟩).before a0 Z = true) (w5 : (Jvm.Cond.selects ad ⟨ad, "clone", "()Ljava/lang/Object;"⟩ ⟨"java/lang/Object", "clone", "()Ljava/lang/Object;"⟩).before a0 Z = true) (w6 : (Jvm.Cond.castable ad "java/lang/Cloneable").before a0 Z = true)
    (A : ArF Z h a ty cA vs) (E : Exa Z h a ad) (hsz : Ls.size = maxL) (hf : 1 ≤ R.frames) (hW : (st.map fun v => v.category).sum = wd) (hl : wd + 14 ≤ R.locals) (hcap : vs.length ≤ cap) (hc : k + 1 ≤ R.cells) (hs : n + cap ≤ R.slots)
    (K : ∀ h' b, b = h.size → Ext h h' → Ar Z h' b ty cA vs → Exa Z h' b ad → Go l Z mn code maxL ret R n0 Q h' (k + 1) (n + cap) q Ls (.ref b :: st)) : Go l Z mn code maxL ret R n0 Q h k n pc Ls (.ref a :: st) := by
  subst hq
  intro p e s m args below meth c T locs k' n' C X hk hn N eT
  obtain ⟨cl, A, r1, r2, r3⟩ := A
  obtain ⟨T', h', X', e', X2, A2, E2, f⟩ := cloneA X C.1 C.2.1 C.2.2.2.2.1 w1 w2 w3 w4 w5 w6 eT A E r3 (g := mkF m pc Ls (.ref a :: st)) rfl (by rw [C.2.2.2.1]; exact hsz) rfl (hb C.2.2.1 hd) hf (W := wd) (cap := cap) (by simp [hW]) hl (by rw [← r2] at hcap; simpa using hcap) (by omega) (by omega)
  exact (K h' h.size rfl X2 ⟨_, A2, r1, r2⟩ E2 p e s m args below meth c T' locs _ _ C X' (by omega) (by omega) N e').step f
end Calls5
end Jvm.OwnKit
namespace Jvm.OwnKit
open Jvm Jvm.ClassFile Sem Op Lib Jvm.Free Jvm.Stand Jvm.LawKit Jvm.RoadKit
section Copy
variable {l : Launch} {Z : State} {mn : MethodName} {code : ByteArray} {maxL : Nat} {ret : Option FieldType} {R : Room} {n0 : Nat} {Q : Option Value → Heap → Prop} {h : Heap} {k n pc q : Nat} {Ls : Array Slot} {st : List Value} {a0 : Array Value} {i wd : Nat}
theorem arv_of {a : Addr} {cA : ClassId} {vs : List Value} {z : Int32} {dv : Value} (A : Ar Z h a .int cA vs) (hz : vs.length = z.toNatClampNeg) (h0 : ¬ z < 0) (hf : ∀ v ∈ vs, fits .int v = true) : Arv Z h a cA .int z vs dv := by
  obtain ⟨c, A, r1, r2⟩ := A
  have e : c.slots.size = vs.length := by rw [← r2]; simp
  refine ⟨c, A, r1, by omega, h0, fun j hj => ?_, fun j hj => ?_⟩
  · have q : vs[j]? = some (vs[j]'(by omega)) := List.getElem?_eq_getElem _
    rw [List.getD_eq_getElem?_getD, q]
    rw [← Array.getElem?_toList, r2, q]; rfl
  · have q : vs[j]? = some (vs[j]'(by omega)) := List.getElem?_eq_getElem _
    rw [List.getD_eq_getElem?_getD, q]
    exact hf _ (List.getElem_mem _)
theorem ar_of {a : Addr} {cA : ClassId} {vs : List Value} {z : Int32} {dv : Value} (A : Arv Z h a cA .int z vs dv) : ∃ ws, Ar Z h a .int cA ws ∧ ws.length = z.toNatClampNeg := by
  obtain ⟨c, A, r1, r2, -⟩ := A
  exact ⟨c.slots.toList, ⟨c, A, r1, rfl⟩, by simpa using r2⟩
/-- System.arraycopy of no element into a new int[8] -/
theorem Go.acopy0 {a b : Addr} {kA kB : ClassId} (hd : decode code pc = .ok (.invokestatic i, 3)) (hq : q = pc + 3) (w1 : (Jvm.Cond.methodLink mn.cls i Jvm.Stand.acN).before a0 Z = true) (w2 : (Jvm.Cond.native Jvm.Stand.acN).before a0 Z = true) (w3 : (Jvm.Cond.static Jvm.Stand.acN).before a0 Z = true) (w4 : (Jvm.Cond.initialized "java/lang/System").before a0 Z = true)
    (A : Ar Z h a .int kA []) (B : Ar Z h b .int kB (List.replicate 8 (.int 0))) (ge : n0 ≤ b) (hsz : Ls.size = maxL) (hf : 1 ≤ R.frames) (hW : (st.map fun v => v.category).sum = wd) (hl : wd + 18 ≤ R.locals)
    (K : ∀ h' ws, Keep h h' [b] → Ar Z h' b .int kB ws → ws.length = 8 → Go l Z mn code maxL ret R n0 Q h' k n q Ls st) : Go l Z mn code maxL ret R n0 Q h k n pc Ls (.int 0 :: .int 0 :: .ref b :: .int 0 :: .ref a :: st) := by
  subst hq
  intro p e s m args below meth c T locs k' n' C X hk hn N eT
  have A' : Arv Z h a kA .int 0 [] (.int 0) := arv_of A rfl (by decide) (fun v hv => by cases hv)
  have B' : Arv Z h b kB .int 8 (List.replicate 8 (.int 0)) (.int 0) := arv_of B rfl (by decide) (fun v hv => by rw [List.eq_of_mem_replicate hv]; rfl)
  obtain ⟨T', h', L, X', e', N', K', D, f⟩ := cpA X C.1 C.2.1 C.2.2.2.2.1 w1 w2 w3 w4 eT A' B' (Or.inl ⟨rfl, rfl⟩) (sp := 0) (dp := 0) (nn := 0) (by decide) (by decide) (by decide) (by decide) (by decide) (us := []) rfl (by decide) N ge (g := mkF m pc Ls (.int 0 :: .int 0 :: .ref b :: .int 0 :: .ref a :: st)) rfl (by rw [C.2.2.2.1]; exact hsz) (rest := st) rfl (hb C.2.2.1 hd) hf (W := wd) (by simp [hW]) (by simpa [nativeFrameWords] using hl)
  obtain ⟨ws, D2, D3⟩ := ar_of D
  exact (K h' ws K' D2 D3 p e s m args below meth c T' L _ _ C X' hk hn N' e').step f
end Copy
end Jvm.OwnKit
namespace Jvm.OwnKit
open Jvm Jvm.ClassFile Sem Op Lib Jvm.Free Jvm.Stand Jvm.LawKit Jvm.RoadKit
section Face
variable {l : Launch} {Z : State} {mn : MethodName} {code : ByteArray} {maxL : Nat} {ret : Option FieldType} {R : Room} {n0 : Nat} {Q : Option Value → Heap → Prop} {h : Heap} {k n pc q : Nat} {Ls Ls' : Array Slot} {st st' : List Value} {a0 : Array Value}
  {y' : MethodName} {code' : ByteArray} {maxL' : Nat} {ret' : Option FieldType} {R' : Room} {Q' : Option Value → Heap → Prop} {argsL rest : List Value} {Ls1 : Array Slot} {ps : List FieldType} {r : Option FieldType} {i wd cnt : Nat}
theorem Go.callF {xi : MethodName} {C : String} {a : Addr} (hd : decode code pc = .ok (.invokeinterface i cnt, 5)) (hq : q = pc + 5) (w1 : (Jvm.Cond.methodLink mn.cls i xi).before a0 Z = true) (w2 : (Jvm.Cond.declares xi).before a0 Z = true) (wf : (Jvm.Cond.interfaceMethod xi.cls xi.cls xi.name xi.desc).before a0 Z = true) (wx : ((Jvm.Cond.interfaceMethod xi.cls xi.cls xi.name xi.desc).onTables && (Jvm.Cond.interfaceMethod xi.cls xi.cls xi.name xi.desc).keepsFace) = true) (w3 : (Jvm.Cond.selects C xi y').before a0 Z = true) (w4 : (Jvm.Cond.instanceMethod y').before a0 Z = true) (wp : (Jvm.Cond.publicMethod y').before a0 Z = true) (wu : (Jvm.Cond.unhidden C xi.name xi.desc).before a0 Z = true) (wc : (Jvm.Cond.castable C xi.cls).before a0 Z = true) (w5 : (Jvm.Cond.code y' code' maxL' ret').before a0 Z = true) (w6 : (Jvm.Cond.initialized y'.cls).before a0 Z = true)
    (hy : xi.cls ≠ "java/lang/invoke/MethodHandle" ∧ xi.cls ≠ "java/lang/invoke/VarHandle") (pn : plainFor y' = true) (pd : parseMethodDescriptor xi.desc = some ⟨ps, r⟩) (hl : argsL.length = ps.length) (hst : st = argsL.reverse ++ .ref a :: rest) (E : Exa Z h a C) (hef : ∀ m, entryFrame m (.ref a :: argsL).toArray maxL' = mkF m 0 Ls1 []) (hsz : Ls.size = maxL)
    (hR1 : R'.frames + 1 ≤ R.frames) (hW : (rest.map fun v => v.category).sum = wd) (hR2 : wd + (maxL' + 11) + R'.locals ≤ R.locals) (hc : k + R'.cells ≤ R.cells) (hs : n + R'.slots ≤ R.slots)
    (G : Go l Z y' code' maxL' ret' R' n0 Q' h 0 0 0 Ls1 []) (K : ∀ v h', Q' v h' → Go l Z mn code maxL ret R n0 Q h' (k + R'.cells) (n + R'.slots) q Ls (v.toList ++ rest)) : Go l Z mn code maxL ret R n0 Q h k n pc Ls st := by
  subst hq hst hW
  intro p e s m args below meth c T locs k' n' Cc X hk hn N eT
  obtain ⟨cq, kq, qa, qb, qc⟩ := isOf Cc.2.1 eT E
  obtain ⟨v, vm1, ⟨T1, L1, k1, n1⟩, -, X1, ⟨Lc, hQ, e1, e2, e3⟩, f⟩ := X.interfaceBack Cc.1 (xi := xi) (y := y') Cc.2.2.2.2.1 (mvT Cc.2.1 w1) (mvT Cc.2.1 w2) (mvT Cc.2.1 wf wx) (mvT Cc.2.1 w3) (mvT Cc.2.1 w4) (mvT Cc.2.1 wp) (mvT Cc.2.1 wu) (mvT Cc.2.1 wc) hy (backOf (W := (rest.map fun v => v.category).sum) (Q := fun v h L => Fr n0 L ∧ Q' v h) (G.met pn hef []) Cc.2.1 w5 w6 hR1 hR2) qa qb qc (g := mkF m pc Ls (argsL.reverse ++ .ref a :: rest)) rfl (by rw [Cc.2.2.2.1]; exact hsz) (Steps.refl _) (argsL := argsL) (rest := rest) (lenOf pd hl) rfl (by simp) (hb Cc.2.2.1 hd) (fun _ _ => ⟨rfl, eT, by show k' + _ ≤ _; omega, by show n' + _ ≤ _; omega⟩)
  dsimp only [Pt.U, Pt.locs, Pt.cells, Pt.slots] at X1 e1 e2 e3 f hQ
  subst e1 e2 e3
  exact (K v T1.heap hQ.2 p e s m args below meth c T1 _ _ _ Cc X1 (by omega) (by omega) (Fr.app N hQ.1) rfl).step fun t r => f.trans r
theorem Go.callFV {P : Value → Heap → Prop} {xi : MethodName} {C : String} {a : Addr} (hd : decode code pc = .ok (.invokeinterface i cnt, 5)) (hq : q = pc + 5) (w1 : (Jvm.Cond.methodLink mn.cls i xi).before a0 Z = true) (w2 : (Jvm.Cond.declares xi).before a0 Z = true) (wf : (Jvm.Cond.interfaceMethod xi.cls xi.cls xi.name xi.desc).before a0 Z = true) (wx : ((Jvm.Cond.interfaceMethod xi.cls xi.cls xi.name xi.desc).onTables && (Jvm.Cond.interfaceMethod xi.cls xi.cls xi.name xi.desc).keepsFace) = true) (w3 : (Jvm.Cond.selects C xi y').before a0 Z = true) (w4 : (Jvm.Cond.instanceMethod y').before a0 Z = true) (wp : (Jvm.Cond.publicMethod y').before a0 Z = true) (wu : (Jvm.Cond.unhidden C xi.name xi.desc).before a0 Z = true) (wc : (Jvm.Cond.castable C xi.cls).before a0 Z = true) (w5 : (Jvm.Cond.code y' code' maxL' ret').before a0 Z = true) (w6 : (Jvm.Cond.initialized y'.cls).before a0 Z = true)
    (hy : xi.cls ≠ "java/lang/invoke/MethodHandle" ∧ xi.cls ≠ "java/lang/invoke/VarHandle") (pn : plainFor y' = true) (pd : parseMethodDescriptor xi.desc = some ⟨ps, r⟩) (hl : argsL.length = ps.length) (hst : st = argsL.reverse ++ .ref a :: rest) (E : Exa Z h a C) (hef : ∀ m, entryFrame m (.ref a :: argsL).toArray maxL' = mkF m 0 Ls1 []) (hsz : Ls.size = maxL)
    (hR1 : R'.frames + 1 ≤ R.frames) (hW : (rest.map fun v => v.category).sum = wd) (hR2 : wd + (maxL' + 11) + R'.locals ≤ R.locals) (hc : k + R'.cells ≤ R.cells) (hs : n + R'.slots ≤ R.slots)
    (G : Go l Z y' code' maxL' ret' R' n0 (RV P) h 0 0 0 Ls1 []) (K : ∀ w h', P w h' → Go l Z mn code maxL ret R n0 Q h' (k + R'.cells) (n + R'.slots) q Ls (w :: rest)) : Go l Z mn code maxL ret R n0 Q h k n pc Ls st :=
  Go.callF hd hq w1 w2 wf wx w3 w4 wp wu wc w5 w6 hy pn pd hl hst E hef hsz hR1 hW hR2 hc hs G fun v h' ⟨w, e, q⟩ => by subst e; exact K w h' q
theorem Go.bastore {a : Addr} {cA : ClassId} {vs : List Value} {j x : Int32} (hd : decode code pc = .ok (.bastore, 1)) (hq : q = pc + 1) (A : Ar Z h a .byte cA vs) (hj : ¬ j < 0) (hv : j.toNatClampNeg < vs.length) (ha : n0 ≤ a) (K : ∀ h', Wr h h' a j.toNatClampNeg (.int (nar .byte x)) → Go l Z mn code maxL ret R n0 Q h' k n q Ls st) : Go l Z mn code maxL ret R n0 Q h k n pc Ls (.int x :: .int j :: .ref a :: st) := by
  subst hq
  intro p e s m args below meth c T locs k' n' C X hk hn N eT
  obtain ⟨cl, A, r1, r2⟩ := A
  obtain ⟨T', h', X', e', W, f⟩ := stB X C.1 C.2.1 eT A (inb hj r2 hv) (g := mkF m pc Ls (.int x :: .int j :: .ref a :: st)) rfl rfl (hb C.2.2.1 hd)
  exact (K h' W p e s m args below meth c T' _ k' n' C X' hk hn (Fr.snoc X' N ha) e').step f
theorem Go.breturn {z : Int32} (hd : decode code pc = .ok (.ireturn, 1)) (hk : k ≤ R.cells) (hn : n ≤ R.slots) (hz : narrow .byte (.int z) = .int z) (hQ : Q (some (.int z)) h) : Go l Z mn code maxL (some .byte) R n0 Q h k n pc Ls (.int z :: st) :=
  Go.retOut hd hz (Or.inl ⟨rfl, Or.inr (Or.inr (Or.inl rfl)), z, rfl⟩) hk hn hQ
end Face
end Jvm.OwnKit
namespace Jvm.Pilot.@@N@@
open Jvm Jvm.ClassFile Sem Op Lib Jvm.Free Jvm.Stand Jvm.LawKit Jvm.RoadKit Bundle Jvm.OwnKit Jvm.Pilot.@@N@@.Jvm.D
def Hw (a0 : Array Value) (Z : State) : Prop := ∀ d ∈ tables_1, d.before a0 Z = true
theorem w0 {a0 : Array Value} {Z : State} (hw : Hw a0 Z) : ((Jvm.Cond.methodLink "com/example/spanforge/spanforge/json/NumberTextScanJsonPinLaw" (13 : Nat) ({ cls := "com/example/spanforge/spanforge/json/NumberTextScanJsonPinLaw", name := "isDig", desc := "(C)Z" } : Jvm.MethodName)) : Jvm.Cond).before a0 Z = true := hw _ (List.mem_of_getElem? (i := 0) rfl)
theorem w1 {a0 : Array Value} {Z : State} (hw : Hw a0 Z) : ((Jvm.Cond.static ({ cls := "com/example/spanforge/spanforge/json/NumberTextScanJsonPinLaw", name := "isDig", desc := "(C)Z" } : Jvm.MethodName)) : Jvm.Cond).before a0 Z = true := hw _ (List.mem_of_getElem? (i := 1) rfl)
theorem w2 {a0 : Array Value} {Z : State} (hw : Hw a0 Z) : ((Jvm.Cond.initialized "com/example/spanforge/spanforge/json/NumberTextScanJsonPinLaw") : Jvm.Cond).before a0 Z = true := hw _ (List.mem_of_getElem? (i := 2) rfl)
theorem w3 {a0 : Array Value} {Z : State} (hw : Hw a0 Z) : ((Jvm.Cond.code ({ cls := "com/example/spanforge/spanforge/json/NumberTextScanJsonPinLaw", name := "isDig", desc := "(C)Z" } : Jvm.MethodName) method_2_code (1 : Nat) (Option.some Jvm.ClassFile.FieldType.boolean)) : Jvm.Cond).before a0 Z = true := hw _ (List.mem_of_getElem? (i := 3) rfl)
theorem w4 {a0 : Array Value} {Z : State} (hw : Hw a0 Z) : ((Jvm.Cond.arrayClass Jvm.ClassFile.FieldType.char) : Jvm.Cond).before a0 Z = true := hw _ (List.mem_of_getElem? (i := 4) rfl)
theorem w5 {a0 : Array Value} {Z : State} (hw : Hw a0 Z) : ((Jvm.Cond.classLink "com/example/spanforge/spanforge/json/NumberTextScanJsonPinLaw" (27 : Nat) "java/lang/String") : Jvm.Cond).before a0 Z = true := hw _ (List.mem_of_getElem? (i := 5) rfl)
theorem w6 {a0 : Array Value} {Z : State} (hw : Hw a0 Z) : ((Jvm.Cond.instantiable "java/lang/String" (4 : Nat)) : Jvm.Cond).before a0 Z = true := hw _ (List.mem_of_getElem? (i := 6) rfl)
theorem w7 {a0 : Array Value} {Z : State} (hw : Hw a0 Z) : ((Jvm.Cond.initialized "java/lang/String") : Jvm.Cond).before a0 Z = true := hw _ (List.mem_of_getElem? (i := 7) rfl)
theorem w8 {a0 : Array Value} {Z : State} (hw : Hw a0 Z) : ((Jvm.Cond.methodLink "com/example/spanforge/spanforge/json/NumberTextScanJsonPinLaw" (29 : Nat) ({ cls := "java/lang/String", name := "<init>", desc := "([C)V" } : Jvm.MethodName)) : Jvm.Cond).before a0 Z = true := hw _ (List.mem_of_getElem? (i := 8) rfl)
theorem w9 {a0 : Array Value} {Z : State} (hw : Hw a0 Z) : ((Jvm.Cond.instanceMethod ({ cls := "java/lang/String", name := "<init>", desc := "([C)V" } : Jvm.MethodName)) : Jvm.Cond).before a0 Z = true := hw _ (List.mem_of_getElem? (i := 9) rfl)
theorem w10 {a0 : Array Value} {Z : State} (hw : Hw a0 Z) : ((Jvm.Cond.code ({ cls := "java/lang/String", name := "<init>", desc := "([C)V" } : Jvm.MethodName) jdk_42_method_3_code (2 : Nat) (Option.none : Option Jvm.ClassFile.FieldType)) : Jvm.Cond).before a0 Z = true := hw _ (List.mem_of_getElem? (i := 10) rfl)
theorem w11 {a0 : Array Value} {Z : State} (hw : Hw a0 Z) : ((Jvm.Cond.methodLink "java/lang/String" (27 : Nat) ({ cls := "java/lang/String", name := "<init>", desc := "([CIILjava/lang/Void;)V" } : Jvm.MethodName)) : Jvm.Cond).before a0 Z = true := hw _ (List.mem_of_getElem? (i := 11) rfl)
theorem w12 {a0 : Array Value} {Z : State} (hw : Hw a0 Z) : ((Jvm.Cond.instanceMethod ({ cls := "java/lang/String", name := "<init>", desc := "([CIILjava/lang/Void;)V" } : Jvm.MethodName)) : Jvm.Cond).before a0 Z = true := hw _ (List.mem_of_getElem? (i := 12) rfl)
theorem w14 {a0 : Array Value} {Z : State} (hw : Hw a0 Z) : ((Jvm.Cond.code ({ cls := "java/lang/String", name := "<init>", desc := "([CIILjava/lang/Void;)V" } : Jvm.MethodName) jdk_42_method_149_code (6 : Nat) (Option.none : Option Jvm.ClassFile.FieldType)) : Jvm.Cond).before a0 Z = true := hw _ (List.mem_of_getElem? (i := 14) rfl)
theorem w15 {a0 : Array Value} {Z : State} (hw : Hw a0 Z) : ((Jvm.Cond.methodLink "java/lang/String" (1 : Nat) ({ cls := "java/lang/Object", name := "<init>", desc := "()V" } : Jvm.MethodName)) : Jvm.Cond).before a0 Z = true := hw _ (List.mem_of_getElem? (i := 15) rfl)
theorem w16 {a0 : Array Value} {Z : State} (hw : Hw a0 Z) : ((Jvm.Cond.instanceMethod ({ cls := "java/lang/Object", name := "<init>", desc := "()V" } : Jvm.MethodName)) : Jvm.Cond).before a0 Z = true := hw _ (List.mem_of_getElem? (i := 16) rfl)
theorem w17 {a0 : Array Value} {Z : State} (hw : Hw a0 Z) : ((Jvm.Cond.code ({ cls := "java/lang/Object", name := "<init>", desc := "()V" } : Jvm.MethodName) object_method_1_code (1 : Nat) (Option.none : Option Jvm.ClassFile.FieldType)) : Jvm.Cond).before a0 Z = true := hw _ (List.mem_of_getElem? (i := 17) rfl)
theorem w18 {a0 : Array Value} {Z : State} (hw : Hw a0 Z) : ((Jvm.Cond.fieldLink "java/lang/String" (38 : Nat) "java/lang/String" "COMPACT_STRINGS" "Z") : Jvm.Cond).before a0 Z = true := hw _ (List.mem_of_getElem? (i := 18) rfl)
theorem w19 {a0 : Array Value} {Z : State} (hw : Hw a0 Z) : ((Jvm.Cond.methodLink "java/lang/String" (177 : Nat) ({ cls := "java/lang/StringUTF16", name := "compress", desc := "([CII)[B" } : Jvm.MethodName)) : Jvm.Cond).before a0 Z = true := hw _ (List.mem_of_getElem? (i := 19) rfl)
theorem w20 {a0 : Array Value} {Z : State} (hw : Hw a0 Z) : ((Jvm.Cond.static ({ cls := "java/lang/StringUTF16", name := "compress", desc := "([CII)[B" } : Jvm.MethodName)) : Jvm.Cond).before a0 Z = true := hw _ (List.mem_of_getElem? (i := 20) rfl)
theorem w21 {a0 : Array Value} {Z : State} (hw : Hw a0 Z) : ((Jvm.Cond.initialized "java/lang/StringUTF16") : Jvm.Cond).before a0 Z = true := hw _ (List.mem_of_getElem? (i := 21) rfl)
theorem w22 {a0 : Array Value} {Z : State} (hw : Hw a0 Z) : ((Jvm.Cond.code ({ cls := "java/lang/StringUTF16", name := "compress", desc := "([CII)[B" } : Jvm.MethodName) jdk_52_method_16_code (6 : Nat) (Option.some (Jvm.ClassFile.FieldType.array Jvm.ClassFile.FieldType.byte))) : Jvm.Cond).before a0 Z = true := hw _ (List.mem_of_getElem? (i := 22) rfl)
theorem w23 {a0 : Array Value} {Z : State} (hw : Hw a0 Z) : ((Jvm.Cond.arrayClass Jvm.ClassFile.FieldType.byte) : Jvm.Cond).before a0 Z = true := hw _ (List.mem_of_getElem? (i := 23) rfl)
theorem w24 {a0 : Array Value} {Z : State} (hw : Hw a0 Z) : ((Jvm.Cond.methodLink "java/lang/StringUTF16" (115 : Nat) ({ cls := "java/lang/StringUTF16", name := "compress", desc := "([CI[BII)I" } : Jvm.MethodName)) : Jvm.Cond).before a0 Z = true := hw _ (List.mem_of_getElem? (i := 24) rfl)
theorem w25 {a0 : Array Value} {Z : State} (hw : Hw a0 Z) : ((Jvm.Cond.static ({ cls := "java/lang/StringUTF16", name := "compress", desc := "([CI[BII)I" } : Jvm.MethodName)) : Jvm.Cond).before a0 Z = true := hw _ (List.mem_of_getElem? (i := 25) rfl)
theorem w26 {a0 : Array Value} {Z : State} (hw : Hw a0 Z) : ((Jvm.Cond.code ({ cls := "java/lang/StringUTF16", name := "compress", desc := "([CI[BII)I" } : Jvm.MethodName) jdk_52_method_21_code (7 : Nat) (Option.some Jvm.ClassFile.FieldType.int)) : Jvm.Cond).before a0 Z = true := hw _ (List.mem_of_getElem? (i := 26) rfl)
theorem w27 {a0 : Array Value} {Z : State} (hw : Hw a0 Z) : ((Jvm.Cond.methodLink "java/lang/String" (47 : Nat) ({ cls := "java/lang/StringUTF16", name := "coderFromArrayLen", desc := "([BI)B" } : Jvm.MethodName)) : Jvm.Cond).before a0 Z = true := hw _ (List.mem_of_getElem? (i := 27) rfl)
theorem w28 {a0 : Array Value} {Z : State} (hw : Hw a0 Z) : ((Jvm.Cond.static ({ cls := "java/lang/StringUTF16", name := "coderFromArrayLen", desc := "([BI)B" } : Jvm.MethodName)) : Jvm.Cond).before a0 Z = true := hw _ (List.mem_of_getElem? (i := 28) rfl)
theorem w29 {a0 : Array Value} {Z : State} (hw : Hw a0 Z) : ((Jvm.Cond.code ({ cls := "java/lang/StringUTF16", name := "coderFromArrayLen", desc := "([BI)B" } : Jvm.MethodName) jdk_52_method_15_code (2 : Nat) (Option.some Jvm.ClassFile.FieldType.byte)) : Jvm.Cond).before a0 Z = true := hw _ (List.mem_of_getElem? (i := 29) rfl)
theorem w30 {a0 : Array Value} {Z : State} (hw : Hw a0 Z) : ((Jvm.Cond.fieldLink "java/lang/String" (15 : Nat) "java/lang/String" "coder" "B") : Jvm.Cond).before a0 Z = true := hw _ (List.mem_of_getElem? (i := 30) rfl)
theorem w31 {a0 : Array Value} {Z : State} (hw : Hw a0 Z) : ((Jvm.Cond.laysFinal "java/lang/String" "java/lang/String" "coder" "B") : Jvm.Cond).before a0 Z = true := hw _ (List.mem_of_getElem? (i := 31) rfl)
theorem w32 {a0 : Array Value} {Z : State} (hw : Hw a0 Z) : ((Jvm.Cond.fieldLink "java/lang/String" (9 : Nat) "java/lang/String" "value" "[B") : Jvm.Cond).before a0 Z = true := hw _ (List.mem_of_getElem? (i := 32) rfl)
theorem w33 {a0 : Array Value} {Z : State} (hw : Hw a0 Z) : ((Jvm.Cond.laysFinal "java/lang/String" "java/lang/String" "value" "[B") : Jvm.Cond).before a0 Z = true := hw _ (List.mem_of_getElem? (i := 33) rfl)
theorem w34 {a0 : Array Value} {Z : State} (hw : Hw a0 Z) : ((Jvm.Cond.methodLink "com/example/spanforge/spanforge/json/NumberTextScanJsonPinLaw" (32 : Nat) ({ cls := "com/example/spanforge/spanforge/json/NumberText", name := "scanJson", desc := "(Ljava/lang/CharSequence;I)I" } : Jvm.MethodName)) : Jvm.Cond).before a0 Z = true := hw _ (List.mem_of_getElem? (i := 34) rfl)
theorem w35 {a0 : Array Value} {Z : State} (hw : Hw a0 Z) : ((Jvm.Cond.static ({ cls := "com/example/spanforge/spanforge/json/NumberText", name := "scanJson", desc := "(Ljava/lang/CharSequence;I)I" } : Jvm.MethodName)) : Jvm.Cond).before a0 Z = true := hw _ (List.mem_of_getElem? (i := 35) rfl)
theorem w36 {a0 : Array Value} {Z : State} (hw : Hw a0 Z) : ((Jvm.Cond.initialized "com/example/spanforge/spanforge/json/NumberText") : Jvm.Cond).before a0 Z = true := hw _ (List.mem_of_getElem? (i := 36) rfl)
theorem w37 {a0 : Array Value} {Z : State} (hw : Hw a0 Z) : ((Jvm.Cond.code ({ cls := "com/example/spanforge/spanforge/json/NumberText", name := "scanJson", desc := "(Ljava/lang/CharSequence;I)I" } : Jvm.MethodName) prog_5_method_2_code (5 : Nat) (Option.some Jvm.ClassFile.FieldType.int)) : Jvm.Cond).before a0 Z = true := hw _ (List.mem_of_getElem? (i := 37) rfl)
theorem w38 {a0 : Array Value} {Z : State} (hw : Hw a0 Z) : ((Jvm.Cond.methodLink "com/example/spanforge/spanforge/json/NumberText" (7 : Nat) ({ cls := "java/lang/CharSequence", name := "length", desc := "()I" } : Jvm.MethodName)) : Jvm.Cond).before a0 Z = true := hw _ (List.mem_of_getElem? (i := 38) rfl)
theorem w39 {a0 : Array Value} {Z : State} (hw : Hw a0 Z) : ((Jvm.Cond.declares ({ cls := "java/lang/CharSequence", name := "length", desc := "()I" } : Jvm.MethodName)) : Jvm.Cond).before a0 Z = true := hw _ (List.mem_of_getElem? (i := 39) rfl)
theorem w40 {a0 : Array Value} {Z : State} (hw : Hw a0 Z) : ((Jvm.Cond.interfaceMethod "java/lang/CharSequence" "java/lang/CharSequence" "length" "()I") : Jvm.Cond).before a0 Z = true := hw _ (List.mem_of_getElem? (i := 40) rfl)
theorem w41 {a0 : Array Value} {Z : State} (hw : Hw a0 Z) : ((Jvm.Cond.selects "java/lang/String" ({ cls := "java/lang/CharSequence", name := "length", desc := "()I" } : Jvm.MethodName) ({ cls := "java/lang/String", name := "length", desc := "()I" } : Jvm.MethodName)) : Jvm.Cond).before a0 Z = true := hw _ (List.mem_of_getElem? (i := 41) rfl)
theorem w42 {a0 : Array Value} {Z : State} (hw : Hw a0 Z) : ((Jvm.Cond.instanceMethod ({ cls := "java/lang/String", name := "length", desc := "()I" } : Jvm.MethodName)) : Jvm.Cond).before a0 Z = true := hw _ (List.mem_of_getElem? (i := 42) rfl)
theorem w43 {a0 : Array Value} {Z : State} (hw : Hw a0 Z) : ((Jvm.Cond.publicMethod ({ cls := "java/lang/String", name := "length", desc := "()I" } : Jvm.MethodName)) : Jvm.Cond).before a0 Z = true := hw _ (List.mem_of_getElem? (i := 43) rfl)
theorem w44 {a0 : Array Value} {Z : State} (hw : Hw a0 Z) : ((Jvm.Cond.unhidden "java/lang/String" "length" "()I") : Jvm.Cond).before a0 Z = true := hw _ (List.mem_of_getElem? (i := 44) rfl)
theorem w45 {a0 : Array Value} {Z : State} (hw : Hw a0 Z) : ((Jvm.Cond.castable "java/lang/String" "java/lang/CharSequence") : Jvm.Cond).before a0 Z = true := hw _ (List.mem_of_getElem? (i := 45) rfl)
theorem w46 {a0 : Array Value} {Z : State} (hw : Hw a0 Z) : ((Jvm.Cond.code ({ cls := "java/lang/String", name := "length", desc := "()I" } : Jvm.MethodName) jdk_42_method_54_code (1 : Nat) (Option.some Jvm.ClassFile.FieldType.int)) : Jvm.Cond).before a0 Z = true := hw _ (List.mem_of_getElem? (i := 46) rfl)
theorem w47 {a0 : Array Value} {Z : State} (hw : Hw a0 Z) : ((Jvm.Cond.methodLink "java/lang/String" (335 : Nat) ({ cls := "java/lang/String", name := "coder", desc := "()B" } : Jvm.MethodName)) : Jvm.Cond).before a0 Z = true := hw _ (List.mem_of_getElem? (i := 47) rfl)
theorem w48 {a0 : Array Value} {Z : State} (hw : Hw a0 Z) : ((Jvm.Cond.declares ({ cls := "java/lang/String", name := "coder", desc := "()B" } : Jvm.MethodName)) : Jvm.Cond).before a0 Z = true := hw _ (List.mem_of_getElem? (i := 48) rfl)
theorem w49 {a0 : Array Value} {Z : State} (hw : Hw a0 Z) : ((Jvm.Cond.instanceMethod ({ cls := "java/lang/String", name := "coder", desc := "()B" } : Jvm.MethodName)) : Jvm.Cond).before a0 Z = true := hw _ (List.mem_of_getElem? (i := 49) rfl)
theorem w50 {a0 : Array Value} {Z : State} (hw : Hw a0 Z) : ((Jvm.Cond.selects "java/lang/String" ({ cls := "java/lang/String", name := "coder", desc := "()B" } : Jvm.MethodName) ({ cls := "java/lang/String", name := "coder", desc := "()B" } : Jvm.MethodName)) : Jvm.Cond).before a0 Z = true := hw _ (List.mem_of_getElem? (i := 50) rfl)
theorem w51 {a0 : Array Value} {Z : State} (hw : Hw a0 Z) : ((Jvm.Cond.code ({ cls := "java/lang/String", name := "coder", desc := "()B" } : Jvm.MethodName) jdk_42_method_152_code (1 : Nat) (Option.some Jvm.ClassFile.FieldType.byte)) : Jvm.Cond).before a0 Z = true := hw _ (List.mem_of_getElem? (i := 51) rfl)
theorem w52 {a0 : Array Value} {Z : State} (hw : Hw a0 Z) : ((Jvm.Cond.methodLink "com/example/spanforge/spanforge/json/NumberText" (13 : Nat) ({ cls := "java/lang/CharSequence", name := "charAt", desc := "(I)C" } : Jvm.MethodName)) : Jvm.Cond).before a0 Z = true := hw _ (List.mem_of_getElem? (i := 52) rfl)
theorem w53 {a0 : Array Value} {Z : State} (hw : Hw a0 Z) : ((Jvm.Cond.declares ({ cls := "java/lang/CharSequence", name := "charAt", desc := "(I)C" } : Jvm.MethodName)) : Jvm.Cond).before a0 Z = true := hw _ (List.mem_of_getElem? (i := 53) rfl)
theorem w54 {a0 : Array Value} {Z : State} (hw : Hw a0 Z) : ((Jvm.Cond.interfaceMethod "java/lang/CharSequence" "java/lang/CharSequence" "charAt" "(I)C") : Jvm.Cond).before a0 Z = true := hw _ (List.mem_of_getElem? (i := 54) rfl)
theorem w55 {a0 : Array Value} {Z : State} (hw : Hw a0 Z) : ((Jvm.Cond.selects "java/lang/String" ({ cls := "java/lang/CharSequence", name := "charAt", desc := "(I)C" } : Jvm.MethodName) ({ cls := "java/lang/String", name := "charAt", desc := "(I)C" } : Jvm.MethodName)) : Jvm.Cond).before a0 Z = true := hw _ (List.mem_of_getElem? (i := 55) rfl)
theorem w56 {a0 : Array Value} {Z : State} (hw : Hw a0 Z) : ((Jvm.Cond.instanceMethod ({ cls := "java/lang/String", name := "charAt", desc := "(I)C" } : Jvm.MethodName)) : Jvm.Cond).before a0 Z = true := hw _ (List.mem_of_getElem? (i := 56) rfl)
theorem w57 {a0 : Array Value} {Z : State} (hw : Hw a0 Z) : ((Jvm.Cond.publicMethod ({ cls := "java/lang/String", name := "charAt", desc := "(I)C" } : Jvm.MethodName)) : Jvm.Cond).before a0 Z = true := hw _ (List.mem_of_getElem? (i := 57) rfl)
theorem w58 {a0 : Array Value} {Z : State} (hw : Hw a0 Z) : ((Jvm.Cond.unhidden "java/lang/String" "charAt" "(I)C") : Jvm.Cond).before a0 Z = true := hw _ (List.mem_of_getElem? (i := 58) rfl)
theorem w59 {a0 : Array Value} {Z : State} (hw : Hw a0 Z) : ((Jvm.Cond.code ({ cls := "java/lang/String", name := "charAt", desc := "(I)C" } : Jvm.MethodName) jdk_42_method_56_code (2 : Nat) (Option.some Jvm.ClassFile.FieldType.char)) : Jvm.Cond).before a0 Z = true := hw _ (List.mem_of_getElem? (i := 59) rfl)
theorem w60 {a0 : Array Value} {Z : State} (hw : Hw a0 Z) : ((Jvm.Cond.methodLink "java/lang/String" (492 : Nat) ({ cls := "java/lang/String", name := "isLatin1", desc := "()Z" } : Jvm.MethodName)) : Jvm.Cond).before a0 Z = true := hw _ (List.mem_of_getElem? (i := 60) rfl)
theorem w61 {a0 : Array Value} {Z : State} (hw : Hw a0 Z) : ((Jvm.Cond.declares ({ cls := "java/lang/String", name := "isLatin1", desc := "()Z" } : Jvm.MethodName)) : Jvm.Cond).before a0 Z = true := hw _ (List.mem_of_getElem? (i := 61) rfl)
theorem w62 {a0 : Array Value} {Z : State} (hw : Hw a0 Z) : ((Jvm.Cond.instanceMethod ({ cls := "java/lang/String", name := "isLatin1", desc := "()Z" } : Jvm.MethodName)) : Jvm.Cond).before a0 Z = true := hw _ (List.mem_of_getElem? (i := 62) rfl)
theorem w63 {a0 : Array Value} {Z : State} (hw : Hw a0 Z) : ((Jvm.Cond.selects "java/lang/String" ({ cls := "java/lang/String", name := "isLatin1", desc := "()Z" } : Jvm.MethodName) ({ cls := "java/lang/String", name := "isLatin1", desc := "()Z" } : Jvm.MethodName)) : Jvm.Cond).before a0 Z = true := hw _ (List.mem_of_getElem? (i := 63) rfl)
theorem w64 {a0 : Array Value} {Z : State} (hw : Hw a0 Z) : ((Jvm.Cond.code ({ cls := "java/lang/String", name := "isLatin1", desc := "()Z" } : Jvm.MethodName) jdk_42_method_154_code (1 : Nat) (Option.some Jvm.ClassFile.FieldType.boolean)) : Jvm.Cond).before a0 Z = true := hw _ (List.mem_of_getElem? (i := 64) rfl)
theorem w65 {a0 : Array Value} {Z : State} (hw : Hw a0 Z) : ((Jvm.Cond.methodLink "java/lang/String" (495 : Nat) ({ cls := "java/lang/StringLatin1", name := "charAt", desc := "([BI)C" } : Jvm.MethodName)) : Jvm.Cond).before a0 Z = true := hw _ (List.mem_of_getElem? (i := 65) rfl)
theorem w66 {a0 : Array Value} {Z : State} (hw : Hw a0 Z) : ((Jvm.Cond.static ({ cls := "java/lang/StringLatin1", name := "charAt", desc := "([BI)C" } : Jvm.MethodName)) : Jvm.Cond).before a0 Z = true := hw _ (List.mem_of_getElem? (i := 66) rfl)
theorem w67 {a0 : Array Value} {Z : State} (hw : Hw a0 Z) : ((Jvm.Cond.initialized "java/lang/StringLatin1") : Jvm.Cond).before a0 Z = true := hw _ (List.mem_of_getElem? (i := 67) rfl)
theorem w68 {a0 : Array Value} {Z : State} (hw : Hw a0 Z) : ((Jvm.Cond.code ({ cls := "java/lang/StringLatin1", name := "charAt", desc := "([BI)C" } : Jvm.MethodName) jdk_43_method_2_code (2 : Nat) (Option.some Jvm.ClassFile.FieldType.char)) : Jvm.Cond).before a0 Z = true := hw _ (List.mem_of_getElem? (i := 68) rfl)
theorem w69 {a0 : Array Value} {Z : State} (hw : Hw a0 Z) : ((Jvm.Cond.methodLink "java/lang/StringLatin1" (9 : Nat) ({ cls := "java/lang/String", name := "checkIndex", desc := "(II)V" } : Jvm.MethodName)) : Jvm.Cond).before a0 Z = true := hw _ (List.mem_of_getElem? (i := 69) rfl)
theorem w70 {a0 : Array Value} {Z : State} (hw : Hw a0 Z) : ((Jvm.Cond.static ({ cls := "java/lang/String", name := "checkIndex", desc := "(II)V" } : Jvm.MethodName)) : Jvm.Cond).before a0 Z = true := hw _ (List.mem_of_getElem? (i := 70) rfl)
theorem w71 {a0 : Array Value} {Z : State} (hw : Hw a0 Z) : ((Jvm.Cond.code ({ cls := "java/lang/String", name := "checkIndex", desc := "(II)V" } : Jvm.MethodName) jdk_42_method_155_code (2 : Nat) (Option.none : Option Jvm.ClassFile.FieldType)) : Jvm.Cond).before a0 Z = true := hw _ (List.mem_of_getElem? (i := 71) rfl)
theorem w72 {a0 : Array Value} {Z : State} (hw : Hw a0 Z) : ((Jvm.Cond.fieldLink "java/lang/String" (1053 : Nat) "jdk/internal/util/Preconditions" "SIOOBE_FORMATTER" "Ljava/util/function/BiFunction;") : Jvm.Cond).before a0 Z = true := hw _ (List.mem_of_getElem? (i := 72) rfl)
theorem w73 {a0 : Array Value} {Z : State} (hw : Hw a0 Z) : ((Jvm.Cond.initialized "jdk/internal/util/Preconditions") : Jvm.Cond).before a0 Z = true := hw _ (List.mem_of_getElem? (i := 73) rfl)
theorem w74 {a0 : Array Value} {Z : State} (hw : Hw a0 Z) : ((Jvm.Cond.methodLink "java/lang/String" (1059 : Nat) ({ cls := "jdk/internal/util/Preconditions", name := "checkIndex", desc := "(IILjava/util/function/BiFunction;)I" } : Jvm.MethodName)) : Jvm.Cond).before a0 Z = true := hw _ (List.mem_of_getElem? (i := 74) rfl)
theorem w75 {a0 : Array Value} {Z : State} (hw : Hw a0 Z) : ((Jvm.Cond.static ({ cls := "jdk/internal/util/Preconditions", name := "checkIndex", desc := "(IILjava/util/function/BiFunction;)I" } : Jvm.MethodName)) : Jvm.Cond).before a0 Z = true := hw _ (List.mem_of_getElem? (i := 75) rfl)
theorem w76 {a0 : Array Value} {Z : State} (hw : Hw a0 Z) : ((Jvm.Cond.code ({ cls := "jdk/internal/util/Preconditions", name := "checkIndex", desc := "(IILjava/util/function/BiFunction;)I" } : Jvm.MethodName) jdk_41_method_11_code (3 : Nat) (Option.some Jvm.ClassFile.FieldType.int)) : Jvm.Cond).before a0 Z = true := hw _ (List.mem_of_getElem? (i := 76) rfl)
theorem w77 {a0 : Array Value} {Z : State} (hw : Hw a0 Z) : ((Jvm.Cond.methodLink "com/example/spanforge/spanforge/json/NumberTextScanJsonPinLaw" (23 : Nat) ({ cls := "com/example/spanforge/spanforge/json/NumberTextScanJsonPinLaw", name := "dg", desc := "(JI)C" } : Jvm.MethodName)) : Jvm.Cond).before a0 Z = true := hw _ (List.mem_of_getElem? (i := 77) rfl)
theorem w78 {a0 : Array Value} {Z : State} (hw : Hw a0 Z) : ((Jvm.Cond.static ({ cls := "com/example/spanforge/spanforge/json/NumberTextScanJsonPinLaw", name := "dg", desc := "(JI)C" } : Jvm.MethodName)) : Jvm.Cond).before a0 Z = true := hw _ (List.mem_of_getElem? (i := 78) rfl)
theorem w79 {a0 : Array Value} {Z : State} (hw : Hw a0 Z) : ((Jvm.Cond.code ({ cls := "com/example/spanforge/spanforge/json/NumberTextScanJsonPinLaw", name := "dg", desc := "(JI)C" } : Jvm.MethodName) method_3_code (3 : Nat) (Option.some Jvm.ClassFile.FieldType.char)) : Jvm.Cond).before a0 Z = true := hw _ (List.mem_of_getElem? (i := 79) rfl)
theorem w80 {a0 : Array Value} {Z : State} (hw : Hw a0 Z) : ((Jvm.Cond.constantLong "com/example/spanforge/spanforge/json/NumberTextScanJsonPinLaw" (7 : Nat) (255 : Int64)) : Jvm.Cond).before a0 Z = true := hw _ (List.mem_of_getElem? (i := 80) rfl)
theorem w81 {a0 : Array Value} {Z : State} (hw : Hw a0 Z) : ((Jvm.Cond.constantLong "com/example/spanforge/spanforge/json/NumberTextScanJsonPinLaw" (9 : Nat) (10 : Int64)) : Jvm.Cond).before a0 Z = true := hw _ (List.mem_of_getElem? (i := 81) rfl)
theorem w82 {a0 : Array Value} {Z : State} (hw : Hw a0 Z) : ((Jvm.Cond.methodLink "com/example/spanforge/spanforge/json/NumberText" (17 : Nat) ({ cls := "com/example/spanforge/spanforge/json/NumberText", name := "isDigit", desc := "(C)Z" } : Jvm.MethodName)) : Jvm.Cond).before a0 Z = true := hw _ (List.mem_of_getElem? (i := 82) rfl)
theorem w83 {a0 : Array Value} {Z : State} (hw : Hw a0 Z) : ((Jvm.Cond.static ({ cls := "com/example/spanforge/spanforge/json/NumberText", name := "isDigit", desc := "(C)Z" } : Jvm.MethodName)) : Jvm.Cond).before a0 Z = true := hw _ (List.mem_of_getElem? (i := 83) rfl)
theorem w84 {a0 : Array Value} {Z : State} (hw : Hw a0 Z) : ((Jvm.Cond.code ({ cls := "com/example/spanforge/spanforge/json/NumberText", name := "isDigit", desc := "(C)Z" } : Jvm.MethodName) prog_5_method_3_code (1 : Nat) (Option.some Jvm.ClassFile.FieldType.boolean)) : Jvm.Cond).before a0 Z = true := hw _ (List.mem_of_getElem? (i := 84) rfl)
theorem w85 {a0 : Array Value} {Z : State} (hw : Hw a0 Z) : ((Jvm.Cond.methodLink "com/example/spanforge/spanforge/json/NumberText" (23 : Nat) ({ cls := "com/example/spanforge/spanforge/json/NumberText", name := "skipDigits", desc := "(Ljava/lang/CharSequence;I)I" } : Jvm.MethodName)) : Jvm.Cond).before a0 Z = true := hw _ (List.mem_of_getElem? (i := 85) rfl)
theorem w86 {a0 : Array Value} {Z : State} (hw : Hw a0 Z) : ((Jvm.Cond.static ({ cls := "com/example/spanforge/spanforge/json/NumberText", name := "skipDigits", desc := "(Ljava/lang/CharSequence;I)I" } : Jvm.MethodName)) : Jvm.Cond).before a0 Z = true := hw _ (List.mem_of_getElem? (i := 86) rfl)
theorem w87 {a0 : Array Value} {Z : State} (hw : Hw a0 Z) : ((Jvm.Cond.code ({ cls := "com/example/spanforge/spanforge/json/NumberText", name := "skipDigits", desc := "(Ljava/lang/CharSequence;I)I" } : Jvm.MethodName) prog_5_method_4_code (3 : Nat) (Option.some Jvm.ClassFile.FieldType.int)) : Jvm.Cond).before a0 Z = true := hw _ (List.mem_of_getElem? (i := 87) rfl)
theorem w88 {a0 : Array Value} {Z : State} (hw : Hw a0 Z) : ((Jvm.Cond.methodLink "com/example/spanforge/spanforge/json/NumberTextScanJsonPinLaw" (19 : Nat) ({ cls := "com/example/spanforge/spanforge/json/NumberTextScanJsonPinLaw", name := "nz", desc := "(J)C" } : Jvm.MethodName)) : Jvm.Cond).before a0 Z = true := hw _ (List.mem_of_getElem? (i := 88) rfl)
theorem w89 {a0 : Array Value} {Z : State} (hw : Hw a0 Z) : ((Jvm.Cond.static ({ cls := "com/example/spanforge/spanforge/json/NumberTextScanJsonPinLaw", name := "nz", desc := "(J)C" } : Jvm.MethodName)) : Jvm.Cond).before a0 Z = true := hw _ (List.mem_of_getElem? (i := 89) rfl)
theorem w90 {a0 : Array Value} {Z : State} (hw : Hw a0 Z) : ((Jvm.Cond.code ({ cls := "com/example/spanforge/spanforge/json/NumberTextScanJsonPinLaw", name := "nz", desc := "(J)C" } : Jvm.MethodName) method_4_code (2 : Nat) (Option.some Jvm.ClassFile.FieldType.char)) : Jvm.Cond).before a0 Z = true := hw _ (List.mem_of_getElem? (i := 90) rfl)
theorem w91 {a0 : Array Value} {Z : State} (hw : Hw a0 Z) : ((Jvm.Cond.constantLong "com/example/spanforge/spanforge/json/NumberTextScanJsonPinLaw" (11 : Nat) (9 : Int64)) : Jvm.Cond).before a0 Z = true := hw _ (List.mem_of_getElem? (i := 91) rfl)
theorem pn0 : plainFor x = true := plainFor_of_name (show plainName "com/example/spanforge/spanforge/json/NumberTextScanJsonPinLaw" = true by first | (simp [plainName, overriddenIn]; done) | decide +kernel)
theorem pd0 : parseMethodDescriptor "(IJII)Z" = some ⟨[.int, .long, .int, .int], some .boolean⟩ := by decide +kernel
theorem d1_0 : decode method_2_code 0 = .ok (.iload_n 0, 1) := by decide +kernel
theorem d1_1 : decode method_2_code 1 = .ok (.bipush 48, 2) := by decide +kernel
theorem d1_3 : decode method_2_code 3 = .ok (.if_icmp .lt 13, 3) := by decide +kernel
theorem d1_6 : decode method_2_code 6 = .ok (.iload_n 0, 1) := by decide +kernel
theorem d1_7 : decode method_2_code 7 = .ok (.bipush 57, 2) := by decide +kernel
theorem d1_9 : decode method_2_code 9 = .ok (.if_icmp .gt 7, 3) := by decide +kernel
theorem d1_12 : decode method_2_code 12 = .ok (.iconst 1, 1) := by decide +kernel
theorem d1_13 : decode method_2_code 13 = .ok (.goto 4, 3) := by decide +kernel
theorem d1_16 : decode method_2_code 16 = .ok (.iconst 0, 1) := by decide +kernel
theorem d1_17 : decode method_2_code 17 = .ok (.ireturn, 1) := by decide +kernel
theorem pn1 : plainFor (⟨"com/example/spanforge/spanforge/json/NumberTextScanJsonPinLaw", "isDig", "(C)Z"⟩ : MethodName) = true := plainFor_of_name (show plainName "com/example/spanforge/spanforge/json/NumberTextScanJsonPinLaw" = true by first | (simp [plainName, overriddenIn]; done) | decide +kernel)
theorem pd1 : parseMethodDescriptor "(C)Z" = some ⟨[.char], (some .boolean)⟩ := by decide +kernel
theorem d2_0 : decode jdk_42_method_3_code 0 = .ok (.aload_n 0, 1) := by decide +kernel
theorem d2_1 : decode jdk_42_method_3_code 1 = .ok (.aload_n 1, 1) := by decide +kernel
theorem d2_2 : decode jdk_42_method_3_code 2 = .ok (.iconst 0, 1) := by decide +kernel
theorem d2_3 : decode jdk_42_method_3_code 3 = .ok (.aload_n 1, 1) := by decide +kernel
theorem d2_4 : decode jdk_42_method_3_code 4 = .ok (.arraylength, 1) := by decide +kernel
theorem d2_5 : decode jdk_42_method_3_code 5 = .ok (.aconst_null, 1) := by decide +kernel
theorem d2_6 : decode jdk_42_method_3_code 6 = .ok (.invokespecial 27, 3) := by decide +kernel
theorem d2_9 : decode jdk_42_method_3_code 9 = .ok (.return_, 1) := by decide +kernel
theorem pn2 : plainFor (⟨"java/lang/String", "<init>", "([C)V"⟩ : MethodName) = true := plainFor_of_name (show plainName "java/lang/String" = true by first | (simp [plainName, overriddenIn]; done) | decide +kernel)
theorem pd2 : parseMethodDescriptor "([C)V" = some ⟨[(.array .char)], none⟩ := by decide +kernel
theorem d3_0 : decode jdk_42_method_149_code 0 = .ok (.aload_n 0, 1) := by decide +kernel
theorem d3_1 : decode jdk_42_method_149_code 1 = .ok (.invokespecial 1, 3) := by decide +kernel
theorem d3_4 : decode jdk_42_method_149_code 4 = .ok (.iload_n 3, 1) := by decide +kernel
theorem d3_5 : decode jdk_42_method_149_code 5 = .ok (.ifCond .ne 22, 3) := by decide +kernel
theorem d3_27 : decode jdk_42_method_149_code 27 = .ok (.getstatic 38, 3) := by decide +kernel
theorem d3_30 : decode jdk_42_method_149_code 30 = .ok (.ifCond .eq 28, 3) := by decide +kernel
theorem d3_33 : decode jdk_42_method_149_code 33 = .ok (.aload_n 1, 1) := by decide +kernel
theorem d3_34 : decode jdk_42_method_149_code 34 = .ok (.iload_n 2, 1) := by decide +kernel
theorem d3_35 : decode jdk_42_method_149_code 35 = .ok (.iload_n 3, 1) := by decide +kernel
theorem d3_36 : decode jdk_42_method_149_code 36 = .ok (.invokestatic 177, 3) := by decide +kernel
theorem d3_39 : decode jdk_42_method_149_code 39 = .ok (.astore 5, 2) := by decide +kernel
theorem d3_41 : decode jdk_42_method_149_code 41 = .ok (.aload_n 0, 1) := by decide +kernel
theorem d3_42 : decode jdk_42_method_149_code 42 = .ok (.aload 5, 2) := by decide +kernel
theorem d3_44 : decode jdk_42_method_149_code 44 = .ok (.iload_n 3, 1) := by decide +kernel
theorem d3_45 : decode jdk_42_method_149_code 45 = .ok (.invokestatic 47, 3) := by decide +kernel
theorem d3_48 : decode jdk_42_method_149_code 48 = .ok (.putfield 15, 3) := by decide +kernel
theorem d3_51 : decode jdk_42_method_149_code 51 = .ok (.aload_n 0, 1) := by decide +kernel
theorem d3_52 : decode jdk_42_method_149_code 52 = .ok (.aload 5, 2) := by decide +kernel
theorem d3_54 : decode jdk_42_method_149_code 54 = .ok (.putfield 9, 3) := by decide +kernel
theorem d3_57 : decode jdk_42_method_149_code 57 = .ok (.return_, 1) := by decide +kernel
theorem pn3 : plainFor (⟨"java/lang/String", "<init>", "([CIILjava/lang/Void;)V"⟩ : MethodName) = true := plainFor_of_name (show plainName "java/lang/String" = true by first | (simp [plainName, overriddenIn]; done) | decide +kernel)
theorem pd3 : parseMethodDescriptor "([CIILjava/lang/Void;)V" = some ⟨[(.array .char), .int, .int, (.object "java/lang/Void")], none⟩ := by decide +kernel
theorem d5_0 : decode jdk_52_method_16_code 0 = .ok (.iload_n 2, 1) := by decide +kernel
theorem d5_1 : decode jdk_52_method_16_code 1 = .ok (.newarray .byte, 2) := by decide +kernel
theorem d5_3 : decode jdk_52_method_16_code 3 = .ok (.astore_n 3, 1) := by decide +kernel
theorem d5_4 : decode jdk_52_method_16_code 4 = .ok (.aload_n 0, 1) := by decide +kernel
theorem d5_5 : decode jdk_52_method_16_code 5 = .ok (.iload_n 1, 1) := by decide +kernel
theorem d5_6 : decode jdk_52_method_16_code 6 = .ok (.aload_n 3, 1) := by decide +kernel
theorem d5_7 : decode jdk_52_method_16_code 7 = .ok (.iconst 0, 1) := by decide +kernel
theorem d5_8 : decode jdk_52_method_16_code 8 = .ok (.iload_n 2, 1) := by decide +kernel
theorem d5_9 : decode jdk_52_method_16_code 9 = .ok (.invokestatic 115, 3) := by decide +kernel
theorem d5_12 : decode jdk_52_method_16_code 12 = .ok (.istore 4, 2) := by decide +kernel
theorem d5_14 : decode jdk_52_method_16_code 14 = .ok (.iload 4, 2) := by decide +kernel
theorem d5_16 : decode jdk_52_method_16_code 16 = .ok (.iload_n 2, 1) := by decide +kernel
theorem d5_17 : decode jdk_52_method_16_code 17 = .ok (.if_icmp .eq 40, 3) := by decide +kernel
theorem d5_57 : decode jdk_52_method_16_code 57 = .ok (.aload_n 3, 1) := by decide +kernel
theorem d5_58 : decode jdk_52_method_16_code 58 = .ok (.areturn, 1) := by decide +kernel
theorem pn5 : plainFor (⟨"java/lang/StringUTF16", "compress", "([CII)[B"⟩ : MethodName) = true := plainFor_of_name (show plainName "java/lang/StringUTF16" = true by first | (simp [plainName, overriddenIn]; done) | decide +kernel)
theorem pd5 : parseMethodDescriptor "([CII)[B" = some ⟨[(.array .char), .int, .int], (some (.array .byte))⟩ := by decide +kernel
theorem d6_0 : decode jdk_52_method_21_code 0 = .ok (.iconst 0, 1) := by decide +kernel
theorem d6_1 : decode jdk_52_method_21_code 1 = .ok (.istore 5, 2) := by decide +kernel
theorem d6_3 : decode jdk_52_method_21_code 3 = .ok (.iload 5, 2) := by decide +kernel
theorem d6_5 : decode jdk_52_method_21_code 5 = .ok (.iload 4, 2) := by decide +kernel
theorem d6_7 : decode jdk_52_method_21_code 7 = .ok (.if_icmp .ge 37, 3) := by decide +kernel
theorem d6_10 : decode jdk_52_method_21_code 10 = .ok (.aload_n 0, 1) := by decide +kernel
theorem d6_11 : decode jdk_52_method_21_code 11 = .ok (.iload_n 1, 1) := by decide +kernel
theorem d6_12 : decode jdk_52_method_21_code 12 = .ok (.caload, 1) := by decide +kernel
theorem d6_13 : decode jdk_52_method_21_code 13 = .ok (.istore 6, 2) := by decide +kernel
theorem d6_15 : decode jdk_52_method_21_code 15 = .ok (.iload 6, 2) := by decide +kernel
theorem d6_17 : decode jdk_52_method_21_code 17 = .ok (.sipush 255, 3) := by decide +kernel
theorem d6_20 : decode jdk_52_method_21_code 20 = .ok (.if_icmp .le 6, 3) := by decide +kernel
theorem d6_26 : decode jdk_52_method_21_code 26 = .ok (.aload_n 2, 1) := by decide +kernel
theorem d6_27 : decode jdk_52_method_21_code 27 = .ok (.iload_n 3, 1) := by decide +kernel
theorem d6_28 : decode jdk_52_method_21_code 28 = .ok (.iload 6, 2) := by decide +kernel
theorem d6_30 : decode jdk_52_method_21_code 30 = .ok (.i2b, 1) := by decide +kernel
theorem d6_31 : decode jdk_52_method_21_code 31 = .ok (.bastore, 1) := by decide +kernel
theorem d6_32 : decode jdk_52_method_21_code 32 = .ok (.iinc 1 1, 3) := by decide +kernel
theorem d6_35 : decode jdk_52_method_21_code 35 = .ok (.iinc 3 1, 3) := by decide +kernel
theorem d6_38 : decode jdk_52_method_21_code 38 = .ok (.iinc 5 1, 3) := by decide +kernel
theorem d6_41 : decode jdk_52_method_21_code 41 = .ok (.goto (-38), 3) := by decide +kernel
theorem d6_44 : decode jdk_52_method_21_code 44 = .ok (.iload 4, 2) := by decide +kernel
theorem d6_46 : decode jdk_52_method_21_code 46 = .ok (.ireturn, 1) := by decide +kernel
theorem pn6 : plainFor (⟨"java/lang/StringUTF16", "compress", "([CI[BII)I"⟩ : MethodName) = true := plainFor_of_name (show plainName "java/lang/StringUTF16" = true by first | (simp [plainName, overriddenIn]; done) | decide +kernel)
theorem pd6 : parseMethodDescriptor "([CI[BII)I" = some ⟨[(.array .char), .int, (.array .byte), .int, .int], (some .int)⟩ := by decide +kernel
theorem d7_0 : decode jdk_52_method_15_code 0 = .ok (.iload_n 1, 1) := by decide +kernel
theorem d7_1 : decode jdk_52_method_15_code 1 = .ok (.aload_n 0, 1) := by decide +kernel
theorem d7_2 : decode jdk_52_method_15_code 2 = .ok (.arraylength, 1) := by decide +kernel
theorem d7_3 : decode jdk_52_method_15_code 3 = .ok (.isub, 1) := by decide +kernel
theorem d7_4 : decode jdk_52_method_15_code 4 = .ok (.bipush 31, 2) := by decide +kernel
theorem d7_6 : decode jdk_52_method_15_code 6 = .ok (.iushr, 1) := by decide +kernel
theorem d7_7 : decode jdk_52_method_15_code 7 = .ok (.i2b, 1) := by decide +kernel
theorem d7_8 : decode jdk_52_method_15_code 8 = .ok (.ireturn, 1) := by decide +kernel
theorem pn7 : plainFor (⟨"java/lang/StringUTF16", "coderFromArrayLen", "([BI)B"⟩ : MethodName) = true := plainFor_of_name (show plainName "java/lang/StringUTF16" = true by first | (simp [plainName, overriddenIn]; done) | decide +kernel)
theorem pd7 : parseMethodDescriptor "([BI)B" = some ⟨[(.array .byte), .int], (some .byte)⟩ := by decide +kernel
theorem d8_0 : decode prog_5_method_2_code 0 = .ok (.iload_n 1, 1) := by decide +kernel
theorem d8_1 : decode prog_5_method_2_code 1 = .ok (.istore_n 2, 1) := by decide +kernel
theorem d8_2 : decode prog_5_method_2_code 2 = .ok (.iload_n 2, 1) := by decide +kernel
theorem d8_3 : decode prog_5_method_2_code 3 = .ok (.aload_n 0, 1) := by decide +kernel
theorem d8_4 : decode prog_5_method_2_code 4 = .ok (.invokeinterface 7 1, 5) := by decide +kernel
theorem d8_9 : decode prog_5_method_2_code 9 = .ok (.if_icmp .ge 18, 3) := by decide +kernel
theorem d8_12 : decode prog_5_method_2_code 12 = .ok (.aload_n 0, 1) := by decide +kernel
theorem d8_13 : decode prog_5_method_2_code 13 = .ok (.iload_n 2, 1) := by decide +kernel
theorem d8_14 : decode prog_5_method_2_code 14 = .ok (.invokeinterface 13 2, 5) := by decide +kernel
theorem d8_19 : decode prog_5_method_2_code 19 = .ok (.bipush 45, 2) := by decide +kernel
theorem d8_21 : decode prog_5_method_2_code 21 = .ok (.if_icmp .ne 6, 3) := by decide +kernel
theorem d8_24 : decode prog_5_method_2_code 24 = .ok (.iinc 2 1, 3) := by decide +kernel
theorem d8_27 : decode prog_5_method_2_code 27 = .ok (.iload_n 2, 1) := by decide +kernel
theorem d8_28 : decode prog_5_method_2_code 28 = .ok (.aload_n 0, 1) := by decide +kernel
theorem d8_29 : decode prog_5_method_2_code 29 = .ok (.invokeinterface 7 1, 5) := by decide +kernel
theorem d8_34 : decode prog_5_method_2_code 34 = .ok (.if_icmp .ge 21, 3) := by decide +kernel
theorem d8_37 : decode prog_5_method_2_code 37 = .ok (.aload_n 0, 1) := by decide +kernel
theorem d8_38 : decode prog_5_method_2_code 38 = .ok (.iload_n 2, 1) := by decide +kernel
theorem d8_39 : decode prog_5_method_2_code 39 = .ok (.invokeinterface 13 2, 5) := by decide +kernel
theorem d8_44 : decode prog_5_method_2_code 44 = .ok (.bipush 48, 2) := by decide +kernel
theorem d8_46 : decode prog_5_method_2_code 46 = .ok (.if_icmp .ne 9, 3) := by decide +kernel
theorem d8_49 : decode prog_5_method_2_code 49 = .ok (.iinc 2 1, 3) := by decide +kernel
theorem d8_52 : decode prog_5_method_2_code 52 = .ok (.goto 37, 3) := by decide +kernel
theorem d8_55 : decode prog_5_method_2_code 55 = .ok (.iload_n 2, 1) := by decide +kernel
theorem d8_56 : decode prog_5_method_2_code 56 = .ok (.aload_n 0, 1) := by decide +kernel
theorem d8_57 : decode prog_5_method_2_code 57 = .ok (.invokeinterface 7 1, 5) := by decide +kernel
theorem d8_62 : decode prog_5_method_2_code 62 = .ok (.if_icmp .ge 25, 3) := by decide +kernel
theorem d8_65 : decode prog_5_method_2_code 65 = .ok (.aload_n 0, 1) := by decide +kernel
theorem d8_66 : decode prog_5_method_2_code 66 = .ok (.iload_n 2, 1) := by decide +kernel
theorem d8_67 : decode prog_5_method_2_code 67 = .ok (.invokeinterface 13 2, 5) := by decide +kernel
theorem d8_72 : decode prog_5_method_2_code 72 = .ok (.invokestatic 17, 3) := by decide +kernel
theorem d8_75 : decode prog_5_method_2_code 75 = .ok (.ifCond .eq 12, 3) := by decide +kernel
theorem d8_78 : decode prog_5_method_2_code 78 = .ok (.aload_n 0, 1) := by decide +kernel
theorem d8_79 : decode prog_5_method_2_code 79 = .ok (.iload_n 2, 1) := by decide +kernel
theorem d8_80 : decode prog_5_method_2_code 80 = .ok (.invokestatic 23, 3) := by decide +kernel
theorem d8_83 : decode prog_5_method_2_code 83 = .ok (.istore_n 2, 1) := by decide +kernel
theorem d8_84 : decode prog_5_method_2_code 84 = .ok (.goto 5, 3) := by decide +kernel
theorem d8_87 : decode prog_5_method_2_code 87 = .ok (.iload_n 1, 1) := by decide +kernel
theorem d8_88 : decode prog_5_method_2_code 88 = .ok (.ireturn, 1) := by decide +kernel
theorem d8_89 : decode prog_5_method_2_code 89 = .ok (.iload_n 2, 1) := by decide +kernel
theorem d8_90 : decode prog_5_method_2_code 90 = .ok (.istore_n 3, 1) := by decide +kernel
theorem d8_91 : decode prog_5_method_2_code 91 = .ok (.iload_n 3, 1) := by decide +kernel
theorem d8_92 : decode prog_5_method_2_code 92 = .ok (.iconst 1, 1) := by decide +kernel
theorem d8_93 : decode prog_5_method_2_code 93 = .ok (.iadd, 1) := by decide +kernel
theorem d8_94 : decode prog_5_method_2_code 94 = .ok (.aload_n 0, 1) := by decide +kernel
theorem d8_95 : decode prog_5_method_2_code 95 = .ok (.invokeinterface 7 1, 5) := by decide +kernel
theorem d8_100 : decode prog_5_method_2_code 100 = .ok (.if_icmp .ge 38, 3) := by decide +kernel
theorem d8_103 : decode prog_5_method_2_code 103 = .ok (.aload_n 0, 1) := by decide +kernel
theorem d8_104 : decode prog_5_method_2_code 104 = .ok (.iload_n 3, 1) := by decide +kernel
theorem d8_105 : decode prog_5_method_2_code 105 = .ok (.invokeinterface 13 2, 5) := by decide +kernel
theorem d8_110 : decode prog_5_method_2_code 110 = .ok (.bipush 46, 2) := by decide +kernel
theorem d8_112 : decode prog_5_method_2_code 112 = .ok (.if_icmp .ne 26, 3) := by decide +kernel
theorem d8_115 : decode prog_5_method_2_code 115 = .ok (.aload_n 0, 1) := by decide +kernel
theorem d8_116 : decode prog_5_method_2_code 116 = .ok (.iload_n 3, 1) := by decide +kernel
theorem d8_117 : decode prog_5_method_2_code 117 = .ok (.iconst 1, 1) := by decide +kernel
theorem d8_118 : decode prog_5_method_2_code 118 = .ok (.iadd, 1) := by decide +kernel
theorem d8_119 : decode prog_5_method_2_code 119 = .ok (.invokeinterface 13 2, 5) := by decide +kernel
theorem d8_124 : decode prog_5_method_2_code 124 = .ok (.invokestatic 17, 3) := by decide +kernel
theorem d8_127 : decode prog_5_method_2_code 127 = .ok (.ifCond .eq 11, 3) := by decide +kernel
theorem d8_130 : decode prog_5_method_2_code 130 = .ok (.aload_n 0, 1) := by decide +kernel
theorem d8_131 : decode prog_5_method_2_code 131 = .ok (.iload_n 3, 1) := by decide +kernel
theorem d8_132 : decode prog_5_method_2_code 132 = .ok (.iconst 1, 1) := by decide +kernel
theorem d8_133 : decode prog_5_method_2_code 133 = .ok (.iadd, 1) := by decide +kernel
theorem d8_134 : decode prog_5_method_2_code 134 = .ok (.invokestatic 23, 3) := by decide +kernel
theorem d8_137 : decode prog_5_method_2_code 137 = .ok (.istore_n 3, 1) := by decide +kernel
theorem d8_138 : decode prog_5_method_2_code 138 = .ok (.iload_n 3, 1) := by decide +kernel
theorem d8_139 : decode prog_5_method_2_code 139 = .ok (.aload_n 0, 1) := by decide +kernel
theorem d8_140 : decode prog_5_method_2_code 140 = .ok (.invokeinterface 7 1, 5) := by decide +kernel
theorem d8_145 : decode prog_5_method_2_code 145 = .ok (.if_icmp .ge 104, 3) := by decide +kernel
theorem d8_148 : decode prog_5_method_2_code 148 = .ok (.aload_n 0, 1) := by decide +kernel
theorem d8_149 : decode prog_5_method_2_code 149 = .ok (.iload_n 3, 1) := by decide +kernel
theorem d8_150 : decode prog_5_method_2_code 150 = .ok (.invokeinterface 13 2, 5) := by decide +kernel
theorem d8_155 : decode prog_5_method_2_code 155 = .ok (.bipush 101, 2) := by decide +kernel
theorem d8_157 : decode prog_5_method_2_code 157 = .ok (.if_icmp .eq 15, 3) := by decide +kernel
theorem d8_160 : decode prog_5_method_2_code 160 = .ok (.aload_n 0, 1) := by decide +kernel
theorem d8_161 : decode prog_5_method_2_code 161 = .ok (.iload_n 3, 1) := by decide +kernel
theorem d8_162 : decode prog_5_method_2_code 162 = .ok (.invokeinterface 13 2, 5) := by decide +kernel
theorem d8_167 : decode prog_5_method_2_code 167 = .ok (.bipush 69, 2) := by decide +kernel
theorem d8_169 : decode prog_5_method_2_code 169 = .ok (.if_icmp .ne 80, 3) := by decide +kernel
theorem d8_172 : decode prog_5_method_2_code 172 = .ok (.iload_n 3, 1) := by decide +kernel
theorem d8_173 : decode prog_5_method_2_code 173 = .ok (.iconst 1, 1) := by decide +kernel
theorem d8_174 : decode prog_5_method_2_code 174 = .ok (.iadd, 1) := by decide +kernel
theorem d8_175 : decode prog_5_method_2_code 175 = .ok (.istore 4, 2) := by decide +kernel
theorem d8_177 : decode prog_5_method_2_code 177 = .ok (.iload 4, 2) := by decide +kernel
theorem d8_179 : decode prog_5_method_2_code 179 = .ok (.aload_n 0, 1) := by decide +kernel
theorem d8_180 : decode prog_5_method_2_code 180 = .ok (.invokeinterface 7 1, 5) := by decide +kernel
theorem d8_185 : decode prog_5_method_2_code 185 = .ok (.if_icmp .ge 32, 3) := by decide +kernel
theorem d8_188 : decode prog_5_method_2_code 188 = .ok (.aload_n 0, 1) := by decide +kernel
theorem d8_189 : decode prog_5_method_2_code 189 = .ok (.iload 4, 2) := by decide +kernel
theorem d8_191 : decode prog_5_method_2_code 191 = .ok (.invokeinterface 13 2, 5) := by decide +kernel
theorem d8_196 : decode prog_5_method_2_code 196 = .ok (.bipush 43, 2) := by decide +kernel
theorem d8_198 : decode prog_5_method_2_code 198 = .ok (.if_icmp .eq 16, 3) := by decide +kernel
theorem d8_201 : decode prog_5_method_2_code 201 = .ok (.aload_n 0, 1) := by decide +kernel
theorem d8_202 : decode prog_5_method_2_code 202 = .ok (.iload 4, 2) := by decide +kernel
theorem d8_204 : decode prog_5_method_2_code 204 = .ok (.invokeinterface 13 2, 5) := by decide +kernel
theorem d8_209 : decode prog_5_method_2_code 209 = .ok (.bipush 45, 2) := by decide +kernel
theorem d8_211 : decode prog_5_method_2_code 211 = .ok (.if_icmp .ne 6, 3) := by decide +kernel
theorem d8_214 : decode prog_5_method_2_code 214 = .ok (.iinc 4 1, 3) := by decide +kernel
theorem d8_217 : decode prog_5_method_2_code 217 = .ok (.iload 4, 2) := by decide +kernel
theorem d8_219 : decode prog_5_method_2_code 219 = .ok (.aload_n 0, 1) := by decide +kernel
theorem d8_220 : decode prog_5_method_2_code 220 = .ok (.invokeinterface 7 1, 5) := by decide +kernel
theorem d8_225 : decode prog_5_method_2_code 225 = .ok (.if_icmp .ge 24, 3) := by decide +kernel
theorem d8_228 : decode prog_5_method_2_code 228 = .ok (.aload_n 0, 1) := by decide +kernel
theorem d8_229 : decode prog_5_method_2_code 229 = .ok (.iload 4, 2) := by decide +kernel
theorem d8_231 : decode prog_5_method_2_code 231 = .ok (.invokeinterface 13 2, 5) := by decide +kernel
theorem d8_236 : decode prog_5_method_2_code 236 = .ok (.invokestatic 17, 3) := by decide +kernel
theorem d8_239 : decode prog_5_method_2_code 239 = .ok (.ifCond .eq 10, 3) := by decide +kernel
theorem d8_242 : decode prog_5_method_2_code 242 = .ok (.aload_n 0, 1) := by decide +kernel
theorem d8_243 : decode prog_5_method_2_code 243 = .ok (.iload 4, 2) := by decide +kernel
theorem d8_245 : decode prog_5_method_2_code 245 = .ok (.invokestatic 23, 3) := by decide +kernel
theorem d8_248 : decode prog_5_method_2_code 248 = .ok (.istore_n 3, 1) := by decide +kernel
theorem d8_249 : decode prog_5_method_2_code 249 = .ok (.iload_n 3, 1) := by decide +kernel
theorem d8_250 : decode prog_5_method_2_code 250 = .ok (.ireturn, 1) := by decide +kernel
theorem pn8 : plainFor (⟨"com/example/spanforge/spanforge/json/NumberText", "scanJson", "(Ljava/lang/CharSequence;I)I"⟩ : MethodName) = true := plainFor_of_name (show plainName "com/example/spanforge/spanforge/json/NumberText" = true by first | (simp [plainName, overriddenIn]; done) | decide +kernel)
theorem pd8 : parseMethodDescriptor "(Ljava/lang/CharSequence;I)I" = some ⟨[(.object "java/lang/CharSequence"), .int], (some .int)⟩ := by decide +kernel
theorem d9_0 : decode jdk_42_method_54_code 0 = .ok (.aload_n 0, 1) := by decide +kernel
theorem d9_1 : decode jdk_42_method_54_code 1 = .ok (.getfield 9, 3) := by decide +kernel
theorem d9_4 : decode jdk_42_method_54_code 4 = .ok (.arraylength, 1) := by decide +kernel
theorem d9_5 : decode jdk_42_method_54_code 5 = .ok (.aload_n 0, 1) := by decide +kernel
theorem d9_6 : decode jdk_42_method_54_code 6 = .ok (.invokevirtual 335, 3) := by decide +kernel
theorem d9_9 : decode jdk_42_method_54_code 9 = .ok (.ishr, 1) := by decide +kernel
theorem d9_10 : decode jdk_42_method_54_code 10 = .ok (.ireturn, 1) := by decide +kernel
theorem pn9 : plainFor (⟨"java/lang/String", "length", "()I"⟩ : MethodName) = true := plainFor_of_name (show plainName "java/lang/String" = true by first | (simp [plainName, overriddenIn]; done) | decide +kernel)
theorem pd9 : parseMethodDescriptor "()I" = some ⟨[], (some .int)⟩ := by decide +kernel
theorem d10_0 : decode jdk_42_method_152_code 0 = .ok (.getstatic 38, 3) := by decide +kernel
theorem d10_3 : decode jdk_42_method_152_code 3 = .ok (.ifCond .eq 10, 3) := by decide +kernel
theorem d10_6 : decode jdk_42_method_152_code 6 = .ok (.aload_n 0, 1) := by decide +kernel
theorem d10_7 : decode jdk_42_method_152_code 7 = .ok (.getfield 15, 3) := by decide +kernel
theorem d10_10 : decode jdk_42_method_152_code 10 = .ok (.goto 4, 3) := by decide +kernel
theorem d10_14 : decode jdk_42_method_152_code 14 = .ok (.ireturn, 1) := by decide +kernel
theorem pn10 : plainFor (⟨"java/lang/String", "coder", "()B"⟩ : MethodName) = true := plainFor_of_name (show plainName "java/lang/String" = true by first | (simp [plainName, overriddenIn]; done) | decide +kernel)
theorem pd10 : parseMethodDescriptor "()B" = some ⟨[], (some .byte)⟩ := by decide +kernel
theorem d11_0 : decode jdk_42_method_56_code 0 = .ok (.aload_n 0, 1) := by decide +kernel
theorem d11_1 : decode jdk_42_method_56_code 1 = .ok (.invokevirtual 492, 3) := by decide +kernel
theorem d11_4 : decode jdk_42_method_56_code 4 = .ok (.ifCond .eq 12, 3) := by decide +kernel
theorem d11_7 : decode jdk_42_method_56_code 7 = .ok (.aload_n 0, 1) := by decide +kernel
theorem d11_8 : decode jdk_42_method_56_code 8 = .ok (.getfield 9, 3) := by decide +kernel
theorem d11_11 : decode jdk_42_method_56_code 11 = .ok (.iload_n 1, 1) := by decide +kernel
theorem d11_12 : decode jdk_42_method_56_code 12 = .ok (.invokestatic 495, 3) := by decide +kernel
theorem d11_15 : decode jdk_42_method_56_code 15 = .ok (.ireturn, 1) := by decide +kernel
theorem pn11 : plainFor (⟨"java/lang/String", "charAt", "(I)C"⟩ : MethodName) = true := plainFor_of_name (show plainName "java/lang/String" = true by first | (simp [plainName, overriddenIn]; done) | decide +kernel)
theorem pd11 : parseMethodDescriptor "(I)C" = some ⟨[.int], (some .char)⟩ := by decide +kernel
theorem d12_0 : decode jdk_42_method_154_code 0 = .ok (.getstatic 38, 3) := by decide +kernel
theorem d12_3 : decode jdk_42_method_154_code 3 = .ok (.ifCond .eq 14, 3) := by decide +kernel
theorem d12_6 : decode jdk_42_method_154_code 6 = .ok (.aload_n 0, 1) := by decide +kernel
theorem d12_7 : decode jdk_42_method_154_code 7 = .ok (.getfield 15, 3) := by decide +kernel
theorem d12_10 : decode jdk_42_method_154_code 10 = .ok (.ifCond .ne 7, 3) := by decide +kernel
theorem d12_13 : decode jdk_42_method_154_code 13 = .ok (.iconst 1, 1) := by decide +kernel
theorem d12_14 : decode jdk_42_method_154_code 14 = .ok (.goto 4, 3) := by decide +kernel
theorem d12_18 : decode jdk_42_method_154_code 18 = .ok (.ireturn, 1) := by decide +kernel
theorem pn12 : plainFor (⟨"java/lang/String", "isLatin1", "()Z"⟩ : MethodName) = true := plainFor_of_name (show plainName "java/lang/String" = true by first | (simp [plainName, overriddenIn]; done) | decide +kernel)
theorem pd12 : parseMethodDescriptor "()Z" = some ⟨[], (some .boolean)⟩ := by decide +kernel
theorem d13_0 : decode jdk_43_method_2_code 0 = .ok (.iload_n 1, 1) := by decide +kernel
theorem d13_1 : decode jdk_43_method_2_code 1 = .ok (.aload_n 0, 1) := by decide +kernel
theorem d13_2 : decode jdk_43_method_2_code 2 = .ok (.arraylength, 1) := by decide +kernel
theorem d13_3 : decode jdk_43_method_2_code 3 = .ok (.invokestatic 9, 3) := by decide +kernel
theorem d13_6 : decode jdk_43_method_2_code 6 = .ok (.aload_n 0, 1) := by decide +kernel
theorem d13_7 : decode jdk_43_method_2_code 7 = .ok (.iload_n 1, 1) := by decide +kernel
theorem d13_8 : decode jdk_43_method_2_code 8 = .ok (.baload, 1) := by decide +kernel
theorem d13_9 : decode jdk_43_method_2_code 9 = .ok (.sipush 255, 3) := by decide +kernel
theorem d13_12 : decode jdk_43_method_2_code 12 = .ok (.iand, 1) := by decide +kernel
theorem d13_13 : decode jdk_43_method_2_code 13 = .ok (.i2c, 1) := by decide +kernel
theorem d13_14 : decode jdk_43_method_2_code 14 = .ok (.ireturn, 1) := by decide +kernel
theorem pn13 : plainFor (⟨"java/lang/StringLatin1", "charAt", "([BI)C"⟩ : MethodName) = true := plainFor_of_name (show plainName "java/lang/StringLatin1" = true by first | (simp [plainName, overriddenIn]; done) | decide +kernel)
theorem pd13 : parseMethodDescriptor "([BI)C" = some ⟨[(.array .byte), .int], (some .char)⟩ := by decide +kernel
theorem d14_0 : decode jdk_42_method_155_code 0 = .ok (.iload_n 0, 1) := by decide +kernel
theorem d14_1 : decode jdk_42_method_155_code 1 = .ok (.iload_n 1, 1) := by decide +kernel
theorem d14_2 : decode jdk_42_method_155_code 2 = .ok (.getstatic 1053, 3) := by decide +kernel
theorem d14_5 : decode jdk_42_method_155_code 5 = .ok (.invokestatic 1059, 3) := by decide +kernel
theorem d14_8 : decode jdk_42_method_155_code 8 = .ok (.pop, 1) := by decide +kernel
theorem d14_9 : decode jdk_42_method_155_code 9 = .ok (.return_, 1) := by decide +kernel
theorem pn14 : plainFor (⟨"java/lang/String", "checkIndex", "(II)V"⟩ : MethodName) = true := plainFor_of_name (show plainName "java/lang/String" = true by first | (simp [plainName, overriddenIn]; done) | decide +kernel)
theorem pd14 : parseMethodDescriptor "(II)V" = some ⟨[.int, .int], none⟩ := by decide +kernel
theorem d15_0 : decode jdk_41_method_11_code 0 = .ok (.iload_n 0, 1) := by decide +kernel
theorem d15_1 : decode jdk_41_method_11_code 1 = .ok (.ifCond .lt 8, 3) := by decide +kernel
theorem d15_4 : decode jdk_41_method_11_code 4 = .ok (.iload_n 0, 1) := by decide +kernel
theorem d15_5 : decode jdk_41_method_11_code 5 = .ok (.iload_n 1, 1) := by decide +kernel
theorem d15_6 : decode jdk_41_method_11_code 6 = .ok (.if_icmp .lt 10, 3) := by decide +kernel
theorem d15_16 : decode jdk_41_method_11_code 16 = .ok (.iload_n 0, 1) := by decide +kernel
theorem d15_17 : decode jdk_41_method_11_code 17 = .ok (.ireturn, 1) := by decide +kernel
theorem pn15 : plainFor (⟨"jdk/internal/util/Preconditions", "checkIndex", "(IILjava/util/function/BiFunction;)I"⟩ : MethodName) = true := plainFor_of_name (show plainName "jdk/internal/util/Preconditions" = true by first | (simp [plainName, overriddenIn]; done) | decide +kernel)
theorem pd15 : parseMethodDescriptor "(IILjava/util/function/BiFunction;)I" = some ⟨[.int, .int, (.object "java/util/function/BiFunction")], (some .int)⟩ := by decide +kernel
theorem d16_0 : decode method_3_code 0 = .ok (.bipush 48, 2) := by decide +kernel
theorem d16_2 : decode method_3_code 2 = .ok (.lload_n 0, 1) := by decide +kernel
theorem d16_3 : decode method_3_code 3 = .ok (.bipush 8, 2) := by decide +kernel
theorem d16_5 : decode method_3_code 5 = .ok (.iload_n 2, 1) := by decide +kernel
theorem d16_6 : decode method_3_code 6 = .ok (.imul, 1) := by decide +kernel
theorem d16_7 : decode method_3_code 7 = .ok (.lushr, 1) := by decide +kernel
theorem d16_8 : decode method_3_code 8 = .ok (.ldc2_w 7, 3) := by decide +kernel
theorem d16_11 : decode method_3_code 11 = .ok (.land, 1) := by decide +kernel
theorem d16_12 : decode method_3_code 12 = .ok (.ldc2_w 9, 3) := by decide +kernel
theorem d16_15 : decode method_3_code 15 = .ok (.lrem, 1) := by decide +kernel
theorem d16_16 : decode method_3_code 16 = .ok (.l2i, 1) := by decide +kernel
theorem d16_17 : decode method_3_code 17 = .ok (.iadd, 1) := by decide +kernel
theorem d16_18 : decode method_3_code 18 = .ok (.i2c, 1) := by decide +kernel
theorem d16_19 : decode method_3_code 19 = .ok (.ireturn, 1) := by decide +kernel
theorem pn16 : plainFor (⟨"com/example/spanforge/spanforge/json/NumberTextScanJsonPinLaw", "dg", "(JI)C"⟩ : MethodName) = true := plainFor_of_name (show plainName "com/example/spanforge/spanforge/json/NumberTextScanJsonPinLaw" = true by first | (simp [plainName, overriddenIn]; done) | decide +kernel)
theorem pd16 : parseMethodDescriptor "(JI)C" = some ⟨[.long, .int], (some .char)⟩ := by decide +kernel
theorem d17_0 : decode prog_5_method_3_code 0 = .ok (.iload_n 0, 1) := by decide +kernel
theorem d17_1 : decode prog_5_method_3_code 1 = .ok (.bipush 48, 2) := by decide +kernel
theorem d17_3 : decode prog_5_method_3_code 3 = .ok (.if_icmp .lt 13, 3) := by decide +kernel
theorem d17_6 : decode prog_5_method_3_code 6 = .ok (.iload_n 0, 1) := by decide +kernel
theorem d17_7 : decode prog_5_method_3_code 7 = .ok (.bipush 57, 2) := by decide +kernel
theorem d17_9 : decode prog_5_method_3_code 9 = .ok (.if_icmp .gt 7, 3) := by decide +kernel
theorem d17_12 : decode prog_5_method_3_code 12 = .ok (.iconst 1, 1) := by decide +kernel
theorem d17_13 : decode prog_5_method_3_code 13 = .ok (.goto 4, 3) := by decide +kernel
theorem d17_16 : decode prog_5_method_3_code 16 = .ok (.iconst 0, 1) := by decide +kernel
theorem d17_17 : decode prog_5_method_3_code 17 = .ok (.ireturn, 1) := by decide +kernel
theorem pn17 : plainFor (⟨"com/example/spanforge/spanforge/json/NumberText", "isDigit", "(C)Z"⟩ : MethodName) = true := plainFor_of_name (show plainName "com/example/spanforge/spanforge/json/NumberText" = true by first | (simp [plainName, overriddenIn]; done) | decide +kernel)
theorem pd17 : parseMethodDescriptor "(C)Z" = some ⟨[.char], (some .boolean)⟩ := by decide +kernel
theorem d18_0 : decode prog_5_method_4_code 0 = .ok (.iload_n 1, 1) := by decide +kernel
theorem d18_1 : decode prog_5_method_4_code 1 = .ok (.istore_n 2, 1) := by decide +kernel
theorem d18_2 : decode prog_5_method_4_code 2 = .ok (.iload_n 2, 1) := by decide +kernel
theorem d18_3 : decode prog_5_method_4_code 3 = .ok (.aload_n 0, 1) := by decide +kernel
theorem d18_4 : decode prog_5_method_4_code 4 = .ok (.invokeinterface 7 1, 5) := by decide +kernel
theorem d18_9 : decode prog_5_method_4_code 9 = .ok (.if_icmp .ge 22, 3) := by decide +kernel
theorem d18_12 : decode prog_5_method_4_code 12 = .ok (.aload_n 0, 1) := by decide +kernel
theorem d18_13 : decode prog_5_method_4_code 13 = .ok (.iload_n 2, 1) := by decide +kernel
theorem d18_14 : decode prog_5_method_4_code 14 = .ok (.invokeinterface 13 2, 5) := by decide +kernel
theorem d18_19 : decode prog_5_method_4_code 19 = .ok (.invokestatic 17, 3) := by decide +kernel
theorem d18_22 : decode prog_5_method_4_code 22 = .ok (.ifCond .eq 9, 3) := by decide +kernel
theorem d18_25 : decode prog_5_method_4_code 25 = .ok (.iinc 2 1, 3) := by decide +kernel
theorem d18_28 : decode prog_5_method_4_code 28 = .ok (.goto (-26), 3) := by decide +kernel
theorem d18_31 : decode prog_5_method_4_code 31 = .ok (.iload_n 2, 1) := by decide +kernel
theorem d18_32 : decode prog_5_method_4_code 32 = .ok (.ireturn, 1) := by decide +kernel
theorem pn18 : plainFor (⟨"com/example/spanforge/spanforge/json/NumberText", "skipDigits", "(Ljava/lang/CharSequence;I)I"⟩ : MethodName) = true := plainFor_of_name (show plainName "com/example/spanforge/spanforge/json/NumberText" = true by first | (simp [plainName, overriddenIn]; done) | decide +kernel)
theorem pd18 : parseMethodDescriptor "(Ljava/lang/CharSequence;I)I" = some ⟨[(.object "java/lang/CharSequence"), .int], (some .int)⟩ := by decide +kernel
theorem d19_0 : decode method_4_code 0 = .ok (.bipush 49, 2) := by decide +kernel
theorem d19_2 : decode method_4_code 2 = .ok (.lload_n 0, 1) := by decide +kernel
theorem d19_3 : decode method_4_code 3 = .ok (.ldc2_w 7, 3) := by decide +kernel
theorem d19_6 : decode method_4_code 6 = .ok (.land, 1) := by decide +kernel
theorem d19_7 : decode method_4_code 7 = .ok (.ldc2_w 11, 3) := by decide +kernel
theorem d19_10 : decode method_4_code 10 = .ok (.lrem, 1) := by decide +kernel
theorem d19_11 : decode method_4_code 11 = .ok (.l2i, 1) := by decide +kernel
theorem d19_12 : decode method_4_code 12 = .ok (.iadd, 1) := by decide +kernel
theorem d19_13 : decode method_4_code 13 = .ok (.i2c, 1) := by decide +kernel
theorem d19_14 : decode method_4_code 14 = .ok (.ireturn, 1) := by decide +kernel
theorem pn19 : plainFor (⟨"com/example/spanforge/spanforge/json/NumberTextScanJsonPinLaw", "nz", "(J)C"⟩ : MethodName) = true := plainFor_of_name (show plainName "com/example/spanforge/spanforge/json/NumberTextScanJsonPinLaw" = true by first | (simp [plainName, overriddenIn]; done) | decide +kernel)
theorem pd19 : parseMethodDescriptor "(J)C" = some ⟨[.long], (some .char)⟩ := by decide +kernel
def Facts (Z : State) (cz : Int32) (sf : Value) : Prop := (Sta Z Z.heap "java/lang/String" "COMPACT_STRINGS" "Z" (.int cz)) ∧ (¬ cz = 0) ∧ (Sta Z Z.heap "jdk/internal/util/Preconditions" "SIOOBE_FORMATTER" "Ljava/util/function/BiFunction;" sf) ∧ (sf.isRef = true)
theorem Facts.S_cs {Z : State} {cz : Int32} {sf : Value} (F : Facts Z cz sf) : Sta Z Z.heap "java/lang/String" "COMPACT_STRINGS" "Z" (.int cz) := F.1
theorem Facts.N_cs {Z : State} {cz : Int32} {sf : Value} (F : Facts Z cz sf) : ¬ cz = 0 := F.2.1
theorem Facts.S_sf {Z : State} {cz : Int32} {sf : Value} (F : Facts Z cz sf) : Sta Z Z.heap "jdk/internal/util/Preconditions" "SIOOBE_FORMATTER" "Ljava/util/function/BiFunction;" sf := F.2.2.1
theorem Facts.R_sf {Z : State} {cz : Int32} {sf : Value} (F : Facts Z cz sf) : sf.isRef = true := F.2.2.2
abbrev STN : String := "java/lang/String"
theorem pTB : parseFieldDescriptor "[B" = some (.array .byte) := by decide +kernel
theorem pTb : parseFieldDescriptor "B" = some .byte := by decide +kernel
def LN (n : Nat) (g : Nat → Int32) : List Value := (List.range n).map fun i => Value.int (g i)
def up (g : Nat → Int32) (j : Nat) (v : Int32) : Nat → Int32 := fun i => if i = j then v else g i
theorem LN_get {n : Nat} (g : Nat → Int32) {j : Nat} (hj : j < n) : (LN n g)[j]? = some (.int (g j)) := by
  simp [LN, List.getElem?_range hj]
theorem LN_len (n : Nat) (g : Nat → Int32) : (LN n g).length = n := by simp [LN]
theorem LN_set {n : Nat} (g : Nat → Int32) {j : Nat} (hj : j < n) (v : Int32) : (LN n g).set j (.int v) = LN n (up g j v) := by
  apply List.ext_getElem?
  intro i
  by_cases e : i = j
  · subst e
    rw [List.getElem?_set_self (by rw [LN_len]; exact hj), LN_get _ hj]
    simp [up]
  · rw [List.getElem?_set_ne (fun z => e z.symm)]
    by_cases q : i < n
    · rw [LN_get _ q, LN_get _ q]; simp [up, e]
    · rw [List.getElem?_eq_none (by rw [LN_len]; omega), List.getElem?_eq_none (by rw [LN_len]; omega)]
theorem LN_zero (n : Nat) : LN n (fun _ => 0) = List.replicate n (.int 0) := by
  apply List.ext_getElem?
  intro i
  by_cases q : i < n
  · rw [LN_get _ q, List.getElem?_replicate, if_pos q]
  · rw [List.getElem?_eq_none (by rw [LN_len]; omega), List.getElem?_replicate, if_neg q]
/-- the bytes of the first i chars -/
def bpre (cf : Nat → Int32) (i : Nat) : Nat → Int32 := fun j => if j < i then (cf j).toInt8.toInt32 else 0
theorem bpre_up (cf : Nat → Int32) (i : Nat) : up (bpre cf i) i (nar .byte ((cf i).toInt8.toInt32)) = bpre cf (i + 1) := by
  funext j
  have e8 : ∀ v : Int32, nar .byte (v.toInt8.toInt32) = v.toInt8.toInt32 := fun v => by
    show (v.toInt8.toInt32).toInt8.toInt32 = _
    simp
  unfold up bpre
  by_cases e : j = i
  · subst e; rw [if_pos rfl, if_pos (by omega), e8]
  · rw [if_neg e]
    by_cases q : j < i
    · rw [if_pos q, if_pos (by omega)]
    · rw [if_neg q, if_neg (by omega)]
def byt (cf : Nat → Int32) : Nat → Int32 := fun j => (cf j).toInt8.toInt32
/-- a String of twelve Latin-1 signs -/
def ST (Z : State) (h : Heap) (s b : Addr) (cf : Nat → Int32) : Prop :=
  Exa Z h s STN ∧ Fld Z h s STN "coder" "B" (.int 0) ∧ Fld Z h s STN "value" "[B" (.ref b) ∧ (∃ kB, Ar Z h b .byte kB (LN 12 (byt cf))) ∧ ∀ j, j < 12 → 0 ≤ (cf j).toInt ∧ (cf j).toInt ≤ 255
theorem back255 : ∀ i : Fin 256, ((Int32.ofNat i.val).toInt8.toInt32 &&& (255 : Int32)).toUInt32.toUInt16.toUInt32.toInt32 = Int32.ofNat i.val := by decide +kernel
theorem back_c {v : Int32} (h0 : 0 ≤ v.toInt) (h1 : v.toInt ≤ 255) : (v.toInt8.toInt32 &&& (255 : Int32)).toUInt32.toUInt16.toUInt32.toInt32 = v := by
  have n : ¬ v < 0 := nonneg_iff.mpr h0
  have e : v = Int32.ofNat v.toNatClampNeg := (back32 n).1.symm
  have l : v.toNatClampNeg < 256 := by show v.toInt.toNat < 256; omega
  have r := back255 ⟨v.toNatClampNeg, l⟩
  rw [← e] at r
  exact r

theorem le255 {v : Int32} (h : v.toInt ≤ 255) : ¬ (255 : Int32) < v := by
  rw [Int32.lt_iff_toInt_lt]
  have e : (255 : Int32).toInt = 255 := rfl
  omega
set_option maxRecDepth 65536 in
set_option maxHeartbeats 40000000 in
theorem comp12 (l : Launch) (Z : State) (a0 : Array Value) (hw : Hw a0 Z) (n0 : Nat) (h : Heap) (ca ba : Addr) (kC kB : ClassId) (cf : Nat → Int32) (hc : ∀ j, j < 12 → 0 ≤ (cf j).toInt ∧ (cf j).toInt ≤ 255) (Ac : Ar Z h ca .char kC (LN 12 cf)) (Ab : Ar Z h ba .byte kB (LN 12 (bpre cf 12))) (nab : ca ≠ ba) (nb : n0 ≤ ba) {Q : Option Value → Heap → Prop} (hQ : ∀ h', Keep h h' [ba] → Ar Z h' ba .byte kB (LN 12 (bpre cf 12)) → Q (some (.int 12)) h') :
    Go l Z (⟨"java/lang/StringUTF16", "compress", "([CI[BII)I"⟩ : MethodName) jdk_52_method_21_code 7 (some .int) ({ frames := 0, cells := 0, slots := 0, locals := 0 } : Room) n0 Q h 0 0 3 #[.val (.ref ca), .val (.int (12 : Int32)), .val (.ref ba), .val (.int (12 : Int32)), .val (.int (12 : Int32)), .val (.int (12 : Int32)), .val (.int (cf 11))] [] := by
  refine Go.iload d6_3 (q := 5) rfl rfl ?_
  refine Go.iload d6_5 (q := 7) rfl rfl ?_
  refine Go.icmp_ge d6_7 (q := 44) (q' := 10) (by decide) rfl rfl (fun _ => ?_) (fun c_ => absurd c_ (by decide))
  refine Go.iload d6_44 (q := 46) rfl rfl ?_
  refine Go.ireturn d6_46 (by decide) (by decide) ?_
  exact hQ h (Keep.refl h _) Ab
set_option maxRecDepth 65536 in
set_option maxHeartbeats 40000000 in
theorem comp11 (l : Launch) (Z : State) (a0 : Array Value) (hw : Hw a0 Z) (n0 : Nat) (h : Heap) (ca ba : Addr) (kC kB : ClassId) (cf : Nat → Int32) (hc : ∀ j, j < 12 → 0 ≤ (cf j).toInt ∧ (cf j).toInt ≤ 255) (Ac : Ar Z h ca .char kC (LN 12 cf)) (Ab : Ar Z h ba .byte kB (LN 12 (bpre cf 11))) (nab : ca ≠ ba) (nb : n0 ≤ ba) {Q : Option Value → Heap → Prop} (hQ : ∀ h', Keep h h' [ba] → Ar Z h' ba .byte kB (LN 12 (bpre cf 12)) → Q (some (.int 12)) h') :
    Go l Z (⟨"java/lang/StringUTF16", "compress", "([CI[BII)I"⟩ : MethodName) jdk_52_method_21_code 7 (some .int) ({ frames := 0, cells := 0, slots := 0, locals := 0 } : Room) n0 Q h 0 0 3 #[.val (.ref ca), .val (.int (11 : Int32)), .val (.ref ba), .val (.int (11 : Int32)), .val (.int (12 : Int32)), .val (.int (11 : Int32)), .val (.int (cf 10))] [] := by
  refine Go.iload d6_3 (q := 5) rfl rfl ?_
  refine Go.iload d6_5 (q := 7) rfl rfl ?_
  refine Go.icmp_ge d6_7 (q := 44) (q' := 10) (by decide) rfl rfl (fun c_ => absurd (by decide) c_) (fun _ => ?_)
  refine Go.aloadN d6_10 (q := 11) rfl rfl rfl ?_
  refine Go.iloadN d6_11 (q := 12) rfl rfl ?_
  refine Go.caload d6_12 (q := 13) rfl Ac (by decide) (LN_get cf (show (11 : Int32).toNatClampNeg < 12 by decide)) ?_
  refine Go.istore d6_13 (q := 15) rfl (Ls' := #[.val (.ref ca), .val (.int (11 : Int32)), .val (.ref ba), .val (.int (11 : Int32)), .val (.int (12 : Int32)), .val (.int (11 : Int32)), .val (.int (cf 11))]) rfl ?_
  refine Go.iload d6_15 (q := 17) rfl rfl ?_
  refine Go.sipush d6_17 (q := 20) rfl (x := (255 : Int32)) (by decide) ?_
  refine Go.icmp_le d6_20 (q := 26) (q' := 23) (by decide) rfl rfl (fun _ => ?_) (fun c_ => absurd c_ (le255 (hc 11 (by decide)).2))
  refine Go.aloadN d6_26 (q := 27) rfl rfl rfl ?_
  refine Go.iloadN d6_27 (q := 28) rfl rfl ?_
  refine Go.iload d6_28 (q := 30) rfl rfl ?_
  refine Go.i2b d6_30 (q := 31) rfl ?_
  refine Go.bastore d6_31 (q := 32) rfl Ab (by decide) (by rw [LN_len]; decide) nb ?_
  intro h1 W1
  have A1 : Ar Z h1 ba .byte kB (LN 12 (bpre cf (11 + 1))) := by
    have q := Ab.set W1
    rw [LN_set _ (show (11 : Int32).toNatClampNeg < 12 by decide)] at q
    rw [← bpre_up]; exact q
  refine Go.iinc d6_32 (q := 35) rfl rfl (w := ((11 : Int32) + (1 : Int32))) rfl (Ls' := #[.val (.ref ca), .val (.int ((11 : Int32) + (1 : Int32))), .val (.ref ba), .val (.int (11 : Int32)), .val (.int (12 : Int32)), .val (.int (11 : Int32)), .val (.int (cf 11))]) rfl ?_
  refine Go.iinc d6_35 (q := 38) rfl rfl (w := ((11 : Int32) + (1 : Int32))) rfl (Ls' := #[.val (.ref ca), .val (.int ((11 : Int32) + (1 : Int32))), .val (.ref ba), .val (.int ((11 : Int32) + (1 : Int32))), .val (.int (12 : Int32)), .val (.int (11 : Int32)), .val (.int (cf 11))]) rfl ?_
  refine Go.iinc d6_38 (q := 41) rfl rfl (w := ((11 : Int32) + (1 : Int32))) rfl (Ls' := #[.val (.ref ca), .val (.int ((11 : Int32) + (1 : Int32))), .val (.ref ba), .val (.int ((11 : Int32) + (1 : Int32))), .val (.int (12 : Int32)), .val (.int ((11 : Int32) + (1 : Int32))), .val (.int (cf 11))]) rfl ?_
  refine Go.goto d6_41 (q := 3) (by decide) rfl ?_
  exact comp12 l Z a0 hw n0 h1 ca ba kC kB cf hc (Ac.other W1 nab) A1 nab nb (fun h' K q => hQ h' ((Keep.of_wr W1).trans K (fun y hy => Or.inl hy)) q)
set_option maxRecDepth 65536 in
set_option maxHeartbeats 40000000 in
theorem comp10 (l : Launch) (Z : State) (a0 : Array Value) (hw : Hw a0 Z) (n0 : Nat) (h : Heap) (ca ba : Addr) (kC kB : ClassId) (cf : Nat → Int32) (hc : ∀ j, j < 12 → 0 ≤ (cf j).toInt ∧ (cf j).toInt ≤ 255) (Ac : Ar Z h ca .char kC (LN 12 cf)) (Ab : Ar Z h ba .byte kB (LN 12 (bpre cf 10))) (nab : ca ≠ ba) (nb : n0 ≤ ba) {Q : Option Value → Heap → Prop} (hQ : ∀ h', Keep h h' [ba] → Ar Z h' ba .byte kB (LN 12 (bpre cf 12)) → Q (some (.int 12)) h') :
    Go l Z (⟨"java/lang/StringUTF16", "compress", "([CI[BII)I"⟩ : MethodName) jdk_52_method_21_code 7 (some .int) ({ frames := 0, cells := 0, slots := 0, locals := 0 } : Room) n0 Q h 0 0 3 #[.val (.ref ca), .val (.int (10 : Int32)), .val (.ref ba), .val (.int (10 : Int32)), .val (.int (12 : Int32)), .val (.int (10 : Int32)), .val (.int (cf 9))] [] := by
  refine Go.iload d6_3 (q := 5) rfl rfl ?_
  refine Go.iload d6_5 (q := 7) rfl rfl ?_
  refine Go.icmp_ge d6_7 (q := 44) (q' := 10) (by decide) rfl rfl (fun c_ => absurd (by decide) c_) (fun _ => ?_)
  refine Go.aloadN d6_10 (q := 11) rfl rfl rfl ?_
  refine Go.iloadN d6_11 (q := 12) rfl rfl ?_
  refine Go.caload d6_12 (q := 13) rfl Ac (by decide) (LN_get cf (show (10 : Int32).toNatClampNeg < 12 by decide)) ?_
  refine Go.istore d6_13 (q := 15) rfl (Ls' := #[.val (.ref ca), .val (.int (10 : Int32)), .val (.ref ba), .val (.int (10 : Int32)), .val (.int (12 : Int32)), .val (.int (10 : Int32)), .val (.int (cf 10))]) rfl ?_
  refine Go.iload d6_15 (q := 17) rfl rfl ?_
  refine Go.sipush d6_17 (q := 20) rfl (x := (255 : Int32)) (by decide) ?_
  refine Go.icmp_le d6_20 (q := 26) (q' := 23) (by decide) rfl rfl (fun _ => ?_) (fun c_ => absurd c_ (le255 (hc 10 (by decide)).2))
  refine Go.aloadN d6_26 (q := 27) rfl rfl rfl ?_
  refine Go.iloadN d6_27 (q := 28) rfl rfl ?_
  refine Go.iload d6_28 (q := 30) rfl rfl ?_
  refine Go.i2b d6_30 (q := 31) rfl ?_
  refine Go.bastore d6_31 (q := 32) rfl Ab (by decide) (by rw [LN_len]; decide) nb ?_
  intro h1 W1
  have A1 : Ar Z h1 ba .byte kB (LN 12 (bpre cf (10 + 1))) := by
    have q := Ab.set W1
    rw [LN_set _ (show (10 : Int32).toNatClampNeg < 12 by decide)] at q
    rw [← bpre_up]; exact q
  refine Go.iinc d6_32 (q := 35) rfl rfl (w := ((10 : Int32) + (1 : Int32))) rfl (Ls' := #[.val (.ref ca), .val (.int ((10 : Int32) + (1 : Int32))), .val (.ref ba), .val (.int (10 : Int32)), .val (.int (12 : Int32)), .val (.int (10 : Int32)), .val (.int (cf 10))]) rfl ?_
  refine Go.iinc d6_35 (q := 38) rfl rfl (w := ((10 : Int32) + (1 : Int32))) rfl (Ls' := #[.val (.ref ca), .val (.int ((10 : Int32) + (1 : Int32))), .val (.ref ba), .val (.int ((10 : Int32) + (1 : Int32))), .val (.int (12 : Int32)), .val (.int (10 : Int32)), .val (.int (cf 10))]) rfl ?_
  refine Go.iinc d6_38 (q := 41) rfl rfl (w := ((10 : Int32) + (1 : Int32))) rfl (Ls' := #[.val (.ref ca), .val (.int ((10 : Int32) + (1 : Int32))), .val (.ref ba), .val (.int ((10 : Int32) + (1 : Int32))), .val (.int (12 : Int32)), .val (.int ((10 : Int32) + (1 : Int32))), .val (.int (cf 10))]) rfl ?_
  refine Go.goto d6_41 (q := 3) (by decide) rfl ?_
  exact comp11 l Z a0 hw n0 h1 ca ba kC kB cf hc (Ac.other W1 nab) A1 nab nb (fun h' K q => hQ h' ((Keep.of_wr W1).trans K (fun y hy => Or.inl hy)) q)
set_option maxRecDepth 65536 in
set_option maxHeartbeats 40000000 in
theorem comp9 (l : Launch) (Z : State) (a0 : Array Value) (hw : Hw a0 Z) (n0 : Nat) (h : Heap) (ca ba : Addr) (kC kB : ClassId) (cf : Nat → Int32) (hc : ∀ j, j < 12 → 0 ≤ (cf j).toInt ∧ (cf j).toInt ≤ 255) (Ac : Ar Z h ca .char kC (LN 12 cf)) (Ab : Ar Z h ba .byte kB (LN 12 (bpre cf 9))) (nab : ca ≠ ba) (nb : n0 ≤ ba) {Q : Option Value → Heap → Prop} (hQ : ∀ h', Keep h h' [ba] → Ar Z h' ba .byte kB (LN 12 (bpre cf 12)) → Q (some (.int 12)) h') :
    Go l Z (⟨"java/lang/StringUTF16", "compress", "([CI[BII)I"⟩ : MethodName) jdk_52_method_21_code 7 (some .int) ({ frames := 0, cells := 0, slots := 0, locals := 0 } : Room) n0 Q h 0 0 3 #[.val (.ref ca), .val (.int (9 : Int32)), .val (.ref ba), .val (.int (9 : Int32)), .val (.int (12 : Int32)), .val (.int (9 : Int32)), .val (.int (cf 8))] [] := by
  refine Go.iload d6_3 (q := 5) rfl rfl ?_
  refine Go.iload d6_5 (q := 7) rfl rfl ?_
  refine Go.icmp_ge d6_7 (q := 44) (q' := 10) (by decide) rfl rfl (fun c_ => absurd (by decide) c_) (fun _ => ?_)
  refine Go.aloadN d6_10 (q := 11) rfl rfl rfl ?_
  refine Go.iloadN d6_11 (q := 12) rfl rfl ?_
  refine Go.caload d6_12 (q := 13) rfl Ac (by decide) (LN_get cf (show (9 : Int32).toNatClampNeg < 12 by decide)) ?_
  refine Go.istore d6_13 (q := 15) rfl (Ls' := #[.val (.ref ca), .val (.int (9 : Int32)), .val (.ref ba), .val (.int (9 : Int32)), .val (.int (12 : Int32)), .val (.int (9 : Int32)), .val (.int (cf 9))]) rfl ?_
  refine Go.iload d6_15 (q := 17) rfl rfl ?_
  refine Go.sipush d6_17 (q := 20) rfl (x := (255 : Int32)) (by decide) ?_
  refine Go.icmp_le d6_20 (q := 26) (q' := 23) (by decide) rfl rfl (fun _ => ?_) (fun c_ => absurd c_ (le255 (hc 9 (by decide)).2))
  refine Go.aloadN d6_26 (q := 27) rfl rfl rfl ?_
  refine Go.iloadN d6_27 (q := 28) rfl rfl ?_
  refine Go.iload d6_28 (q := 30) rfl rfl ?_
  refine Go.i2b d6_30 (q := 31) rfl ?_
  refine Go.bastore d6_31 (q := 32) rfl Ab (by decide) (by rw [LN_len]; decide) nb ?_
  intro h1 W1
  have A1 : Ar Z h1 ba .byte kB (LN 12 (bpre cf (9 + 1))) := by
    have q := Ab.set W1
    rw [LN_set _ (show (9 : Int32).toNatClampNeg < 12 by decide)] at q
    rw [← bpre_up]; exact q
  refine Go.iinc d6_32 (q := 35) rfl rfl (w := ((9 : Int32) + (1 : Int32))) rfl (Ls' := #[.val (.ref ca), .val (.int ((9 : Int32) + (1 : Int32))), .val (.ref ba), .val (.int (9 : Int32)), .val (.int (12 : Int32)), .val (.int (9 : Int32)), .val (.int (cf 9))]) rfl ?_
  refine Go.iinc d6_35 (q := 38) rfl rfl (w := ((9 : Int32) + (1 : Int32))) rfl (Ls' := #[.val (.ref ca), .val (.int ((9 : Int32) + (1 : Int32))), .val (.ref ba), .val (.int ((9 : Int32) + (1 : Int32))), .val (.int (12 : Int32)), .val (.int (9 : Int32)), .val (.int (cf 9))]) rfl ?_
  refine Go.iinc d6_38 (q := 41) rfl rfl (w := ((9 : Int32) + (1 : Int32))) rfl (Ls' := #[.val (.ref ca), .val (.int ((9 : Int32) + (1 : Int32))), .val (.ref ba), .val (.int ((9 : Int32) + (1 : Int32))), .val (.int (12 : Int32)), .val (.int ((9 : Int32) + (1 : Int32))), .val (.int (cf 9))]) rfl ?_
  refine Go.goto d6_41 (q := 3) (by decide) rfl ?_
  exact comp10 l Z a0 hw n0 h1 ca ba kC kB cf hc (Ac.other W1 nab) A1 nab nb (fun h' K q => hQ h' ((Keep.of_wr W1).trans K (fun y hy => Or.inl hy)) q)
set_option maxRecDepth 65536 in
set_option maxHeartbeats 40000000 in
theorem comp8 (l : Launch) (Z : State) (a0 : Array Value) (hw : Hw a0 Z) (n0 : Nat) (h : Heap) (ca ba : Addr) (kC kB : ClassId) (cf : Nat → Int32) (hc : ∀ j, j < 12 → 0 ≤ (cf j).toInt ∧ (cf j).toInt ≤ 255) (Ac : Ar Z h ca .char kC (LN 12 cf)) (Ab : Ar Z h ba .byte kB (LN 12 (bpre cf 8))) (nab : ca ≠ ba) (nb : n0 ≤ ba) {Q : Option Value → Heap → Prop} (hQ : ∀ h', Keep h h' [ba] → Ar Z h' ba .byte kB (LN 12 (bpre cf 12)) → Q (some (.int 12)) h') :
    Go l Z (⟨"java/lang/StringUTF16", "compress", "([CI[BII)I"⟩ : MethodName) jdk_52_method_21_code 7 (some .int) ({ frames := 0, cells := 0, slots := 0, locals := 0 } : Room) n0 Q h 0 0 3 #[.val (.ref ca), .val (.int (8 : Int32)), .val (.ref ba), .val (.int (8 : Int32)), .val (.int (12 : Int32)), .val (.int (8 : Int32)), .val (.int (cf 7))] [] := by
  refine Go.iload d6_3 (q := 5) rfl rfl ?_
  refine Go.iload d6_5 (q := 7) rfl rfl ?_
  refine Go.icmp_ge d6_7 (q := 44) (q' := 10) (by decide) rfl rfl (fun c_ => absurd (by decide) c_) (fun _ => ?_)
  refine Go.aloadN d6_10 (q := 11) rfl rfl rfl ?_
  refine Go.iloadN d6_11 (q := 12) rfl rfl ?_
  refine Go.caload d6_12 (q := 13) rfl Ac (by decide) (LN_get cf (show (8 : Int32).toNatClampNeg < 12 by decide)) ?_
  refine Go.istore d6_13 (q := 15) rfl (Ls' := #[.val (.ref ca), .val (.int (8 : Int32)), .val (.ref ba), .val (.int (8 : Int32)), .val (.int (12 : Int32)), .val (.int (8 : Int32)), .val (.int (cf 8))]) rfl ?_
  refine Go.iload d6_15 (q := 17) rfl rfl ?_
  refine Go.sipush d6_17 (q := 20) rfl (x := (255 : Int32)) (by decide) ?_
  refine Go.icmp_le d6_20 (q := 26) (q' := 23) (by decide) rfl rfl (fun _ => ?_) (fun c_ => absurd c_ (le255 (hc 8 (by decide)).2))
  refine Go.aloadN d6_26 (q := 27) rfl rfl rfl ?_
  refine Go.iloadN d6_27 (q := 28) rfl rfl ?_
  refine Go.iload d6_28 (q := 30) rfl rfl ?_
  refine Go.i2b d6_30 (q := 31) rfl ?_
  refine Go.bastore d6_31 (q := 32) rfl Ab (by decide) (by rw [LN_len]; decide) nb ?_
  intro h1 W1
  have A1 : Ar Z h1 ba .byte kB (LN 12 (bpre cf (8 + 1))) := by
    have q := Ab.set W1
    rw [LN_set _ (show (8 : Int32).toNatClampNeg < 12 by decide)] at q
    rw [← bpre_up]; exact q
  refine Go.iinc d6_32 (q := 35) rfl rfl (w := ((8 : Int32) + (1 : Int32))) rfl (Ls' := #[.val (.ref ca), .val (.int ((8 : Int32) + (1 : Int32))), .val (.ref ba), .val (.int (8 : Int32)), .val (.int (12 : Int32)), .val (.int (8 : Int32)), .val (.int (cf 8))]) rfl ?_
  refine Go.iinc d6_35 (q := 38) rfl rfl (w := ((8 : Int32) + (1 : Int32))) rfl (Ls' := #[.val (.ref ca), .val (.int ((8 : Int32) + (1 : Int32))), .val (.ref ba), .val (.int ((8 : Int32) + (1 : Int32))), .val (.int (12 : Int32)), .val (.int (8 : Int32)), .val (.int (cf 8))]) rfl ?_
  refine Go.iinc d6_38 (q := 41) rfl rfl (w := ((8 : Int32) + (1 : Int32))) rfl (Ls' := #[.val (.ref ca), .val (.int ((8 : Int32) + (1 : Int32))), .val (.ref ba), .val (.int ((8 : Int32) + (1 : Int32))), .val (.int (12 : Int32)), .val (.int ((8 : Int32) + (1 : Int32))), .val (.int (cf 8))]) rfl ?_
  refine Go.goto d6_41 (q := 3) (by decide) rfl ?_
  exact comp9 l Z a0 hw n0 h1 ca ba kC kB cf hc (Ac.other W1 nab) A1 nab nb (fun h' K q => hQ h' ((Keep.of_wr W1).trans K (fun y hy => Or.inl hy)) q)
set_option maxRecDepth 65536 in
set_option maxHeartbeats 40000000 in
theorem comp7 (l : Launch) (Z : State) (a0 : Array Value) (hw : Hw a0 Z) (n0 : Nat) (h : Heap) (ca ba : Addr) (kC kB : ClassId) (cf : Nat → Int32) (hc : ∀ j, j < 12 → 0 ≤ (cf j).toInt ∧ (cf j).toInt ≤ 255) (Ac : Ar Z h ca .char kC (LN 12 cf)) (Ab : Ar Z h ba .byte kB (LN 12 (bpre cf 7))) (nab : ca ≠ ba) (nb : n0 ≤ ba) {Q : Option Value → Heap → Prop} (hQ : ∀ h', Keep h h' [ba] → Ar Z h' ba .byte kB (LN 12 (bpre cf 12)) → Q (some (.int 12)) h') :
    Go l Z (⟨"java/lang/StringUTF16", "compress", "([CI[BII)I"⟩ : MethodName) jdk_52_method_21_code 7 (some .int) ({ frames := 0, cells := 0, slots := 0, locals := 0 } : Room) n0 Q h 0 0 3 #[.val (.ref ca), .val (.int (7 : Int32)), .val (.ref ba), .val (.int (7 : Int32)), .val (.int (12 : Int32)), .val (.int (7 : Int32)), .val (.int (cf 6))] [] := by
  refine Go.iload d6_3 (q := 5) rfl rfl ?_
  refine Go.iload d6_5 (q := 7) rfl rfl ?_
  refine Go.icmp_ge d6_7 (q := 44) (q' := 10) (by decide) rfl rfl (fun c_ => absurd (by decide) c_) (fun _ => ?_)
  refine Go.aloadN d6_10 (q := 11) rfl rfl rfl ?_
  refine Go.iloadN d6_11 (q := 12) rfl rfl ?_
  refine Go.caload d6_12 (q := 13) rfl Ac (by decide) (LN_get cf (show (7 : Int32).toNatClampNeg < 12 by decide)) ?_
  refine Go.istore d6_13 (q := 15) rfl (Ls' := #[.val (.ref ca), .val (.int (7 : Int32)), .val (.ref ba), .val (.int (7 : Int32)), .val (.int (12 : Int32)), .val (.int (7 : Int32)), .val (.int (cf 7))]) rfl ?_
  refine Go.iload d6_15 (q := 17) rfl rfl ?_
  refine Go.sipush d6_17 (q := 20) rfl (x := (255 : Int32)) (by decide) ?_
  refine Go.icmp_le d6_20 (q := 26) (q' := 23) (by decide) rfl rfl (fun _ => ?_) (fun c_ => absurd c_ (le255 (hc 7 (by decide)).2))
  refine Go.aloadN d6_26 (q := 27) rfl rfl rfl ?_
  refine Go.iloadN d6_27 (q := 28) rfl rfl ?_
  refine Go.iload d6_28 (q := 30) rfl rfl ?_
  refine Go.i2b d6_30 (q := 31) rfl ?_
  refine Go.bastore d6_31 (q := 32) rfl Ab (by decide) (by rw [LN_len]; decide) nb ?_
  intro h1 W1
  have A1 : Ar Z h1 ba .byte kB (LN 12 (bpre cf (7 + 1))) := by
    have q := Ab.set W1
    rw [LN_set _ (show (7 : Int32).toNatClampNeg < 12 by decide)] at q
    rw [← bpre_up]; exact q
  refine Go.iinc d6_32 (q := 35) rfl rfl (w := ((7 : Int32) + (1 : Int32))) rfl (Ls' := #[.val (.ref ca), .val (.int ((7 : Int32) + (1 : Int32))), .val (.ref ba), .val (.int (7 : Int32)), .val (.int (12 : Int32)), .val (.int (7 : Int32)), .val (.int (cf 7))]) rfl ?_
  refine Go.iinc d6_35 (q := 38) rfl rfl (w := ((7 : Int32) + (1 : Int32))) rfl (Ls' := #[.val (.ref ca), .val (.int ((7 : Int32) + (1 : Int32))), .val (.ref ba), .val (.int ((7 : Int32) + (1 : Int32))), .val (.int (12 : Int32)), .val (.int (7 : Int32)), .val (.int (cf 7))]) rfl ?_
  refine Go.iinc d6_38 (q := 41) rfl rfl (w := ((7 : Int32) + (1 : Int32))) rfl (Ls' := #[.val (.ref ca), .val (.int ((7 : Int32) + (1 : Int32))), .val (.ref ba), .val (.int ((7 : Int32) + (1 : Int32))), .val (.int (12 : Int32)), .val (.int ((7 : Int32) + (1 : Int32))), .val (.int (cf 7))]) rfl ?_
  refine Go.goto d6_41 (q := 3) (by decide) rfl ?_
  exact comp8 l Z a0 hw n0 h1 ca ba kC kB cf hc (Ac.other W1 nab) A1 nab nb (fun h' K q => hQ h' ((Keep.of_wr W1).trans K (fun y hy => Or.inl hy)) q)
set_option maxRecDepth 65536 in
set_option maxHeartbeats 40000000 in
theorem comp6 (l : Launch) (Z : State) (a0 : Array Value) (hw : Hw a0 Z) (n0 : Nat) (h : Heap) (ca ba : Addr) (kC kB : ClassId) (cf : Nat → Int32) (hc : ∀ j, j < 12 → 0 ≤ (cf j).toInt ∧ (cf j).toInt ≤ 255) (Ac : Ar Z h ca .char kC (LN 12 cf)) (Ab : Ar Z h ba .byte kB (LN 12 (bpre cf 6))) (nab : ca ≠ ba) (nb : n0 ≤ ba) {Q : Option Value → Heap → Prop} (hQ : ∀ h', Keep h h' [ba] → Ar Z h' ba .byte kB (LN 12 (bpre cf 12)) → Q (some (.int 12)) h') :
    Go l Z (⟨"java/lang/StringUTF16", "compress", "([CI[BII)I"⟩ : MethodName) jdk_52_method_21_code 7 (some .int) ({ frames := 0, cells := 0, slots := 0, locals := 0 } : Room) n0 Q h 0 0 3 #[.val (.ref ca), .val (.int (6 : Int32)), .val (.ref ba), .val (.int (6 : Int32)), .val (.int (12 : Int32)), .val (.int (6 : Int32)), .val (.int (cf 5))] [] := by
  refine Go.iload d6_3 (q := 5) rfl rfl ?_
  refine Go.iload d6_5 (q := 7) rfl rfl ?_
  refine Go.icmp_ge d6_7 (q := 44) (q' := 10) (by decide) rfl rfl (fun c_ => absurd (by decide) c_) (fun _ => ?_)
  refine Go.aloadN d6_10 (q := 11) rfl rfl rfl ?_
  refine Go.iloadN d6_11 (q := 12) rfl rfl ?_
  refine Go.caload d6_12 (q := 13) rfl Ac (by decide) (LN_get cf (show (6 : Int32).toNatClampNeg < 12 by decide)) ?_
  refine Go.istore d6_13 (q := 15) rfl (Ls' := #[.val (.ref ca), .val (.int (6 : Int32)), .val (.ref ba), .val (.int (6 : Int32)), .val (.int (12 : Int32)), .val (.int (6 : Int32)), .val (.int (cf 6))]) rfl ?_
  refine Go.iload d6_15 (q := 17) rfl rfl ?_
  refine Go.sipush d6_17 (q := 20) rfl (x := (255 : Int32)) (by decide) ?_
  refine Go.icmp_le d6_20 (q := 26) (q' := 23) (by decide) rfl rfl (fun _ => ?_) (fun c_ => absurd c_ (le255 (hc 6 (by decide)).2))
  refine Go.aloadN d6_26 (q := 27) rfl rfl rfl ?_
  refine Go.iloadN d6_27 (q := 28) rfl rfl ?_
  refine Go.iload d6_28 (q := 30) rfl rfl ?_
  refine Go.i2b d6_30 (q := 31) rfl ?_
  refine Go.bastore d6_31 (q := 32) rfl Ab (by decide) (by rw [LN_len]; decide) nb ?_
  intro h1 W1
  have A1 : Ar Z h1 ba .byte kB (LN 12 (bpre cf (6 + 1))) := by
    have q := Ab.set W1
    rw [LN_set _ (show (6 : Int32).toNatClampNeg < 12 by decide)] at q
    rw [← bpre_up]; exact q
  refine Go.iinc d6_32 (q := 35) rfl rfl (w := ((6 : Int32) + (1 : Int32))) rfl (Ls' := #[.val (.ref ca), .val (.int ((6 : Int32) + (1 : Int32))), .val (.ref ba), .val (.int (6 : Int32)), .val (.int (12 : Int32)), .val (.int (6 : Int32)), .val (.int (cf 6))]) rfl ?_
  refine Go.iinc d6_35 (q := 38) rfl rfl (w := ((6 : Int32) + (1 : Int32))) rfl (Ls' := #[.val (.ref ca), .val (.int ((6 : Int32) + (1 : Int32))), .val (.ref ba), .val (.int ((6 : Int32) + (1 : Int32))), .val (.int (12 : Int32)), .val (.int (6 : Int32)), .val (.int (cf 6))]) rfl ?_
  refine Go.iinc d6_38 (q := 41) rfl rfl (w := ((6 : Int32) + (1 : Int32))) rfl (Ls' := #[.val (.ref ca), .val (.int ((6 : Int32) + (1 : Int32))), .val (.ref ba), .val (.int ((6 : Int32) + (1 : Int32))), .val (.int (12 : Int32)), .val (.int ((6 : Int32) + (1 : Int32))), .val (.int (cf 6))]) rfl ?_
  refine Go.goto d6_41 (q := 3) (by decide) rfl ?_
  exact comp7 l Z a0 hw n0 h1 ca ba kC kB cf hc (Ac.other W1 nab) A1 nab nb (fun h' K q => hQ h' ((Keep.of_wr W1).trans K (fun y hy => Or.inl hy)) q)
set_option maxRecDepth 65536 in
set_option maxHeartbeats 40000000 in
theorem comp5 (l : Launch) (Z : State) (a0 : Array Value) (hw : Hw a0 Z) (n0 : Nat) (h : Heap) (ca ba : Addr) (kC kB : ClassId) (cf : Nat → Int32) (hc : ∀ j, j < 12 → 0 ≤ (cf j).toInt ∧ (cf j).toInt ≤ 255) (Ac : Ar Z h ca .char kC (LN 12 cf)) (Ab : Ar Z h ba .byte kB (LN 12 (bpre cf 5))) (nab : ca ≠ ba) (nb : n0 ≤ ba) {Q : Option Value → Heap → Prop} (hQ : ∀ h', Keep h h' [ba] → Ar Z h' ba .byte kB (LN 12 (bpre cf 12)) → Q (some (.int 12)) h') :
    Go l Z (⟨"java/lang/StringUTF16", "compress", "([CI[BII)I"⟩ : MethodName) jdk_52_method_21_code 7 (some .int) ({ frames := 0, cells := 0, slots := 0, locals := 0 } : Room) n0 Q h 0 0 3 #[.val (.ref ca), .val (.int (5 : Int32)), .val (.ref ba), .val (.int (5 : Int32)), .val (.int (12 : Int32)), .val (.int (5 : Int32)), .val (.int (cf 4))] [] := by
  refine Go.iload d6_3 (q := 5) rfl rfl ?_
  refine Go.iload d6_5 (q := 7) rfl rfl ?_
  refine Go.icmp_ge d6_7 (q := 44) (q' := 10) (by decide) rfl rfl (fun c_ => absurd (by decide) c_) (fun _ => ?_)
  refine Go.aloadN d6_10 (q := 11) rfl rfl rfl ?_
  refine Go.iloadN d6_11 (q := 12) rfl rfl ?_
  refine Go.caload d6_12 (q := 13) rfl Ac (by decide) (LN_get cf (show (5 : Int32).toNatClampNeg < 12 by decide)) ?_
  refine Go.istore d6_13 (q := 15) rfl (Ls' := #[.val (.ref ca), .val (.int (5 : Int32)), .val (.ref ba), .val (.int (5 : Int32)), .val (.int (12 : Int32)), .val (.int (5 : Int32)), .val (.int (cf 5))]) rfl ?_
  refine Go.iload d6_15 (q := 17) rfl rfl ?_
  refine Go.sipush d6_17 (q := 20) rfl (x := (255 : Int32)) (by decide) ?_
  refine Go.icmp_le d6_20 (q := 26) (q' := 23) (by decide) rfl rfl (fun _ => ?_) (fun c_ => absurd c_ (le255 (hc 5 (by decide)).2))
  refine Go.aloadN d6_26 (q := 27) rfl rfl rfl ?_
  refine Go.iloadN d6_27 (q := 28) rfl rfl ?_
  refine Go.iload d6_28 (q := 30) rfl rfl ?_
  refine Go.i2b d6_30 (q := 31) rfl ?_
  refine Go.bastore d6_31 (q := 32) rfl Ab (by decide) (by rw [LN_len]; decide) nb ?_
  intro h1 W1
  have A1 : Ar Z h1 ba .byte kB (LN 12 (bpre cf (5 + 1))) := by
    have q := Ab.set W1
    rw [LN_set _ (show (5 : Int32).toNatClampNeg < 12 by decide)] at q
    rw [← bpre_up]; exact q
  refine Go.iinc d6_32 (q := 35) rfl rfl (w := ((5 : Int32) + (1 : Int32))) rfl (Ls' := #[.val (.ref ca), .val (.int ((5 : Int32) + (1 : Int32))), .val (.ref ba), .val (.int (5 : Int32)), .val (.int (12 : Int32)), .val (.int (5 : Int32)), .val (.int (cf 5))]) rfl ?_
  refine Go.iinc d6_35 (q := 38) rfl rfl (w := ((5 : Int32) + (1 : Int32))) rfl (Ls' := #[.val (.ref ca), .val (.int ((5 : Int32) + (1 : Int32))), .val (.ref ba), .val (.int ((5 : Int32) + (1 : Int32))), .val (.int (12 : Int32)), .val (.int (5 : Int32)), .val (.int (cf 5))]) rfl ?_
  refine Go.iinc d6_38 (q := 41) rfl rfl (w := ((5 : Int32) + (1 : Int32))) rfl (Ls' := #[.val (.ref ca), .val (.int ((5 : Int32) + (1 : Int32))), .val (.ref ba), .val (.int ((5 : Int32) + (1 : Int32))), .val (.int (12 : Int32)), .val (.int ((5 : Int32) + (1 : Int32))), .val (.int (cf 5))]) rfl ?_
  refine Go.goto d6_41 (q := 3) (by decide) rfl ?_
  exact comp6 l Z a0 hw n0 h1 ca ba kC kB cf hc (Ac.other W1 nab) A1 nab nb (fun h' K q => hQ h' ((Keep.of_wr W1).trans K (fun y hy => Or.inl hy)) q)
set_option maxRecDepth 65536 in
set_option maxHeartbeats 40000000 in
theorem comp4 (l : Launch) (Z : State) (a0 : Array Value) (hw : Hw a0 Z) (n0 : Nat) (h : Heap) (ca ba : Addr) (kC kB : ClassId) (cf : Nat → Int32) (hc : ∀ j, j < 12 → 0 ≤ (cf j).toInt ∧ (cf j).toInt ≤ 255) (Ac : Ar Z h ca .char kC (LN 12 cf)) (Ab : Ar Z h ba .byte kB (LN 12 (bpre cf 4))) (nab : ca ≠ ba) (nb : n0 ≤ ba) {Q : Option Value → Heap → Prop} (hQ : ∀ h', Keep h h' [ba] → Ar Z h' ba .byte kB (LN 12 (bpre cf 12)) → Q (some (.int 12)) h') :
    Go l Z (⟨"java/lang/StringUTF16", "compress", "([CI[BII)I"⟩ : MethodName) jdk_52_method_21_code 7 (some .int) ({ frames := 0, cells := 0, slots := 0, locals := 0 } : Room) n0 Q h 0 0 3 #[.val (.ref ca), .val (.int (4 : Int32)), .val (.ref ba), .val (.int (4 : Int32)), .val (.int (12 : Int32)), .val (.int (4 : Int32)), .val (.int (cf 3))] [] := by
  refine Go.iload d6_3 (q := 5) rfl rfl ?_
  refine Go.iload d6_5 (q := 7) rfl rfl ?_
  refine Go.icmp_ge d6_7 (q := 44) (q' := 10) (by decide) rfl rfl (fun c_ => absurd (by decide) c_) (fun _ => ?_)
  refine Go.aloadN d6_10 (q := 11) rfl rfl rfl ?_
  refine Go.iloadN d6_11 (q := 12) rfl rfl ?_
  refine Go.caload d6_12 (q := 13) rfl Ac (by decide) (LN_get cf (show (4 : Int32).toNatClampNeg < 12 by decide)) ?_
  refine Go.istore d6_13 (q := 15) rfl (Ls' := #[.val (.ref ca), .val (.int (4 : Int32)), .val (.ref ba), .val (.int (4 : Int32)), .val (.int (12 : Int32)), .val (.int (4 : Int32)), .val (.int (cf 4))]) rfl ?_
  refine Go.iload d6_15 (q := 17) rfl rfl ?_
  refine Go.sipush d6_17 (q := 20) rfl (x := (255 : Int32)) (by decide) ?_
  refine Go.icmp_le d6_20 (q := 26) (q' := 23) (by decide) rfl rfl (fun _ => ?_) (fun c_ => absurd c_ (le255 (hc 4 (by decide)).2))
  refine Go.aloadN d6_26 (q := 27) rfl rfl rfl ?_
  refine Go.iloadN d6_27 (q := 28) rfl rfl ?_
  refine Go.iload d6_28 (q := 30) rfl rfl ?_
  refine Go.i2b d6_30 (q := 31) rfl ?_
  refine Go.bastore d6_31 (q := 32) rfl Ab (by decide) (by rw [LN_len]; decide) nb ?_
  intro h1 W1
  have A1 : Ar Z h1 ba .byte kB (LN 12 (bpre cf (4 + 1))) := by
    have q := Ab.set W1
    rw [LN_set _ (show (4 : Int32).toNatClampNeg < 12 by decide)] at q
    rw [← bpre_up]; exact q
  refine Go.iinc d6_32 (q := 35) rfl rfl (w := ((4 : Int32) + (1 : Int32))) rfl (Ls' := #[.val (.ref ca), .val (.int ((4 : Int32) + (1 : Int32))), .val (.ref ba), .val (.int (4 : Int32)), .val (.int (12 : Int32)), .val (.int (4 : Int32)), .val (.int (cf 4))]) rfl ?_
  refine Go.iinc d6_35 (q := 38) rfl rfl (w := ((4 : Int32) + (1 : Int32))) rfl (Ls' := #[.val (.ref ca), .val (.int ((4 : Int32) + (1 : Int32))), .val (.ref ba), .val (.int ((4 : Int32) + (1 : Int32))), .val (.int (12 : Int32)), .val (.int (4 : Int32)), .val (.int (cf 4))]) rfl ?_
  refine Go.iinc d6_38 (q := 41) rfl rfl (w := ((4 : Int32) + (1 : Int32))) rfl (Ls' := #[.val (.ref ca), .val (.int ((4 : Int32) + (1 : Int32))), .val (.ref ba), .val (.int ((4 : Int32) + (1 : Int32))), .val (.int (12 : Int32)), .val (.int ((4 : Int32) + (1 : Int32))), .val (.int (cf 4))]) rfl ?_
  refine Go.goto d6_41 (q := 3) (by decide) rfl ?_
  exact comp5 l Z a0 hw n0 h1 ca ba kC kB cf hc (Ac.other W1 nab) A1 nab nb (fun h' K q => hQ h' ((Keep.of_wr W1).trans K (fun y hy => Or.inl hy)) q)
set_option maxRecDepth 65536 in
set_option maxHeartbeats 40000000 in
theorem comp3 (l : Launch) (Z : State) (a0 : Array Value) (hw : Hw a0 Z) (n0 : Nat) (h : Heap) (ca ba : Addr) (kC kB : ClassId) (cf : Nat → Int32) (hc : ∀ j, j < 12 → 0 ≤ (cf j).toInt ∧ (cf j).toInt ≤ 255) (Ac : Ar Z h ca .char kC (LN 12 cf)) (Ab : Ar Z h ba .byte kB (LN 12 (bpre cf 3))) (nab : ca ≠ ba) (nb : n0 ≤ ba) {Q : Option Value → Heap → Prop} (hQ : ∀ h', Keep h h' [ba] → Ar Z h' ba .byte kB (LN 12 (bpre cf 12)) → Q (some (.int 12)) h') :
    Go l Z (⟨"java/lang/StringUTF16", "compress", "([CI[BII)I"⟩ : MethodName) jdk_52_method_21_code 7 (some .int) ({ frames := 0, cells := 0, slots := 0, locals := 0 } : Room) n0 Q h 0 0 3 #[.val (.ref ca), .val (.int (3 : Int32)), .val (.ref ba), .val (.int (3 : Int32)), .val (.int (12 : Int32)), .val (.int (3 : Int32)), .val (.int (cf 2))] [] := by
  refine Go.iload d6_3 (q := 5) rfl rfl ?_
  refine Go.iload d6_5 (q := 7) rfl rfl ?_
  refine Go.icmp_ge d6_7 (q := 44) (q' := 10) (by decide) rfl rfl (fun c_ => absurd (by decide) c_) (fun _ => ?_)
  refine Go.aloadN d6_10 (q := 11) rfl rfl rfl ?_
  refine Go.iloadN d6_11 (q := 12) rfl rfl ?_
  refine Go.caload d6_12 (q := 13) rfl Ac (by decide) (LN_get cf (show (3 : Int32).toNatClampNeg < 12 by decide)) ?_
  refine Go.istore d6_13 (q := 15) rfl (Ls' := #[.val (.ref ca), .val (.int (3 : Int32)), .val (.ref ba), .val (.int (3 : Int32)), .val (.int (12 : Int32)), .val (.int (3 : Int32)), .val (.int (cf 3))]) rfl ?_
  refine Go.iload d6_15 (q := 17) rfl rfl ?_
  refine Go.sipush d6_17 (q := 20) rfl (x := (255 : Int32)) (by decide) ?_
  refine Go.icmp_le d6_20 (q := 26) (q' := 23) (by decide) rfl rfl (fun _ => ?_) (fun c_ => absurd c_ (le255 (hc 3 (by decide)).2))
  refine Go.aloadN d6_26 (q := 27) rfl rfl rfl ?_
  refine Go.iloadN d6_27 (q := 28) rfl rfl ?_
  refine Go.iload d6_28 (q := 30) rfl rfl ?_
  refine Go.i2b d6_30 (q := 31) rfl ?_
  refine Go.bastore d6_31 (q := 32) rfl Ab (by decide) (by rw [LN_len]; decide) nb ?_
  intro h1 W1
  have A1 : Ar Z h1 ba .byte kB (LN 12 (bpre cf (3 + 1))) := by
    have q := Ab.set W1
    rw [LN_set _ (show (3 : Int32).toNatClampNeg < 12 by decide)] at q
    rw [← bpre_up]; exact q
  refine Go.iinc d6_32 (q := 35) rfl rfl (w := ((3 : Int32) + (1 : Int32))) rfl (Ls' := #[.val (.ref ca), .val (.int ((3 : Int32) + (1 : Int32))), .val (.ref ba), .val (.int (3 : Int32)), .val (.int (12 : Int32)), .val (.int (3 : Int32)), .val (.int (cf 3))]) rfl ?_
  refine Go.iinc d6_35 (q := 38) rfl rfl (w := ((3 : Int32) + (1 : Int32))) rfl (Ls' := #[.val (.ref ca), .val (.int ((3 : Int32) + (1 : Int32))), .val (.ref ba), .val (.int ((3 : Int32) + (1 : Int32))), .val (.int (12 : Int32)), .val (.int (3 : Int32)), .val (.int (cf 3))]) rfl ?_
  refine Go.iinc d6_38 (q := 41) rfl rfl (w := ((3 : Int32) + (1 : Int32))) rfl (Ls' := #[.val (.ref ca), .val (.int ((3 : Int32) + (1 : Int32))), .val (.ref ba), .val (.int ((3 : Int32) + (1 : Int32))), .val (.int (12 : Int32)), .val (.int ((3 : Int32) + (1 : Int32))), .val (.int (cf 3))]) rfl ?_
  refine Go.goto d6_41 (q := 3) (by decide) rfl ?_
  exact comp4 l Z a0 hw n0 h1 ca ba kC kB cf hc (Ac.other W1 nab) A1 nab nb (fun h' K q => hQ h' ((Keep.of_wr W1).trans K (fun y hy => Or.inl hy)) q)
set_option maxRecDepth 65536 in
set_option maxHeartbeats 40000000 in
theorem comp2 (l : Launch) (Z : State) (a0 : Array Value) (hw : Hw a0 Z) (n0 : Nat) (h : Heap) (ca ba : Addr) (kC kB : ClassId) (cf : Nat → Int32) (hc : ∀ j, j < 12 → 0 ≤ (cf j).toInt ∧ (cf j).toInt ≤ 255) (Ac : Ar Z h ca .char kC (LN 12 cf)) (Ab : Ar Z h ba .byte kB (LN 12 (bpre cf 2))) (nab : ca ≠ ba) (nb : n0 ≤ ba) {Q : Option Value → Heap → Prop} (hQ : ∀ h', Keep h h' [ba] → Ar Z h' ba .byte kB (LN 12 (bpre cf 12)) → Q (some (.int 12)) h') :
    Go l Z (⟨"java/lang/StringUTF16", "compress", "([CI[BII)I"⟩ : MethodName) jdk_52_method_21_code 7 (some .int) ({ frames := 0, cells := 0, slots := 0, locals := 0 } : Room) n0 Q h 0 0 3 #[.val (.ref ca), .val (.int (2 : Int32)), .val (.ref ba), .val (.int (2 : Int32)), .val (.int (12 : Int32)), .val (.int (2 : Int32)), .val (.int (cf 1))] [] := by
  refine Go.iload d6_3 (q := 5) rfl rfl ?_
  refine Go.iload d6_5 (q := 7) rfl rfl ?_
  refine Go.icmp_ge d6_7 (q := 44) (q' := 10) (by decide) rfl rfl (fun c_ => absurd (by decide) c_) (fun _ => ?_)
  refine Go.aloadN d6_10 (q := 11) rfl rfl rfl ?_
  refine Go.iloadN d6_11 (q := 12) rfl rfl ?_
  refine Go.caload d6_12 (q := 13) rfl Ac (by decide) (LN_get cf (show (2 : Int32).toNatClampNeg < 12 by decide)) ?_
  refine Go.istore d6_13 (q := 15) rfl (Ls' := #[.val (.ref ca), .val (.int (2 : Int32)), .val (.ref ba), .val (.int (2 : Int32)), .val (.int (12 : Int32)), .val (.int (2 : Int32)), .val (.int (cf 2))]) rfl ?_
  refine Go.iload d6_15 (q := 17) rfl rfl ?_
  refine Go.sipush d6_17 (q := 20) rfl (x := (255 : Int32)) (by decide) ?_
  refine Go.icmp_le d6_20 (q := 26) (q' := 23) (by decide) rfl rfl (fun _ => ?_) (fun c_ => absurd c_ (le255 (hc 2 (by decide)).2))
  refine Go.aloadN d6_26 (q := 27) rfl rfl rfl ?_
  refine Go.iloadN d6_27 (q := 28) rfl rfl ?_
  refine Go.iload d6_28 (q := 30) rfl rfl ?_
  refine Go.i2b d6_30 (q := 31) rfl ?_
  refine Go.bastore d6_31 (q := 32) rfl Ab (by decide) (by rw [LN_len]; decide) nb ?_
  intro h1 W1
  have A1 : Ar Z h1 ba .byte kB (LN 12 (bpre cf (2 + 1))) := by
    have q := Ab.set W1
    rw [LN_set _ (show (2 : Int32).toNatClampNeg < 12 by decide)] at q
    rw [← bpre_up]; exact q
  refine Go.iinc d6_32 (q := 35) rfl rfl (w := ((2 : Int32) + (1 : Int32))) rfl (Ls' := #[.val (.ref ca), .val (.int ((2 : Int32) + (1 : Int32))), .val (.ref ba), .val (.int (2 : Int32)), .val (.int (12 : Int32)), .val (.int (2 : Int32)), .val (.int (cf 2))]) rfl ?_
  refine Go.iinc d6_35 (q := 38) rfl rfl (w := ((2 : Int32) + (1 : Int32))) rfl (Ls' := #[.val (.ref ca), .val (.int ((2 : Int32) + (1 : Int32))), .val (.ref ba), .val (.int ((2 : Int32) + (1 : Int32))), .val (.int (12 : Int32)), .val (.int (2 : Int32)), .val (.int (cf 2))]) rfl ?_
  refine Go.iinc d6_38 (q := 41) rfl rfl (w := ((2 : Int32) + (1 : Int32))) rfl (Ls' := #[.val (.ref ca), .val (.int ((2 : Int32) + (1 : Int32))), .val (.ref ba), .val (.int ((2 : Int32) + (1 : Int32))), .val (.int (12 : Int32)), .val (.int ((2 : Int32) + (1 : Int32))), .val (.int (cf 2))]) rfl ?_
  refine Go.goto d6_41 (q := 3) (by decide) rfl ?_
  exact comp3 l Z a0 hw n0 h1 ca ba kC kB cf hc (Ac.other W1 nab) A1 nab nb (fun h' K q => hQ h' ((Keep.of_wr W1).trans K (fun y hy => Or.inl hy)) q)
set_option maxRecDepth 65536 in
set_option maxHeartbeats 40000000 in
theorem comp1 (l : Launch) (Z : State) (a0 : Array Value) (hw : Hw a0 Z) (n0 : Nat) (h : Heap) (ca ba : Addr) (kC kB : ClassId) (cf : Nat → Int32) (hc : ∀ j, j < 12 → 0 ≤ (cf j).toInt ∧ (cf j).toInt ≤ 255) (Ac : Ar Z h ca .char kC (LN 12 cf)) (Ab : Ar Z h ba .byte kB (LN 12 (bpre cf 1))) (nab : ca ≠ ba) (nb : n0 ≤ ba) {Q : Option Value → Heap → Prop} (hQ : ∀ h', Keep h h' [ba] → Ar Z h' ba .byte kB (LN 12 (bpre cf 12)) → Q (some (.int 12)) h') :
    Go l Z (⟨"java/lang/StringUTF16", "compress", "([CI[BII)I"⟩ : MethodName) jdk_52_method_21_code 7 (some .int) ({ frames := 0, cells := 0, slots := 0, locals := 0 } : Room) n0 Q h 0 0 3 #[.val (.ref ca), .val (.int (1 : Int32)), .val (.ref ba), .val (.int (1 : Int32)), .val (.int (12 : Int32)), .val (.int (1 : Int32)), .val (.int (cf 0))] [] := by
  refine Go.iload d6_3 (q := 5) rfl rfl ?_
  refine Go.iload d6_5 (q := 7) rfl rfl ?_
  refine Go.icmp_ge d6_7 (q := 44) (q' := 10) (by decide) rfl rfl (fun c_ => absurd (by decide) c_) (fun _ => ?_)
  refine Go.aloadN d6_10 (q := 11) rfl rfl rfl ?_
  refine Go.iloadN d6_11 (q := 12) rfl rfl ?_
  refine Go.caload d6_12 (q := 13) rfl Ac (by decide) (LN_get cf (show (1 : Int32).toNatClampNeg < 12 by decide)) ?_
  refine Go.istore d6_13 (q := 15) rfl (Ls' := #[.val (.ref ca), .val (.int (1 : Int32)), .val (.ref ba), .val (.int (1 : Int32)), .val (.int (12 : Int32)), .val (.int (1 : Int32)), .val (.int (cf 1))]) rfl ?_
  refine Go.iload d6_15 (q := 17) rfl rfl ?_
  refine Go.sipush d6_17 (q := 20) rfl (x := (255 : Int32)) (by decide) ?_
  refine Go.icmp_le d6_20 (q := 26) (q' := 23) (by decide) rfl rfl (fun _ => ?_) (fun c_ => absurd c_ (le255 (hc 1 (by decide)).2))
  refine Go.aloadN d6_26 (q := 27) rfl rfl rfl ?_
  refine Go.iloadN d6_27 (q := 28) rfl rfl ?_
  refine Go.iload d6_28 (q := 30) rfl rfl ?_
  refine Go.i2b d6_30 (q := 31) rfl ?_
  refine Go.bastore d6_31 (q := 32) rfl Ab (by decide) (by rw [LN_len]; decide) nb ?_
  intro h1 W1
  have A1 : Ar Z h1 ba .byte kB (LN 12 (bpre cf (1 + 1))) := by
    have q := Ab.set W1
    rw [LN_set _ (show (1 : Int32).toNatClampNeg < 12 by decide)] at q
    rw [← bpre_up]; exact q
  refine Go.iinc d6_32 (q := 35) rfl rfl (w := ((1 : Int32) + (1 : Int32))) rfl (Ls' := #[.val (.ref ca), .val (.int ((1 : Int32) + (1 : Int32))), .val (.ref ba), .val (.int (1 : Int32)), .val (.int (12 : Int32)), .val (.int (1 : Int32)), .val (.int (cf 1))]) rfl ?_
  refine Go.iinc d6_35 (q := 38) rfl rfl (w := ((1 : Int32) + (1 : Int32))) rfl (Ls' := #[.val (.ref ca), .val (.int ((1 : Int32) + (1 : Int32))), .val (.ref ba), .val (.int ((1 : Int32) + (1 : Int32))), .val (.int (12 : Int32)), .val (.int (1 : Int32)), .val (.int (cf 1))]) rfl ?_
  refine Go.iinc d6_38 (q := 41) rfl rfl (w := ((1 : Int32) + (1 : Int32))) rfl (Ls' := #[.val (.ref ca), .val (.int ((1 : Int32) + (1 : Int32))), .val (.ref ba), .val (.int ((1 : Int32) + (1 : Int32))), .val (.int (12 : Int32)), .val (.int ((1 : Int32) + (1 : Int32))), .val (.int (cf 1))]) rfl ?_
  refine Go.goto d6_41 (q := 3) (by decide) rfl ?_
  exact comp2 l Z a0 hw n0 h1 ca ba kC kB cf hc (Ac.other W1 nab) A1 nab nb (fun h' K q => hQ h' ((Keep.of_wr W1).trans K (fun y hy => Or.inl hy)) q)
set_option maxRecDepth 65536 in
set_option maxHeartbeats 40000000 in
theorem comp0 (l : Launch) (Z : State) (a0 : Array Value) (hw : Hw a0 Z) (n0 : Nat) (h : Heap) (ca ba : Addr) (kC kB : ClassId) (cf : Nat → Int32) (hc : ∀ j, j < 12 → 0 ≤ (cf j).toInt ∧ (cf j).toInt ≤ 255) (Ac : Ar Z h ca .char kC (LN 12 cf)) (Ab : Ar Z h ba .byte kB (LN 12 (bpre cf 0))) (nab : ca ≠ ba) (nb : n0 ≤ ba) {Q : Option Value → Heap → Prop} (hQ : ∀ h', Keep h h' [ba] → Ar Z h' ba .byte kB (LN 12 (bpre cf 12)) → Q (some (.int 12)) h') :
    Go l Z (⟨"java/lang/StringUTF16", "compress", "([CI[BII)I"⟩ : MethodName) jdk_52_method_21_code 7 (some .int) ({ frames := 0, cells := 0, slots := 0, locals := 0 } : Room) n0 Q h 0 0 3 #[.val (.ref ca), .val (.int (0 : Int32)), .val (.ref ba), .val (.int (0 : Int32)), .val (.int (12 : Int32)), .val (.int (0 : Int32)), .unset] [] := by
  refine Go.iload d6_3 (q := 5) rfl rfl ?_
  refine Go.iload d6_5 (q := 7) rfl rfl ?_
  refine Go.icmp_ge d6_7 (q := 44) (q' := 10) (by decide) rfl rfl (fun c_ => absurd (by decide) c_) (fun _ => ?_)
  refine Go.aloadN d6_10 (q := 11) rfl rfl rfl ?_
  refine Go.iloadN d6_11 (q := 12) rfl rfl ?_
  refine Go.caload d6_12 (q := 13) rfl Ac (by decide) (LN_get cf (show (0 : Int32).toNatClampNeg < 12 by decide)) ?_
  refine Go.istore d6_13 (q := 15) rfl (Ls' := #[.val (.ref ca), .val (.int (0 : Int32)), .val (.ref ba), .val (.int (0 : Int32)), .val (.int (12 : Int32)), .val (.int (0 : Int32)), .val (.int (cf 0))]) rfl ?_
  refine Go.iload d6_15 (q := 17) rfl rfl ?_
  refine Go.sipush d6_17 (q := 20) rfl (x := (255 : Int32)) (by decide) ?_
  refine Go.icmp_le d6_20 (q := 26) (q' := 23) (by decide) rfl rfl (fun _ => ?_) (fun c_ => absurd c_ (le255 (hc 0 (by decide)).2))
  refine Go.aloadN d6_26 (q := 27) rfl rfl rfl ?_
  refine Go.iloadN d6_27 (q := 28) rfl rfl ?_
  refine Go.iload d6_28 (q := 30) rfl rfl ?_
  refine Go.i2b d6_30 (q := 31) rfl ?_
  refine Go.bastore d6_31 (q := 32) rfl Ab (by decide) (by rw [LN_len]; decide) nb ?_
  intro h1 W1
  have A1 : Ar Z h1 ba .byte kB (LN 12 (bpre cf (0 + 1))) := by
    have q := Ab.set W1
    rw [LN_set _ (show (0 : Int32).toNatClampNeg < 12 by decide)] at q
    rw [← bpre_up]; exact q
  refine Go.iinc d6_32 (q := 35) rfl rfl (w := ((0 : Int32) + (1 : Int32))) rfl (Ls' := #[.val (.ref ca), .val (.int ((0 : Int32) + (1 : Int32))), .val (.ref ba), .val (.int (0 : Int32)), .val (.int (12 : Int32)), .val (.int (0 : Int32)), .val (.int (cf 0))]) rfl ?_
  refine Go.iinc d6_35 (q := 38) rfl rfl (w := ((0 : Int32) + (1 : Int32))) rfl (Ls' := #[.val (.ref ca), .val (.int ((0 : Int32) + (1 : Int32))), .val (.ref ba), .val (.int ((0 : Int32) + (1 : Int32))), .val (.int (12 : Int32)), .val (.int (0 : Int32)), .val (.int (cf 0))]) rfl ?_
  refine Go.iinc d6_38 (q := 41) rfl rfl (w := ((0 : Int32) + (1 : Int32))) rfl (Ls' := #[.val (.ref ca), .val (.int ((0 : Int32) + (1 : Int32))), .val (.ref ba), .val (.int ((0 : Int32) + (1 : Int32))), .val (.int (12 : Int32)), .val (.int ((0 : Int32) + (1 : Int32))), .val (.int (cf 0))]) rfl ?_
  refine Go.goto d6_41 (q := 3) (by decide) rfl ?_
  exact comp1 l Z a0 hw n0 h1 ca ba kC kB cf hc (Ac.other W1 nab) A1 nab nb (fun h' K q => hQ h' ((Keep.of_wr W1).trans K (fun y hy => Or.inl hy)) q)
set_option maxRecDepth 65536 in
set_option maxHeartbeats 40000000 in
theorem comp (l : Launch) (Z : State) (a0 : Array Value) (hw : Hw a0 Z) (n0 : Nat) (h : Heap) (ca ba : Addr) (kC kB : ClassId) (cf : Nat → Int32) (hc : ∀ j, j < 12 → 0 ≤ (cf j).toInt ∧ (cf j).toInt ≤ 255) (Ac : Ar Z h ca .char kC (LN 12 cf)) (Ab : Ar Z h ba .byte kB (LN 12 (bpre cf 0))) (nab : ca ≠ ba) (nb : n0 ≤ ba) {Q : Option Value → Heap → Prop} (hQ : ∀ h', Keep h h' [ba] → Ar Z h' ba .byte kB (LN 12 (bpre cf 12)) → Q (some (.int 12)) h') :
    Go l Z (⟨"java/lang/StringUTF16", "compress", "([CI[BII)I"⟩ : MethodName) jdk_52_method_21_code 7 (some .int) ({ frames := 0, cells := 0, slots := 0, locals := 0 } : Room) n0 Q h 0 0 0 #[.val (.ref ca), .val (.int (0 : Int32)), .val (.ref ba), .val (.int (0 : Int32)), .val (.int (12 : Int32)), .unset, .unset] [] := by
  refine Go.iconst d6_0 (q := 1) rfl (x := (0 : Int32)) (by decide) ?_
  refine Go.istore d6_1 (q := 3) rfl (Ls' := #[.val (.ref ca), .val (.int (0 : Int32)), .val (.ref ba), .val (.int (0 : Int32)), .val (.int (12 : Int32)), .val (.int (0 : Int32)), .unset]) rfl ?_
  exact comp0 l Z a0 hw n0 h ca ba kC kB cf hc Ac Ab nab nb hQ
theorem ext_of_keep {h h' : Heap} (K : Keep h h' []) : Ext h h' := ⟨K.1, fun a c q => K.2.1 a c q (by simp)⟩
theorem byt_of {cf : Nat → Int32} : LN 12 (bpre cf 12) = LN 12 (byt cf) := by
  unfold LN
  apply List.map_congr_left
  intro i hi
  rw [List.mem_range] at hi
  show Value.int (if i < 12 then (cf i).toInt8.toInt32 else 0) = _
  rw [if_pos hi]; rfl
set_option maxRecDepth 65536 in
set_option maxHeartbeats 40000000 in
theorem compress (l : Launch) (Z : State) (a0 : Array Value) (hw : Hw a0 Z) (n0 : Nat) (h : Heap) (O : Old Z n0 h) (ca : Addr) (kC : ClassId) (cf : Nat → Int32) (hc : ∀ j, j < 12 → 0 ≤ (cf j).toInt ∧ (cf j).toInt ≤ 255) (Ac : Ar Z h ca .char kC (LN 12 cf)) {Q : Option Value → Heap → Prop} (hQ : ∀ h' b kB, b = h.size → Ext h h' → Ar Z h' b .byte kB (LN 12 (byt cf)) → Q (some (.ref b)) h') :
    Go l Z (⟨"java/lang/StringUTF16", "compress", "([CII)[B"⟩ : MethodName) jdk_52_method_16_code 6 (some (.array .byte)) ({ frames := 1, cells := 1, slots := 12, locals := 24 } : Room) n0 Q h 0 0 0 #[.val (.ref ca), .val (.int (0 : Int32)), .val (.int (12 : Int32)), .unset, .unset, .unset] [] := by
  refine Go.iloadN d5_0 (q := 1) rfl rfl ?_
  refine Go.newarray (cap := 12) d5_1 (q := 3) rfl (w23 hw) (by decide) (by decide) (by decide) (by decide) (by decide) ?_
  intro h1 ba kB e1 X1 A1
  have nb : n0 ≤ ba := new_le (O.1 ▸ O.2.1) e1
  have nab : ca ≠ ba := new_ne Ac.lt e1
  have A0 : Ar Z h1 ba .byte kB (LN 12 (bpre cf 0)) := by
    have e : bpre cf 0 = fun _ => 0 := by funext j; simp [bpre]
    rw [e, LN_zero]; exact A1
  refine Go.astoreN d5_3 (q := 4) rfl rfl (Ls' := #[.val (.ref ca), .val (.int (0 : Int32)), .val (.int (12 : Int32)), .val (.ref ba), .unset, .unset]) rfl ?_
  refine Go.aloadN d5_4 (q := 5) rfl rfl rfl ?_
  refine Go.iloadN d5_5 (q := 6) rfl rfl ?_
  refine Go.aloadN d5_6 (q := 7) rfl rfl rfl ?_
  refine Go.iconst d5_7 (q := 8) rfl (x := (0 : Int32)) (by decide) ?_
  refine Go.iloadN d5_8 (q := 9) rfl rfl ?_
  refine Go.callSV (P := fun w h' => w = .int (12 : Int32) ∧ Keep h1 h' [ba] ∧ Ar Z h' ba .byte kB (LN 12 (bpre cf 12))) (argsL := [(.ref ca), (.int (0 : Int32)), (.ref ba), (.int (0 : Int32)), (.int (12 : Int32))]) (rest := []) (wd := 0) (Ls1 := #[.val (.ref ca), .val (.int (0 : Int32)), .val (.ref ba), .val (.int (0 : Int32)), .val (.int (12 : Int32)), .unset, .unset]) d5_9 (q := 12) rfl (w24 hw) (w25 hw) (w21 hw) (w26 hw) (by decide) pn6 pd6 rfl rfl (fun m_ => by simp [entryFrame, mkF, argsToLocals, Value.category]) rfl (by decide) rfl (by decide) (by decide) (by decide) (comp l Z a0 hw n0 h1 ca ba kC kB cf hc (Ac.ext X1) A0 nab nb (Q := RV (fun w h' => w = .int (12 : Int32) ∧ Keep h1 h' [ba] ∧ Ar Z h' ba .byte kB (LN 12 (bpre cf 12)))) (fun h' q1 q2 => ⟨_, rfl, rfl, q1, q2⟩)) ?_
  rintro _ h2 ⟨rfl, K2, A2⟩
  refine Go.istore d5_12 (q := 14) rfl (Ls' := #[.val (.ref ca), .val (.int (0 : Int32)), .val (.int (12 : Int32)), .val (.ref ba), .val (.int (12 : Int32)), .unset]) rfl ?_
  refine Go.iload d5_14 (q := 16) rfl rfl ?_
  refine Go.iloadN d5_16 (q := 17) rfl rfl ?_
  refine Go.icmp_eq d5_17 (q := 57) (q' := 20) (by decide) rfl rfl (fun _ => ?_) (fun c_ => absurd (by decide) c_)
  refine Go.aloadN d5_57 (q := 58) rfl rfl rfl ?_
  refine Go.areturn d5_58 (by decide) (by decide) rfl rfl ?_
  exact hQ h2 ba kB e1 (ext_of_keep (((Keep.refl h []).ext X1).trans K2 (fun y hy => by cases List.mem_singleton.mp hy; exact Or.inr (Nat.le_of_eq e1.symm)))) (by rw [← byt_of]; exact A2)
set_option maxRecDepth 65536 in
set_option maxHeartbeats 40000000 in
theorem coderOf (l : Launch) (Z : State) (a0 : Array Value) (hw : Hw a0 Z) (n0 : Nat) (h : Heap) (ba : Addr) (kB : ClassId) (g : Nat → Int32) (Ab : Ar Z h ba .byte kB (LN 12 g)) {Q : Option Value → Heap → Prop} (hQ : Q (some (.int 0)) h) :
    Go l Z (⟨"java/lang/StringUTF16", "coderFromArrayLen", "([BI)B"⟩ : MethodName) jdk_52_method_15_code 2 (some .byte) ({ frames := 0, cells := 0, slots := 0, locals := 0 } : Room) n0 Q h 0 0 0 #[.val (.ref ba), .val (.int (12 : Int32))] [] := by
  refine Go.iloadN d7_0 (q := 1) rfl rfl ?_
  refine Go.aloadN d7_1 (q := 2) rfl rfl rfl ?_
  refine Go.arraylength d7_2 (q := 3) rfl Ab (z := 12) (by rw [LN_len]; rfl) ?_
  refine Go.isub d7_3 (q := 4) rfl ?_
  refine Go.bipush d7_4 (q := 6) rfl (x := (31 : Int32)) (by decide) ?_
  refine Go.iushr d7_6 (q := 7) rfl ?_
  refine Go.i2b d7_7 (q := 8) rfl ?_
  refine Go.breturn d7_8 (by decide) (by decide) (by decide) ?_
  exact hQ
set_option maxRecDepth 65536 in
set_option maxHeartbeats 40000000 in
theorem st_init0 (l : Launch) (Z : State) (a0 : Array Value) (hw : Hw a0 Z) (n0 : Nat) (h : Heap) (O : Old Z n0 h) (s ca : Addr) (kC : ClassId) (cf : Nat → Int32) (hc : ∀ j, j < 12 → 0 ≤ (cf j).toInt ∧ (cf j).toInt ≤ 255) (Ac : Ar Z h ca .char kC (LN 12 cf)) (ns : n0 ≤ s) (E : Exa Z h s STN) (Fc : Fld Z h s STN "coder" "B" (.int 0)) (Fv : Fld Z h s STN "value" "[B" .null) (cz : Int32) (sf : Value) (F : Facts Z cz sf) {Q : Option Value → Heap → Prop} (hQ : ∀ h' b, h.size ≤ b → Keep h h' [s] → Old Z n0 h' → ST Z h' s b cf → Q none h') :
    Go l Z (⟨"java/lang/String", "<init>", "([CIILjava/lang/Void;)V"⟩ : MethodName) jdk_42_method_149_code 6 none ({ frames := 2, cells := 1, slots := 12, locals := 48 } : Room) n0 Q h 0 0 0 #[.val (.ref s), .val (.ref ca), .val (.int (0 : Int32)), .val (.int (12 : Int32)), .val .null, .unset] [] := by
  refine Go.aloadN d3_0 (q := 1) rfl rfl rfl ?_
  refine Go.initObj d3_1 (q := 4) rfl (w15 hw) (w16 hw) (w17 hw) rfl (by decide) rfl (by decide) ?_
  refine Go.iloadN d3_4 (q := 5) rfl rfl ?_
  refine Go.if_ne d3_5 (q := 27) (q' := 8) (by decide) rfl rfl (fun _ => ?_) (fun c_ => absurd c_ (by decide))
  refine Go.getS d3_27 (q := 30) rfl (w18 hw) (F.S_cs.ext O.2) ?_
  refine Go.if_eq d3_30 (q := 58) (q' := 33) (by decide) rfl rfl (fun c_ => absurd c_ F.N_cs) (fun _ => ?_)
  refine Go.aloadN d3_33 (q := 34) rfl rfl rfl ?_
  refine Go.iloadN d3_34 (q := 35) rfl rfl ?_
  refine Go.iloadN d3_35 (q := 36) rfl rfl ?_
  refine Go.callSV (P := fun w h' => ∃ b kB, w = .ref b ∧ b = h.size ∧ Ext h h' ∧ Ar Z h' b .byte kB (LN 12 (byt cf))) (argsL := [(.ref ca), (.int (0 : Int32)), (.int (12 : Int32))]) (rest := []) (wd := 0) (Ls1 := #[.val (.ref ca), .val (.int (0 : Int32)), .val (.int (12 : Int32)), .unset, .unset, .unset]) d3_36 (q := 39) rfl (w19 hw) (w20 hw) (w21 hw) (w22 hw) (by decide) pn5 pd5 rfl rfl (fun m_ => by simp [entryFrame, mkF, argsToLocals, Value.category]) rfl (by decide) rfl (by decide) (by decide) (by decide) (compress l Z a0 hw n0 h O ca kC cf hc Ac (Q := RV (fun w h' => ∃ b kB, w = .ref b ∧ b = h.size ∧ Ext h h' ∧ Ar Z h' b .byte kB (LN 12 (byt cf)))) (fun h' b kB q1 q2 q3 => ⟨_, rfl, b, kB, rfl, q1, q2, q3⟩)) ?_
  rintro _ h1 ⟨b, kB, rfl, e1, X1, B1⟩
  refine Go.astore d3_39 (q := 41) rfl rfl (Ls' := #[.val (.ref s), .val (.ref ca), .val (.int (0 : Int32)), .val (.int (12 : Int32)), .val .null, .val (.ref b)]) rfl ?_
  refine Go.aloadN d3_41 (q := 42) rfl rfl rfl ?_
  refine Go.aload d3_42 (q := 44) rfl rfl rfl ?_
  refine Go.iloadN d3_44 (q := 45) rfl rfl ?_
  refine Go.callSV (P := fun w h' => w = .int (0 : Int32) ∧ h1 = h') (argsL := [(.ref b), (.int (12 : Int32))]) (rest := [(.ref s)]) (wd := 1) (Ls1 := #[.val (.ref b), .val (.int (12 : Int32))]) d3_45 (q := 48) rfl (w27 hw) (w28 hw) (w21 hw) (w29 hw) (by decide) pn7 pd7 rfl rfl (fun m_ => by simp [entryFrame, mkF, argsToLocals, Value.category]) rfl (by decide) rfl (by decide) (by decide) (by decide) (coderOf l Z a0 hw n0 h1 b kB _ B1 (Q := RV (fun w h' => w = .int (0 : Int32) ∧ h1 = h')) ⟨_, rfl, rfl, rfl⟩) ?_
  rintro _ _ ⟨rfl, rfl⟩
  refine Go.putF d3_48 (q := 51) rfl (host := "") (Or.inl (w30 hw)) Via.refl (Fc.ext X1) (E.ext X1) (Or.inr ⟨(w31 hw), rfl, rfl⟩) (w6 hw) pTb rfl rfl ns ?_
  intro h2 W2
  have Fv2 := (Fv.ext X1).nxt W2 (Or.inr (w33 hw)) (Or.inr (w31 hw)) (by decide) pTB pTb
  have E2 := (E.ext X1).wr W2
  have Fc2 := (Fc.ext X1).same W2
  have nsb : s ≠ b := new_ne E.lt e1
  have B2 := B1.other W2 (Ne.symm nsb)
  refine Go.aloadN d3_51 (q := 52) rfl rfl rfl ?_
  refine Go.aload d3_52 (q := 54) rfl rfl rfl ?_
  refine Go.putF d3_54 (q := 57) rfl (host := "") (Or.inl (w32 hw)) Via.refl Fv2 E2 (Or.inr ⟨(w33 hw), rfl, rfl⟩) (w6 hw) pTB rfl rfl ns ?_
  intro h3 W3
  refine Go.vreturn d3_57 (by decide) (by decide) ?_
  exact hQ h3 b (Nat.le_of_eq e1.symm) ((((Keep.refl h [s]).ext X1).wr W2 (Or.inl (by simp))).wr W3 (Or.inl (by simp))) (((O.ext X1).wr W2 ns).wr W3 ns) ⟨E2.wr W3, Fc2.nxt W3 (Or.inr (w31 hw)) (Or.inr (w33 hw)) (by decide) pTb pTB, Fv2.same W3, ⟨kB, B2.other W3 (Ne.symm nsb)⟩, hc⟩
set_option maxRecDepth 65536 in
set_option maxHeartbeats 40000000 in
theorem st_init (l : Launch) (Z : State) (a0 : Array Value) (hw : Hw a0 Z) (n0 : Nat) (h : Heap) (O : Old Z n0 h) (s ca : Addr) (kC : ClassId) (cf : Nat → Int32) (hc : ∀ j, j < 12 → 0 ≤ (cf j).toInt ∧ (cf j).toInt ≤ 255) (Ac : Ar Z h ca .char kC (LN 12 cf)) (ns : n0 ≤ s) (E : Exa Z h s STN) (Fc : Fld Z h s STN "coder" "B" (.int 0)) (Fv : Fld Z h s STN "value" "[B" .null) (cz : Int32) (sf : Value) (F : Facts Z cz sf) {Q : Option Value → Heap → Prop} (hQ : ∀ h' b, h.size ≤ b → Keep h h' [s] → Old Z n0 h' → ST Z h' s b cf → Q none h') :
    Go l Z (⟨"java/lang/String", "<init>", "([C)V"⟩ : MethodName) jdk_42_method_3_code 2 none ({ frames := 3, cells := 1, slots := 12, locals := 72 } : Room) n0 Q h 0 0 0 #[.val (.ref s), .val (.ref ca)] [] := by
  refine Go.aloadN d2_0 (q := 1) rfl rfl rfl ?_
  refine Go.aloadN d2_1 (q := 2) rfl rfl rfl ?_
  refine Go.iconst d2_2 (q := 3) rfl (x := (0 : Int32)) (by decide) ?_
  refine Go.aloadN d2_3 (q := 4) rfl rfl rfl ?_
  refine Go.arraylength d2_4 (q := 5) rfl Ac (z := 12) (by rw [LN_len]; rfl) ?_
  refine Go.aconstNull d2_5 (q := 6) rfl ?_
  refine Go.callIN (P := fun h' => ∃ b, h.size ≤ b ∧ Keep h h' [s] ∧ Old Z n0 h' ∧ ST Z h' s b cf) (argsL := [(.ref ca), (.int (0 : Int32)), (.int (12 : Int32)), .null]) (rest := []) (wd := 0) (Ls1 := #[.val (.ref s), .val (.ref ca), .val (.int (0 : Int32)), .val (.int (12 : Int32)), .val .null, .unset]) d2_6 (q := 9) rfl rfl (w11 hw) (w12 hw) (w7 hw) (w14 hw) (by decide) pn3 pd3 rfl rfl (fun m_ => by simp [entryFrame, mkF, argsToLocals, Value.category]) rfl (by decide) rfl (by decide) (by decide) (by decide) (st_init0 l Z a0 hw n0 h O s ca kC cf hc Ac ns E Fc Fv cz sf F (Q := RN (fun h' => ∃ b, h.size ≤ b ∧ Keep h h' [s] ∧ Old Z n0 h' ∧ ST Z h' s b cf)) (fun h' b q1 q2 q3 q4 => ⟨rfl, b, q1, q2, q3, q4⟩)) ?_
  rintro h1 ⟨b, q1, q2, q3, q4⟩
  refine Go.vreturn d2_9 (by decide) (by decide) ?_
  exact hQ h1 b q1 q2 q3 q4
set_option maxRecDepth 65536 in
set_option maxHeartbeats 40000000 in
theorem st_coder (l : Launch) (Z : State) (a0 : Array Value) (hw : Hw a0 Z) (n0 : Nat) (h : Heap) (O : Old Z n0 h) (s b : Addr) (cf : Nat → Int32) (S : ST Z h s b cf) (cz : Int32) (sf : Value) (F : Facts Z cz sf) {Q : Option Value → Heap → Prop} (hQ : Q (some (.int 0)) h) :
    Go l Z (⟨"java/lang/String", "coder", "()B"⟩ : MethodName) jdk_42_method_152_code 1 (some .byte) ({ frames := 0, cells := 0, slots := 0, locals := 0 } : Room) n0 Q h 0 0 0 #[.val (.ref s)] [] := by
  refine Go.getS d10_0 (q := 3) rfl (w18 hw) (F.S_cs.ext O.2) ?_
  refine Go.if_eq d10_3 (q := 13) (q' := 6) (by decide) rfl rfl (fun c_ => absurd c_ F.N_cs) (fun _ => ?_)
  refine Go.aloadN d10_6 (q := 7) rfl rfl rfl ?_
  refine Go.getF d10_7 (q := 10) rfl (host := "") (Or.inl (w30 hw)) Via.refl S.2.1 ?_
  refine Go.goto d10_10 (q := 14) (by decide) rfl ?_
  refine Go.breturn d10_14 (by decide) (by decide) (by decide) ?_
  exact hQ
set_option maxRecDepth 65536 in
set_option maxHeartbeats 40000000 in
theorem st_latin (l : Launch) (Z : State) (a0 : Array Value) (hw : Hw a0 Z) (n0 : Nat) (h : Heap) (O : Old Z n0 h) (s b : Addr) (cf : Nat → Int32) (S : ST Z h s b cf) (cz : Int32) (sf : Value) (F : Facts Z cz sf) {Q : Option Value → Heap → Prop} (hQ : Q (some (.int 1)) h) :
    Go l Z (⟨"java/lang/String", "isLatin1", "()Z"⟩ : MethodName) jdk_42_method_154_code 1 (some .boolean) ({ frames := 0, cells := 0, slots := 0, locals := 0 } : Room) n0 Q h 0 0 0 #[.val (.ref s)] [] := by
  refine Go.getS d12_0 (q := 3) rfl (w18 hw) (F.S_cs.ext O.2) ?_
  refine Go.if_eq d12_3 (q := 17) (q' := 6) (by decide) rfl rfl (fun c_ => absurd c_ F.N_cs) (fun _ => ?_)
  refine Go.aloadN d12_6 (q := 7) rfl rfl rfl ?_
  refine Go.getF d12_7 (q := 10) rfl (host := "") (Or.inl (w30 hw)) Via.refl S.2.1 ?_
  refine Go.if_ne d12_10 (q := 17) (q' := 13) (by decide) rfl rfl (fun c_ => absurd (by decide) c_) (fun _ => ?_)
  refine Go.iconst d12_13 (q := 14) rfl (x := (1 : Int32)) (by decide) ?_
  refine Go.goto d12_14 (q := 18) (by decide) rfl ?_
  refine Go.zreturn d12_18 (by decide) (by decide) (by decide) ?_
  exact hQ
set_option maxRecDepth 65536 in
set_option maxHeartbeats 40000000 in
theorem st_length (l : Launch) (Z : State) (a0 : Array Value) (hw : Hw a0 Z) (n0 : Nat) (h : Heap) (O : Old Z n0 h) (s b : Addr) (cf : Nat → Int32) (S : ST Z h s b cf) (cz : Int32) (sf : Value) (F : Facts Z cz sf) {Q : Option Value → Heap → Prop} (hQ : Q (some (.int 12)) h) :
    Go l Z (⟨"java/lang/String", "length", "()I"⟩ : MethodName) jdk_42_method_54_code 1 (some .int) ({ frames := 1, cells := 0, slots := 0, locals := 14 } : Room) n0 Q h 0 0 0 #[.val (.ref s)] [] := by
  obtain ⟨kB, Ab⟩ := S.2.2.2.1
  refine Go.aloadN d9_0 (q := 1) rfl rfl rfl ?_
  refine Go.getF d9_1 (q := 4) rfl (host := "") (Or.inl (w32 hw)) Via.refl S.2.2.1 ?_
  refine Go.arraylength d9_4 (q := 5) rfl Ab (z := 12) (by rw [LN_len]; rfl) ?_
  refine Go.aloadN d9_5 (q := 6) rfl rfl rfl ?_
  refine Go.callVV (P := fun w h' => w = .int (0 : Int32) ∧ h = h') (argsL := []) (rest := [(.int (12 : Int32))]) (wd := 1) (Ls1 := #[.val (.ref s)]) d9_6 (q := 9) rfl (w47 hw) (w48 hw) (w50 hw) (w49 hw) (w51 hw) (w7 hw) (by decide) pn10 pd10 rfl rfl S.1 (fun m_ => by simp [entryFrame, mkF, argsToLocals, Value.category]) rfl (by decide) rfl (by decide) (by decide) (by decide) (st_coder l Z a0 hw n0 h O s b cf S cz sf F (Q := RV (fun w h' => w = .int (0 : Int32) ∧ h = h')) ⟨_, rfl, rfl, rfl⟩) ?_
  rintro _ _ ⟨rfl, rfl⟩
  refine Go.ishr d9_9 (q := 10) rfl ?_
  refine Go.ireturn d9_10 (by decide) (by decide) ?_
  exact hQ
set_option maxRecDepth 65536 in
set_option maxHeartbeats 40000000 in
theorem pr_check (l : Launch) (Z : State) (a0 : Array Value) (hw : Hw a0 Z) (n0 : Nat) (h : Heap) (i : Int32) (ir : ¬ i < 0 ∧ i.toNatClampNeg < 12) (cz : Int32) (sf : Value) (F : Facts Z cz sf) {Q : Option Value → Heap → Prop} (hQ : Q (some (.int i)) h) :
    Go l Z (⟨"jdk/internal/util/Preconditions", "checkIndex", "(IILjava/util/function/BiFunction;)I"⟩ : MethodName) jdk_41_method_11_code 3 (some .int) ({ frames := 0, cells := 0, slots := 0, locals := 0 } : Room) n0 Q h 0 0 0 #[.val (.int i), .val (.int (12 : Int32)), .val sf] [] := by
  have lt12 : i < 12 := by
    rw [Int32.lt_iff_toInt_lt]
    have e : (12 : Int32).toInt = 12 := rfl
    have q : i.toInt.toNat < 12 := ir.2
    omega
  refine Go.iloadN d15_0 (q := 1) rfl rfl ?_
  refine Go.if_lt d15_1 (q := 9) (q' := 4) (by decide) rfl rfl (fun c_ => absurd c_ ir.1) (fun _ => ?_)
  refine Go.iloadN d15_4 (q := 5) rfl rfl ?_
  refine Go.iloadN d15_5 (q := 6) rfl rfl ?_
  refine Go.icmp_lt d15_6 (q := 16) (q' := 9) (by decide) rfl rfl (fun _ => ?_) (fun c_ => absurd lt12 c_)
  refine Go.iloadN d15_16 (q := 17) rfl rfl ?_
  refine Go.ireturn d15_17 (by decide) (by decide) ?_
  exact hQ
theorem catI (v : Int32) : (Value.int v).category = 1 := rfl
theorem catL (v : Int64) : (Value.long v).category = 2 := rfl
theorem catR (a : Addr) : (Value.ref a).category = 1 := rfl
theorem catN : Value.null.category = 1 := rfl
set_option maxRecDepth 65536 in
set_option maxHeartbeats 40000000 in
theorem st_check (l : Launch) (Z : State) (a0 : Array Value) (hw : Hw a0 Z) (n0 : Nat) (h : Heap) (O : Old Z n0 h) (i : Int32) (ir : ¬ i < 0 ∧ i.toNatClampNeg < 12) (cz : Int32) (sf : Value) (F : Facts Z cz sf) {Q : Option Value → Heap → Prop} (hQ : Q none h) :
    Go l Z (⟨"java/lang/String", "checkIndex", "(II)V"⟩ : MethodName) jdk_42_method_155_code 2 none ({ frames := 1, cells := 0, slots := 0, locals := 14 } : Room) n0 Q h 0 0 0 #[.val (.int i), .val (.int (12 : Int32))] [] := by
  refine Go.iloadN d14_0 (q := 1) rfl rfl ?_
  refine Go.iloadN d14_1 (q := 2) rfl rfl ?_
  refine Go.getS d14_2 (q := 5) rfl (w72 hw) (F.S_sf.ext O.2) ?_
  refine Go.callSV (P := fun w h' => w = .int i ∧ h = h') (argsL := [(.int i), (.int (12 : Int32)), sf]) (rest := []) (wd := 0) (Ls1 := #[.val (.int i), .val (.int (12 : Int32)), .val sf]) d14_5 (q := 8) rfl (w74 hw) (w75 hw) (w73 hw) (w76 hw) (by decide) pn15 pd15 rfl rfl (fun m_ => by simp [entryFrame, mkF, argsToLocals, catI, catR, catN, catL, cat_ref (F.R_sf)]) rfl (by decide) rfl (by decide) (by decide) (by decide) (pr_check l Z a0 hw n0 h i ir cz sf F (Q := RV (fun w h' => w = .int i ∧ h = h')) ⟨_, rfl, rfl, rfl⟩) ?_
  rintro _ _ ⟨rfl, rfl⟩
  refine Go.pop d14_8 (q := 9) rfl rfl ?_
  refine Go.vreturn d14_9 (by decide) (by decide) ?_
  exact hQ
theorem nar255 : ∀ i : Fin 256, (Int32.ofNat i.val).toUInt32.toUInt16.toUInt32.toInt32 = Int32.ofNat i.val := by decide +kernel
theorem nar_c {v : Int32} (h0 : 0 ≤ v.toInt) (h1 : v.toInt ≤ 255) : narrow .char (.int v) = .int v := by
  have n : ¬ v < 0 := nonneg_iff.mpr h0
  have e : v = Int32.ofNat v.toNatClampNeg := (back32 n).1.symm
  have l : v.toNatClampNeg < 256 := by show v.toInt.toNat < 256; omega
  have r := nar255 ⟨v.toNatClampNeg, l⟩
  rw [← e] at r
  exact congrArg Value.int r
set_option maxRecDepth 65536 in
set_option maxHeartbeats 40000000 in
theorem la_char (l : Launch) (Z : State) (a0 : Array Value) (hw : Hw a0 Z) (n0 : Nat) (h : Heap) (O : Old Z n0 h) (b : Addr) (kB : ClassId) (cf : Nat → Int32) (hc : ∀ j, j < 12 → 0 ≤ (cf j).toInt ∧ (cf j).toInt ≤ 255) (Ab : Ar Z h b .byte kB (LN 12 (byt cf))) (i : Int32) (ir : ¬ i < 0 ∧ i.toNatClampNeg < 12) (cz : Int32) (sf : Value) (F : Facts Z cz sf) {Q : Option Value → Heap → Prop} (hQ : Q (some (.int (cf i.toNatClampNeg))) h) :
    Go l Z (⟨"java/lang/StringLatin1", "charAt", "([BI)C"⟩ : MethodName) jdk_43_method_2_code 2 (some .char) ({ frames := 2, cells := 0, slots := 0, locals := 32 } : Room) n0 Q h 0 0 0 #[.val (.ref b), .val (.int i)] [] := by
  refine Go.iloadN d13_0 (q := 1) rfl rfl ?_
  refine Go.aloadN d13_1 (q := 2) rfl rfl rfl ?_
  refine Go.arraylength d13_2 (q := 3) rfl Ab (z := 12) (by rw [LN_len]; rfl) ?_
  refine Go.callSN (P := fun h' => h = h') (argsL := [(.int i), (.int (12 : Int32))]) (rest := []) (wd := 0) (Ls1 := #[.val (.int i), .val (.int (12 : Int32))]) d13_3 (q := 6) rfl (w69 hw) (w70 hw) (w7 hw) (w71 hw) (by decide) pn14 pd14 rfl rfl (fun m_ => by simp [entryFrame, mkF, argsToLocals, Value.category]) rfl (by decide) rfl (by decide) (by decide) (by decide) (st_check l Z a0 hw n0 h O i ir cz sf F (Q := RN (fun h' => h = h')) ⟨rfl, rfl⟩) ?_
  rintro _ rfl
  refine Go.aloadN d13_6 (q := 7) rfl rfl rfl ?_
  refine Go.iloadN d13_7 (q := 8) rfl rfl ?_
  refine Go.baload d13_8 (q := 9) rfl Ab ir.1 (LN_get _ ir.2) ?_
  refine Go.sipush d13_9 (q := 12) rfl (x := (255 : Int32)) (by decide) ?_
  refine Go.iand d13_12 (q := 13) rfl ?_
  refine Go.i2c d13_13 (q := 14) rfl ?_
  have e : (byt cf i.toNatClampNeg &&& (255 : Int32)).toUInt32.toUInt16.toUInt32.toInt32 = cf i.toNatClampNeg := back_c (hc _ ir.2).1 (hc _ ir.2).2
  rw [e]
  refine Go.creturn d13_14 (by decide) (by decide) (nar_c (hc _ ir.2).1 (hc _ ir.2).2) hQ
set_option maxRecDepth 65536 in
set_option maxHeartbeats 40000000 in
theorem st_char (l : Launch) (Z : State) (a0 : Array Value) (hw : Hw a0 Z) (n0 : Nat) (h : Heap) (O : Old Z n0 h) (s b : Addr) (cf : Nat → Int32) (S : ST Z h s b cf) (i : Int32) (ir : ¬ i < 0 ∧ i.toNatClampNeg < 12) (cz : Int32) (sf : Value) (F : Facts Z cz sf) {Q : Option Value → Heap → Prop} (hQ : Q (some (.int (cf i.toNatClampNeg))) h) :
    Go l Z (⟨"java/lang/String", "charAt", "(I)C"⟩ : MethodName) jdk_42_method_56_code 2 (some .char) ({ frames := 3, cells := 0, slots := 0, locals := 54 } : Room) n0 Q h 0 0 0 #[.val (.ref s), .val (.int i)] [] := by
  obtain ⟨kB, Ab⟩ := S.2.2.2.1
  refine Go.aloadN d11_0 (q := 1) rfl rfl rfl ?_
  refine Go.callVV (P := fun w h' => w = .int (1 : Int32) ∧ h = h') (argsL := []) (rest := []) (wd := 0) (Ls1 := #[.val (.ref s)]) d11_1 (q := 4) rfl (w60 hw) (w61 hw) (w63 hw) (w62 hw) (w64 hw) (w7 hw) (by decide) pn12 pd12 rfl rfl S.1 (fun m_ => by simp [entryFrame, mkF, argsToLocals, Value.category]) rfl (by decide) rfl (by decide) (by decide) (by decide) (st_latin l Z a0 hw n0 h O s b cf S cz sf F (Q := RV (fun w h' => w = .int (1 : Int32) ∧ h = h')) ⟨_, rfl, rfl, rfl⟩) ?_
  rintro _ _ ⟨rfl, rfl⟩
  refine Go.if_eq d11_4 (q := 16) (q' := 7) (by decide) rfl rfl (fun c_ => absurd c_ (by decide)) (fun _ => ?_)
  refine Go.aloadN d11_7 (q := 8) rfl rfl rfl ?_
  refine Go.getF d11_8 (q := 11) rfl (host := "") (Or.inl (w32 hw)) Via.refl S.2.2.1 ?_
  refine Go.iloadN d11_11 (q := 12) rfl rfl ?_
  refine Go.callSV (P := fun w h' => w = .int (cf i.toNatClampNeg) ∧ h = h') (argsL := [(.ref b), (.int i)]) (rest := []) (wd := 0) (Ls1 := #[.val (.ref b), .val (.int i)]) d11_12 (q := 15) rfl (w65 hw) (w66 hw) (w67 hw) (w68 hw) (by decide) pn13 pd13 rfl rfl (fun m_ => by simp [entryFrame, mkF, argsToLocals, Value.category]) rfl (by decide) rfl (by decide) (by decide) (by decide) (la_char l Z a0 hw n0 h O b kB cf S.2.2.2.2 Ab i ir cz sf F (Q := RV (fun w h' => w = .int (cf i.toNatClampNeg) ∧ h = h')) ⟨_, rfl, rfl, rfl⟩) ?_
  rintro _ _ ⟨rfl, rfl⟩
  refine Go.creturn d11_15 (by decide) (by decide) (nar_c (S.2.2.2.2 _ ir.2).1 (S.2.2.2.2 _ ir.2).2) ?_
  exact hQ
def dgt (c : Int32) : Int32 :=
  if c < (48 : Int32) then (0 : Int32) else
  if (57 : Int32) < c then (0 : Int32) else
  (1 : Int32)
set_option maxRecDepth 65536 in
set_option maxHeartbeats 40000000 in
theorem b17 (l : Launch) (Z : State) (a0 : Array Value) (hw : Hw a0 Z) (n0 : Nat) (h : Heap) (c : Int32) {Q : Option Value → Heap → Prop} (hQ : Q (some (.int (dgt c))) h) :
    Go l Z (⟨"com/example/spanforge/spanforge/json/NumberText", "isDigit", "(C)Z"⟩ : MethodName) prog_5_method_3_code 1 (some .boolean) ({ frames := 0, cells := 0, slots := 0, locals := 0 } : Room) n0 Q h 0 0 0 #[.val (.int c)] [] := by
  refine Go.iloadN d17_0 (q := 1) rfl rfl ?_
  refine Go.bipush d17_1 (q := 3) rfl (x := (48 : Int32)) (by decide) ?_
  refine Go.icmp_lt d17_3 (q := 16) (q' := 6) (by decide) rfl rfl (fun c35 => ?_) (fun c35 => ?_)
  · skip
    refine Go.iconst d17_16 (q := 17) rfl (x := (0 : Int32)) (by decide) ?_
    refine Go.zreturn d17_17 (by decide) (by decide) (by decide) ?_
    unfold dgt at hQ
    rw [if_pos c35] at hQ
    exact hQ
  · skip
    refine Go.iloadN d17_6 (q := 7) rfl rfl ?_
    refine Go.bipush d17_7 (q := 9) rfl (x := (57 : Int32)) (by decide) ?_
    refine Go.icmp_gt d17_9 (q := 16) (q' := 12) (by decide) rfl rfl (fun c36 => ?_) (fun c36 => ?_)
    · skip
      refine Go.iconst d17_16 (q := 17) rfl (x := (0 : Int32)) (by decide) ?_
      refine Go.zreturn d17_17 (by decide) (by decide) (by decide) ?_
      unfold dgt at hQ
      rw [if_neg c35, if_pos c36] at hQ
      exact hQ
    · skip
      refine Go.iconst d17_12 (q := 13) rfl (x := (1 : Int32)) (by decide) ?_
      refine Go.goto d17_13 (q := 17) (by decide) rfl ?_
      refine Go.zreturn d17_17 (by decide) (by decide) (by decide) ?_
      unfold dgt at hQ
      rw [if_neg c35, if_neg c36] at hQ
      exact hQ
/-! numbers in texts: lists of signs from a place to the text's end -/
/-- the place of the first sign of a rest of the twelve signs -/
def pos (r : List Int32) : Int32 := Int32.ofNat (12 - r.length)
/-- r is what stands from pos r to the end -/
def TX (cf : Nat → Int32) (r : List Int32) : Prop := r.length ≤ 12 ∧ ∀ j c, r[j]? = some c → cf (12 - r.length + j) = c
theorem ofNat_clamp {n : Nat} (h : n < 2 ^ 31) : (Int32.ofNat n).toNatClampNeg = n := by
  show (Int32.ofNat n).toInt.toNat = n
  rw [Int32.toInt_ofNat_of_lt h]; rfl
theorem ofNat_nn {n : Nat} (h : n < 2 ^ 31) : ¬ Int32.ofNat n < 0 := by
  rw [Int32.lt_iff_toInt_lt, Int32.toInt_ofNat_of_lt h]
  have e : (0 : Int32).toInt = 0 := rfl
  omega
theorem ofNat_succ (n : Nat) : Int32.ofNat n + 1 = Int32.ofNat (n + 1) := by rw [Int32.ofNat_add]; rfl
theorem pos_nil : pos [] = 12 := rfl
theorem TX.ix {cf : Nat → Int32} {c : Int32} {d : List Int32} (T : TX cf (c :: d)) : ¬ pos (c :: d) < 0 ∧ (pos (c :: d)).toNatClampNeg < 12 := by
  have l : d.length + 1 ≤ 12 := T.1
  unfold pos
  rw [ofNat_clamp (by omega)]
  refine ⟨ofNat_nn (by omega), ?_⟩
  simp only [List.length_cons]; omega
theorem TX.hd {cf : Nat → Int32} {c : Int32} {d : List Int32} (T : TX cf (c :: d)) : cf (pos (c :: d)).toNatClampNeg = c := by
  have e := T.2 0 c rfl
  unfold pos
  rw [ofNat_clamp (by omega)]
  exact e
theorem TX.tl {cf : Nat → Int32} {c : Int32} {d : List Int32} (T : TX cf (c :: d)) : TX cf d := by
  have l : d.length + 1 ≤ 12 := T.1
  refine ⟨by omega, fun j e q => ?_⟩
  have r := T.2 (j + 1) e (by simpa using q)
  simp only [List.length_cons] at r
  rw [← r]; congr 1; omega
theorem TX.nx {cf : Nat → Int32} {c : Int32} {d : List Int32} (T : TX cf (c :: d)) : pos (c :: d) + 1 = pos d := by
  have l : d.length + 1 ≤ 12 := T.1
  unfold pos
  rw [ofNat_succ]; congr 1; simp only [List.length_cons]; omega
theorem TX.lt {cf : Nat → Int32} {c : Int32} {d : List Int32} (T : TX cf (c :: d)) : pos (c :: d) < 12 := by
  have l : d.length + 1 ≤ 12 := T.1
  rw [Int32.lt_iff_toInt_lt]
  unfold pos
  rw [Int32.toInt_ofNat_of_lt (by omega)]
  have e : (12 : Int32).toInt = 12 := rfl
  simp only [List.length_cons]; omega
def skipd : List Int32 → List Int32
  | [] => []
  | c :: r => if dgt c = 0 then c :: r else skipd r
theorem TX.skp {cf : Nat → Int32} : ∀ {r : List Int32}, TX cf r → TX cf (skipd r) := by
  intro r
  induction r with
  | nil => intro T; exact T
  | cons c d ih =>
    intro T
    show TX cf (if dgt c = 0 then c :: d else skipd d)
    by_cases q : dgt c = 0
    · rw [if_pos q]; exact T
    · rw [if_neg q]; exact ih T.tl
def sj217 (r : List Int32) : List Int32 → List Int32
  | [] => r
  | c :: d => if dgt c = 0 then r else skipd (c :: d)
def sj172 (r : List Int32) : List Int32 → List Int32
  | [] => sj217 r []
  | c :: d => if c = 43 then sj217 r d else if c = 45 then sj217 r d else sj217 r (c :: d)
def sj138 : List Int32 → List Int32
  | [] => []
  | c :: d => if c = 101 then sj172 (c :: d) d else if c = 69 then sj172 (c :: d) d else c :: d
def sj89 : List Int32 → List Int32
  | [] => sj138 []
  | [c] => sj138 [c]
  | c :: e :: d => if c = 46 then (if dgt e = 0 then sj138 (c :: e :: d) else sj138 (skipd (e :: d))) else sj138 (c :: e :: d)
def sj55 (s : List Int32) : List Int32 → List Int32
  | [] => s
  | c :: d => if dgt c = 0 then s else sj89 (skipd (c :: d))
def sj27 (s : List Int32) : List Int32 → List Int32
  | [] => sj55 s []
  | c :: d => if c = 48 then sj89 d else sj55 s (c :: d)
def scan : List Int32 → List Int32
  | [] => sj27 [] []
  | c :: d => if c = 45 then sj27 (c :: d) d else sj27 (c :: d) (c :: d)

theorem nil_lt : ¬ pos [] < 12 := by decide
theorem nil_lt1 : ¬ pos [] + 1 < 12 := by decide
set_option maxRecDepth 65536 in
set_option maxHeartbeats 40000000 in
theorem sk2 (l : Launch) (Z : State) (a0 : Array Value) (hw : Hw a0 Z) (n0 : Nat) (h : Heap) (O : Old Z n0 h) (s b : Addr) (cf : Nat → Int32) (S : ST Z h s b cf) (cz : Int32) (sf : Value) (F : Facts Z cz sf) (s0 : Int32) {Q : Option Value → Heap → Prop} (r : List Int32) : TX cf r → Q (some (.int (pos (skipd r)))) h →
    Go l Z (⟨"com/example/spanforge/spanforge/json/NumberText", "skipDigits", "(Ljava/lang/CharSequence;I)I"⟩ : MethodName) prog_5_method_4_code 3 (some .int) ({ frames := 4, cells := 0, slots := 0, locals := 67 } : Room) n0 Q h 0 0 2 #[.val (.ref s), .val (.int s0), .val (.int (pos r))] [] := by
  induction r with
  | nil =>
    intro T hQ
    refine Go.iloadN d18_2 (q := 3) rfl rfl ?_
    refine Go.aloadN d18_3 (q := 4) rfl rfl rfl ?_
    refine Go.callFV (P := fun w h' => w = .int (12 : Int32) ∧ h = h') (argsL := []) (rest := [(.int (pos []))]) (wd := 1) (Ls1 := #[.val (.ref s)]) d18_4 (q := 9) rfl (w38 hw) (w39 hw) (w40 hw) rfl (w41 hw) (w42 hw) (w43 hw) (w44 hw) (w45 hw) (w46 hw) (w7 hw) (by decide) pn9 pd9 rfl rfl S.1 (fun m_ => by simp [entryFrame, mkF, argsToLocals, Value.category]) rfl (by decide) rfl (by decide) (by decide) (by decide) (st_length l Z a0 hw n0 h O s b cf S cz sf F (Q := RV (fun w h' => w = .int (12 : Int32) ∧ h = h')) ⟨_, rfl, rfl, rfl⟩) ?_
    rintro _ _ ⟨rfl, rfl⟩
    refine Go.icmp_ge d18_9 (q := 31) (q' := 12) (by decide) rfl rfl (fun _ => ?_) (fun c_ => absurd c_ nil_lt)
    refine Go.iloadN d18_31 (q := 32) rfl rfl ?_
    refine Go.ireturn d18_32 (by decide) (by decide) ?_
    exact hQ
  | cons c d ih =>
    intro T hQ
    refine Go.iloadN d18_2 (q := 3) rfl rfl ?_
    refine Go.aloadN d18_3 (q := 4) rfl rfl rfl ?_
    refine Go.callFV (P := fun w h' => w = .int (12 : Int32) ∧ h = h') (argsL := []) (rest := [(.int (pos (c :: d)))]) (wd := 1) (Ls1 := #[.val (.ref s)]) d18_4 (q := 9) rfl (w38 hw) (w39 hw) (w40 hw) rfl (w41 hw) (w42 hw) (w43 hw) (w44 hw) (w45 hw) (w46 hw) (w7 hw) (by decide) pn9 pd9 rfl rfl S.1 (fun m_ => by simp [entryFrame, mkF, argsToLocals, Value.category]) rfl (by decide) rfl (by decide) (by decide) (by decide) (st_length l Z a0 hw n0 h O s b cf S cz sf F (Q := RV (fun w h' => w = .int (12 : Int32) ∧ h = h')) ⟨_, rfl, rfl, rfl⟩) ?_
    rintro _ _ ⟨rfl, rfl⟩
    refine Go.icmp_ge d18_9 (q := 31) (q' := 12) (by decide) rfl rfl (fun c_ => absurd T.lt c_) (fun _ => ?_)
    refine Go.aloadN d18_12 (q := 13) rfl rfl rfl ?_
    refine Go.iloadN d18_13 (q := 14) rfl rfl ?_
    refine Go.callFV (P := fun w h' => w = .int c ∧ h = h') (argsL := [(.int (pos (c :: d)))]) (rest := []) (wd := 0) (Ls1 := #[.val (.ref s), .val (.int (pos (c :: d)))]) d18_14 (q := 19) rfl (w52 hw) (w53 hw) (w54 hw) rfl (w55 hw) (w56 hw) (w57 hw) (w58 hw) (w45 hw) (w59 hw) (w7 hw) (by decide) pn11 pd11 rfl rfl S.1 (fun m_ => by simp [entryFrame, mkF, argsToLocals, Value.category]) rfl (by decide) rfl (by decide) (by decide) (by decide) (st_char l Z a0 hw n0 h O s b cf S _ (T).ix cz sf F (Q := RV (fun w h' => w = .int c ∧ h = h')) ⟨_, rfl, by rw [(T).hd], rfl⟩) ?_
    rintro _ _ ⟨rfl, rfl⟩
    refine Go.callSV (P := fun w h' => w = .int (dgt c) ∧ h = h') (argsL := [(.int c)]) (rest := []) (wd := 0) (Ls1 := #[.val (.int c)]) d18_19 (q := 22) rfl (w82 hw) (w83 hw) (w36 hw) (w84 hw) (by decide) pn17 pd17 rfl rfl (fun m_ => by simp [entryFrame, mkF, argsToLocals, Value.category]) rfl (by decide) rfl (by decide) (by decide) (by decide) (b17 l Z a0 hw n0 h c (Q := RV (fun w h' => w = .int (dgt c) ∧ h = h')) ⟨_, rfl, rfl, rfl⟩) ?_
    rintro _ _ ⟨rfl, rfl⟩
    refine Go.if_eq d18_22 (q := 31) (q' := 25) (by decide) rfl rfl (fun c39 => ?_) (fun c39 => ?_)
    · skip
      refine Go.iloadN d18_31 (q := 32) rfl rfl ?_
      refine Go.ireturn d18_32 (by decide) (by decide) ?_
      rw [show skipd (c :: d) = c :: d from if_pos c39] at hQ
      exact hQ
    · skip
      refine Go.iinc d18_25 (q := 28) rfl rfl (w := (pos d)) (T).nx (Ls' := #[.val (.ref s), .val (.int s0), .val (.int (pos d))]) rfl ?_
      refine Go.goto d18_28 (q := 2) (by decide) rfl ?_
      exact ih T.tl (by rw [show skipd (c :: d) = skipd d from if_neg c39] at hQ; exact hQ)
set_option maxRecDepth 65536 in
set_option maxHeartbeats 40000000 in
theorem sk0 (l : Launch) (Z : State) (a0 : Array Value) (hw : Hw a0 Z) (n0 : Nat) (h : Heap) (O : Old Z n0 h) (s b : Addr) (cf : Nat → Int32) (S : ST Z h s b cf) (cz : Int32) (sf : Value) (F : Facts Z cz sf) (r : List Int32) (T : TX cf r) {Q : Option Value → Heap → Prop} (hQ : Q (some (.int (pos (skipd r)))) h) :
    Go l Z (⟨"com/example/spanforge/spanforge/json/NumberText", "skipDigits", "(Ljava/lang/CharSequence;I)I"⟩ : MethodName) prog_5_method_4_code 3 (some .int) ({ frames := 4, cells := 0, slots := 0, locals := 67 } : Room) n0 Q h 0 0 0 #[.val (.ref s), .val (.int (pos r)), .unset] [] := by
  refine Go.iloadN d18_0 (q := 1) rfl rfl ?_
  refine Go.istoreN d18_1 (q := 2) rfl (Ls' := #[.val (.ref s), .val (.int (pos r)), .val (.int (pos r))]) rfl ?_
  exact sk2 l Z a0 hw n0 h O s b cf S cz sf F _ r T hQ
set_option maxRecDepth 65536 in
set_option maxHeartbeats 40000000 in
theorem j217 (l : Launch) (Z : State) (a0 : Array Value) (hw : Hw a0 Z) (n0 : Nat) (h : Heap) (O : Old Z n0 h) (s b : Addr) (cf : Nat → Int32) (S : ST Z h s b cf) (cz : Int32) (sf : Value) (F : Facts Z cz sf) (u0 i0 : Int32) (r y : List Int32) (T : TX cf y) {Q : Option Value → Heap → Prop} (hQ : Q (some (.int (pos (sj217 r y)))) h) :
    Go l Z (⟨"com/example/spanforge/spanforge/json/NumberText", "scanJson", "(Ljava/lang/CharSequence;I)I"⟩ : MethodName) prog_5_method_2_code 5 (some .int) ({ frames := 5, cells := 0, slots := 0, locals := 81 } : Room) n0 Q h 0 0 217 #[.val (.ref s), .val (.int u0), .val (.int i0), .val (.int (pos r)), .val (.int (pos y))] [] := by
  rcases y with _ | ⟨c, d⟩
  · skip
    refine Go.iload d8_217 (q := 219) rfl rfl ?_
    refine Go.aloadN d8_219 (q := 220) rfl rfl rfl ?_
    refine Go.callFV (P := fun w h' => w = .int (12 : Int32) ∧ h = h') (argsL := []) (rest := [(.int (pos []))]) (wd := 1) (Ls1 := #[.val (.ref s)]) d8_220 (q := 225) rfl (w38 hw) (w39 hw) (w40 hw) rfl (w41 hw) (w42 hw) (w43 hw) (w44 hw) (w45 hw) (w46 hw) (w7 hw) (by decide) pn9 pd9 rfl rfl S.1 (fun m_ => by simp [entryFrame, mkF, argsToLocals, Value.category]) rfl (by decide) rfl (by decide) (by decide) (by decide) (st_length l Z a0 hw n0 h O s b cf S cz sf F (Q := RV (fun w h' => w = .int (12 : Int32) ∧ h = h')) ⟨_, rfl, rfl, rfl⟩) ?_
    rintro _ _ ⟨rfl, rfl⟩
    refine Go.icmp_ge d8_225 (q := 249) (q' := 228) (by decide) rfl rfl (fun _ => ?_) (fun c_ => absurd c_ nil_lt)
    refine Go.iloadN d8_249 (q := 250) rfl rfl ?_
    refine Go.ireturn d8_250 (by decide) (by decide) ?_
    exact hQ
  · skip
    refine Go.iload d8_217 (q := 219) rfl rfl ?_
    refine Go.aloadN d8_219 (q := 220) rfl rfl rfl ?_
    refine Go.callFV (P := fun w h' => w = .int (12 : Int32) ∧ h = h') (argsL := []) (rest := [(.int (pos (c :: d)))]) (wd := 1) (Ls1 := #[.val (.ref s)]) d8_220 (q := 225) rfl (w38 hw) (w39 hw) (w40 hw) rfl (w41 hw) (w42 hw) (w43 hw) (w44 hw) (w45 hw) (w46 hw) (w7 hw) (by decide) pn9 pd9 rfl rfl S.1 (fun m_ => by simp [entryFrame, mkF, argsToLocals, Value.category]) rfl (by decide) rfl (by decide) (by decide) (by decide) (st_length l Z a0 hw n0 h O s b cf S cz sf F (Q := RV (fun w h' => w = .int (12 : Int32) ∧ h = h')) ⟨_, rfl, rfl, rfl⟩) ?_
    rintro _ _ ⟨rfl, rfl⟩
    refine Go.icmp_ge d8_225 (q := 249) (q' := 228) (by decide) rfl rfl (fun c_ => absurd T.lt c_) (fun _ => ?_)
    refine Go.aloadN d8_228 (q := 229) rfl rfl rfl ?_
    refine Go.iload d8_229 (q := 231) rfl rfl ?_
    refine Go.callFV (P := fun w h' => w = .int c ∧ h = h') (argsL := [(.int (pos (c :: d)))]) (rest := []) (wd := 0) (Ls1 := #[.val (.ref s), .val (.int (pos (c :: d)))]) d8_231 (q := 236) rfl (w52 hw) (w53 hw) (w54 hw) rfl (w55 hw) (w56 hw) (w57 hw) (w58 hw) (w45 hw) (w59 hw) (w7 hw) (by decide) pn11 pd11 rfl rfl S.1 (fun m_ => by simp [entryFrame, mkF, argsToLocals, Value.category]) rfl (by decide) rfl (by decide) (by decide) (by decide) (st_char l Z a0 hw n0 h O s b cf S _ (T).ix cz sf F (Q := RV (fun w h' => w = .int c ∧ h = h')) ⟨_, rfl, by rw [(T).hd], rfl⟩) ?_
    rintro _ _ ⟨rfl, rfl⟩
    refine Go.callSV (P := fun w h' => w = .int (dgt c) ∧ h = h') (argsL := [(.int c)]) (rest := []) (wd := 0) (Ls1 := #[.val (.int c)]) d8_236 (q := 239) rfl (w82 hw) (w83 hw) (w36 hw) (w84 hw) (by decide) pn17 pd17 rfl rfl (fun m_ => by simp [entryFrame, mkF, argsToLocals, Value.category]) rfl (by decide) rfl (by decide) (by decide) (by decide) (b17 l Z a0 hw n0 h c (Q := RV (fun w h' => w = .int (dgt c) ∧ h = h')) ⟨_, rfl, rfl, rfl⟩) ?_
    rintro _ _ ⟨rfl, rfl⟩
    refine Go.if_eq d8_239 (q := 249) (q' := 242) (by decide) rfl rfl (fun c42 => ?_) (fun c42 => ?_)
    · skip
      refine Go.iloadN d8_249 (q := 250) rfl rfl ?_
      refine Go.ireturn d8_250 (by decide) (by decide) ?_
      rw [show sj217 r (c :: d) = r from if_pos c42] at hQ
      exact hQ
    · skip
      refine Go.aloadN d8_242 (q := 243) rfl rfl rfl ?_
      refine Go.iload d8_243 (q := 245) rfl rfl ?_
      refine Go.callSV (P := fun w h' => w = .int (pos (skipd (c :: d))) ∧ h = h') (argsL := [(.ref s), (.int (pos (c :: d)))]) (rest := []) (wd := 0) (Ls1 := #[.val (.ref s), .val (.int (pos (c :: d))), .unset]) d8_245 (q := 248) rfl (w85 hw) (w86 hw) (w36 hw) (w87 hw) (by decide) pn18 pd18 rfl rfl (fun m_ => by simp [entryFrame, mkF, argsToLocals, Value.category]) rfl (by decide) rfl (by decide) (by decide) (by decide) (sk0 l Z a0 hw n0 h O s b cf S cz sf F (c :: d) (T) (Q := RV (fun w h' => w = .int (pos (skipd (c :: d))) ∧ h = h')) ⟨_, rfl, rfl, rfl⟩) ?_
      rintro _ _ ⟨rfl, rfl⟩
      refine Go.istoreN d8_248 (q := 249) rfl (Ls' := #[.val (.ref s), .val (.int u0), .val (.int i0), .val (.int (pos (skipd (c :: d)))), .val (.int (pos (c :: d)))]) rfl ?_
      refine Go.iloadN d8_249 (q := 250) rfl rfl ?_
      refine Go.ireturn d8_250 (by decide) (by decide) ?_
      rw [show sj217 r (c :: d) = skipd (c :: d) from if_neg c42] at hQ
      exact hQ
set_option maxRecDepth 65536 in
set_option maxHeartbeats 40000000 in
theorem j172 (l : Launch) (Z : State) (a0 : Array Value) (hw : Hw a0 Z) (n0 : Nat) (h : Heap) (O : Old Z n0 h) (s b : Addr) (cf : Nat → Int32) (S : ST Z h s b cf) (cz : Int32) (sf : Value) (F : Facts Z cz sf) (u0 i0 : Int32) (e : Int32) (y : List Int32) (T : TX cf (e :: y)) {Q : Option Value → Heap → Prop} (hQ : Q (some (.int (pos (sj172 (e :: y) y)))) h) :
    Go l Z (⟨"com/example/spanforge/spanforge/json/NumberText", "scanJson", "(Ljava/lang/CharSequence;I)I"⟩ : MethodName) prog_5_method_2_code 5 (some .int) ({ frames := 5, cells := 0, slots := 0, locals := 81 } : Room) n0 Q h 0 0 172 #[.val (.ref s), .val (.int u0), .val (.int i0), .val (.int (pos (e :: y))), .unset] [] := by
  rcases y with _ | ⟨c, d⟩
  · skip
    refine Go.iloadN d8_172 (q := 173) rfl rfl ?_
    refine Go.iconst d8_173 (q := 174) rfl (x := (1 : Int32)) (by decide) ?_
    refine Go.iadd d8_174 (q := 175) rfl ?_
    rw [(T).nx]
    refine Go.istore d8_175 (q := 177) rfl (Ls' := #[.val (.ref s), .val (.int u0), .val (.int i0), .val (.int (pos (e :: []))), .val (.int (pos []))]) rfl ?_
    refine Go.iload d8_177 (q := 179) rfl rfl ?_
    refine Go.aloadN d8_179 (q := 180) rfl rfl rfl ?_
    refine Go.callFV (P := fun w h' => w = .int (12 : Int32) ∧ h = h') (argsL := []) (rest := [(.int (pos []))]) (wd := 1) (Ls1 := #[.val (.ref s)]) d8_180 (q := 185) rfl (w38 hw) (w39 hw) (w40 hw) rfl (w41 hw) (w42 hw) (w43 hw) (w44 hw) (w45 hw) (w46 hw) (w7 hw) (by decide) pn9 pd9 rfl rfl S.1 (fun m_ => by simp [entryFrame, mkF, argsToLocals, Value.category]) rfl (by decide) rfl (by decide) (by decide) (by decide) (st_length l Z a0 hw n0 h O s b cf S cz sf F (Q := RV (fun w h' => w = .int (12 : Int32) ∧ h = h')) ⟨_, rfl, rfl, rfl⟩) ?_
    rintro _ _ ⟨rfl, rfl⟩
    refine Go.icmp_ge d8_185 (q := 217) (q' := 188) (by decide) rfl rfl (fun _ => ?_) (fun c_ => absurd c_ nil_lt)
    exact j217 l Z a0 hw n0 h O s b cf S cz sf F _ _ [e] [] T.tl hQ
  · skip
    refine Go.iloadN d8_172 (q := 173) rfl rfl ?_
    refine Go.iconst d8_173 (q := 174) rfl (x := (1 : Int32)) (by decide) ?_
    refine Go.iadd d8_174 (q := 175) rfl ?_
    rw [(T).nx]
    refine Go.istore d8_175 (q := 177) rfl (Ls' := #[.val (.ref s), .val (.int u0), .val (.int i0), .val (.int (pos (e :: (c :: d)))), .val (.int (pos (c :: d)))]) rfl ?_
    refine Go.iload d8_177 (q := 179) rfl rfl ?_
    refine Go.aloadN d8_179 (q := 180) rfl rfl rfl ?_
    refine Go.callFV (P := fun w h' => w = .int (12 : Int32) ∧ h = h') (argsL := []) (rest := [(.int (pos (c :: d)))]) (wd := 1) (Ls1 := #[.val (.ref s)]) d8_180 (q := 185) rfl (w38 hw) (w39 hw) (w40 hw) rfl (w41 hw) (w42 hw) (w43 hw) (w44 hw) (w45 hw) (w46 hw) (w7 hw) (by decide) pn9 pd9 rfl rfl S.1 (fun m_ => by simp [entryFrame, mkF, argsToLocals, Value.category]) rfl (by decide) rfl (by decide) (by decide) (by decide) (st_length l Z a0 hw n0 h O s b cf S cz sf F (Q := RV (fun w h' => w = .int (12 : Int32) ∧ h = h')) ⟨_, rfl, rfl, rfl⟩) ?_
    rintro _ _ ⟨rfl, rfl⟩
    refine Go.icmp_ge d8_185 (q := 217) (q' := 188) (by decide) rfl rfl (fun c_ => absurd T.tl.lt c_) (fun _ => ?_)
    refine Go.aloadN d8_188 (q := 189) rfl rfl rfl ?_
    refine Go.iload d8_189 (q := 191) rfl rfl ?_
    refine Go.callFV (P := fun w h' => w = .int c ∧ h = h') (argsL := [(.int (pos (c :: d)))]) (rest := []) (wd := 0) (Ls1 := #[.val (.ref s), .val (.int (pos (c :: d)))]) d8_191 (q := 196) rfl (w52 hw) (w53 hw) (w54 hw) rfl (w55 hw) (w56 hw) (w57 hw) (w58 hw) (w45 hw) (w59 hw) (w7 hw) (by decide) pn11 pd11 rfl rfl S.1 (fun m_ => by simp [entryFrame, mkF, argsToLocals, Value.category]) rfl (by decide) rfl (by decide) (by decide) (by decide) (st_char l Z a0 hw n0 h O s b cf S _ (T.tl).ix cz sf F (Q := RV (fun w h' => w = .int c ∧ h = h')) ⟨_, rfl, by rw [(T.tl).hd], rfl⟩) ?_
    rintro _ _ ⟨rfl, rfl⟩
    refine Go.bipush d8_196 (q := 198) rfl (x := (43 : Int32)) (by decide) ?_
    refine Go.icmp_eq d8_198 (q := 214) (q' := 201) (by decide) rfl rfl (fun c45 => ?_) (fun c45 => ?_)
    · skip
      refine Go.iinc d8_214 (q := 217) rfl rfl (w := (pos d)) (T.tl).nx (Ls' := #[.val (.ref s), .val (.int u0), .val (.int i0), .val (.int (pos (e :: (c :: d)))), .val (.int (pos d))]) rfl ?_
      exact j217 l Z a0 hw n0 h O s b cf S cz sf F _ _ (e :: c :: d) d T.tl.tl (by rw [show sj172 (e :: c :: d) (c :: d) = sj217 (e :: c :: d) d from if_pos c45] at hQ; exact hQ)
    · skip
      refine Go.aloadN d8_201 (q := 202) rfl rfl rfl ?_
      refine Go.iload d8_202 (q := 204) rfl rfl ?_
      refine Go.callFV (P := fun w h' => w = .int c ∧ h = h') (argsL := [(.int (pos (c :: d)))]) (rest := []) (wd := 0) (Ls1 := #[.val (.ref s), .val (.int (pos (c :: d)))]) d8_204 (q := 209) rfl (w52 hw) (w53 hw) (w54 hw) rfl (w55 hw) (w56 hw) (w57 hw) (w58 hw) (w45 hw) (w59 hw) (w7 hw) (by decide) pn11 pd11 rfl rfl S.1 (fun m_ => by simp [entryFrame, mkF, argsToLocals, Value.category]) rfl (by decide) rfl (by decide) (by decide) (by decide) (st_char l Z a0 hw n0 h O s b cf S _ (T.tl).ix cz sf F (Q := RV (fun w h' => w = .int c ∧ h = h')) ⟨_, rfl, by rw [(T.tl).hd], rfl⟩) ?_
      rintro _ _ ⟨rfl, rfl⟩
      refine Go.bipush d8_209 (q := 211) rfl (x := (45 : Int32)) (by decide) ?_
      refine Go.icmp_ne d8_211 (q := 217) (q' := 214) (by decide) rfl rfl (fun c46 => ?_) (fun c46 => ?_)
      · skip
        exact j217 l Z a0 hw n0 h O s b cf S cz sf F _ _ (e :: c :: d) (c :: d) T.tl (by rw [show sj172 (e :: c :: d) (c :: d) = sj217 (e :: c :: d) (c :: d) from (if_neg c45).trans (if_neg c46)] at hQ; exact hQ)
      · skip
        refine Go.iinc d8_214 (q := 217) rfl rfl (w := (pos d)) (T.tl).nx (Ls' := #[.val (.ref s), .val (.int u0), .val (.int i0), .val (.int (pos (e :: (c :: d)))), .val (.int (pos d))]) rfl ?_
        exact j217 l Z a0 hw n0 h O s b cf S cz sf F _ _ (e :: c :: d) d T.tl.tl (by rw [show sj172 (e :: c :: d) (c :: d) = sj217 (e :: c :: d) d from (if_neg c45).trans (if_pos c46)] at hQ; exact hQ)
set_option maxRecDepth 65536 in
set_option maxHeartbeats 40000000 in
theorem j138 (l : Launch) (Z : State) (a0 : Array Value) (hw : Hw a0 Z) (n0 : Nat) (h : Heap) (O : Old Z n0 h) (s b : Addr) (cf : Nat → Int32) (S : ST Z h s b cf) (cz : Int32) (sf : Value) (F : Facts Z cz sf) (u0 i0 : Int32) (y : List Int32) (T : TX cf y) {Q : Option Value → Heap → Prop} (hQ : Q (some (.int (pos (sj138 y)))) h) :
    Go l Z (⟨"com/example/spanforge/spanforge/json/NumberText", "scanJson", "(Ljava/lang/CharSequence;I)I"⟩ : MethodName) prog_5_method_2_code 5 (some .int) ({ frames := 5, cells := 0, slots := 0, locals := 81 } : Room) n0 Q h 0 0 138 #[.val (.ref s), .val (.int u0), .val (.int i0), .val (.int (pos y)), .unset] [] := by
  rcases y with _ | ⟨c, d⟩
  · skip
    refine Go.iloadN d8_138 (q := 139) rfl rfl ?_
    refine Go.aloadN d8_139 (q := 140) rfl rfl rfl ?_
    refine Go.callFV (P := fun w h' => w = .int (12 : Int32) ∧ h = h') (argsL := []) (rest := [(.int (pos []))]) (wd := 1) (Ls1 := #[.val (.ref s)]) d8_140 (q := 145) rfl (w38 hw) (w39 hw) (w40 hw) rfl (w41 hw) (w42 hw) (w43 hw) (w44 hw) (w45 hw) (w46 hw) (w7 hw) (by decide) pn9 pd9 rfl rfl S.1 (fun m_ => by simp [entryFrame, mkF, argsToLocals, Value.category]) rfl (by decide) rfl (by decide) (by decide) (by decide) (st_length l Z a0 hw n0 h O s b cf S cz sf F (Q := RV (fun w h' => w = .int (12 : Int32) ∧ h = h')) ⟨_, rfl, rfl, rfl⟩) ?_
    rintro _ _ ⟨rfl, rfl⟩
    refine Go.icmp_ge d8_145 (q := 249) (q' := 148) (by decide) rfl rfl (fun _ => ?_) (fun c_ => absurd c_ nil_lt)
    refine Go.iloadN d8_249 (q := 250) rfl rfl ?_
    refine Go.ireturn d8_250 (by decide) (by decide) ?_
    exact hQ
  · skip
    refine Go.iloadN d8_138 (q := 139) rfl rfl ?_
    refine Go.aloadN d8_139 (q := 140) rfl rfl rfl ?_
    refine Go.callFV (P := fun w h' => w = .int (12 : Int32) ∧ h = h') (argsL := []) (rest := [(.int (pos (c :: d)))]) (wd := 1) (Ls1 := #[.val (.ref s)]) d8_140 (q := 145) rfl (w38 hw) (w39 hw) (w40 hw) rfl (w41 hw) (w42 hw) (w43 hw) (w44 hw) (w45 hw) (w46 hw) (w7 hw) (by decide) pn9 pd9 rfl rfl S.1 (fun m_ => by simp [entryFrame, mkF, argsToLocals, Value.category]) rfl (by decide) rfl (by decide) (by decide) (by decide) (st_length l Z a0 hw n0 h O s b cf S cz sf F (Q := RV (fun w h' => w = .int (12 : Int32) ∧ h = h')) ⟨_, rfl, rfl, rfl⟩) ?_
    rintro _ _ ⟨rfl, rfl⟩
    refine Go.icmp_ge d8_145 (q := 249) (q' := 148) (by decide) rfl rfl (fun c_ => absurd T.lt c_) (fun _ => ?_)
    refine Go.aloadN d8_148 (q := 149) rfl rfl rfl ?_
    refine Go.iloadN d8_149 (q := 150) rfl rfl ?_
    refine Go.callFV (P := fun w h' => w = .int c ∧ h = h') (argsL := [(.int (pos (c :: d)))]) (rest := []) (wd := 0) (Ls1 := #[.val (.ref s), .val (.int (pos (c :: d)))]) d8_150 (q := 155) rfl (w52 hw) (w53 hw) (w54 hw) rfl (w55 hw) (w56 hw) (w57 hw) (w58 hw) (w45 hw) (w59 hw) (w7 hw) (by decide) pn11 pd11 rfl rfl S.1 (fun m_ => by simp [entryFrame, mkF, argsToLocals, Value.category]) rfl (by decide) rfl (by decide) (by decide) (by decide) (st_char l Z a0 hw n0 h O s b cf S _ (T).ix cz sf F (Q := RV (fun w h' => w = .int c ∧ h = h')) ⟨_, rfl, by rw [(T).hd], rfl⟩) ?_
    rintro _ _ ⟨rfl, rfl⟩
    refine Go.bipush d8_155 (q := 157) rfl (x := (101 : Int32)) (by decide) ?_
    refine Go.icmp_eq d8_157 (q := 172) (q' := 160) (by decide) rfl rfl (fun c49 => ?_) (fun c49 => ?_)
    · skip
      exact j172 l Z a0 hw n0 h O s b cf S cz sf F _ _ c d T (by rw [show sj138 (c :: d) = sj172 (c :: d) d from if_pos c49] at hQ; exact hQ)
    · skip
      refine Go.aloadN d8_160 (q := 161) rfl rfl rfl ?_
      refine Go.iloadN d8_161 (q := 162) rfl rfl ?_
      refine Go.callFV (P := fun w h' => w = .int c ∧ h = h') (argsL := [(.int (pos (c :: d)))]) (rest := []) (wd := 0) (Ls1 := #[.val (.ref s), .val (.int (pos (c :: d)))]) d8_162 (q := 167) rfl (w52 hw) (w53 hw) (w54 hw) rfl (w55 hw) (w56 hw) (w57 hw) (w58 hw) (w45 hw) (w59 hw) (w7 hw) (by decide) pn11 pd11 rfl rfl S.1 (fun m_ => by simp [entryFrame, mkF, argsToLocals, Value.category]) rfl (by decide) rfl (by decide) (by decide) (by decide) (st_char l Z a0 hw n0 h O s b cf S _ (T).ix cz sf F (Q := RV (fun w h' => w = .int c ∧ h = h')) ⟨_, rfl, by rw [(T).hd], rfl⟩) ?_
      rintro _ _ ⟨rfl, rfl⟩
      refine Go.bipush d8_167 (q := 169) rfl (x := (69 : Int32)) (by decide) ?_
      refine Go.icmp_ne d8_169 (q := 249) (q' := 172) (by decide) rfl rfl (fun c50 => ?_) (fun c50 => ?_)
      · skip
        refine Go.iloadN d8_249 (q := 250) rfl rfl ?_
        refine Go.ireturn d8_250 (by decide) (by decide) ?_
        rw [show sj138 (c :: d) = c :: d from (if_neg c49).trans (if_neg c50)] at hQ
        exact hQ
      · skip
        exact j172 l Z a0 hw n0 h O s b cf S cz sf F _ _ c d T (by rw [show sj138 (c :: d) = sj172 (c :: d) d from (if_neg c49).trans (if_pos c50)] at hQ; exact hQ)
set_option maxRecDepth 65536 in
set_option maxHeartbeats 40000000 in
theorem j89a (l : Launch) (Z : State) (a0 : Array Value) (hw : Hw a0 Z) (n0 : Nat) (h : Heap) (O : Old Z n0 h) (s b : Addr) (cf : Nat → Int32) (S : ST Z h s b cf) (cz : Int32) (sf : Value) (F : Facts Z cz sf) (u0 : Int32) (e : Int32) (y : List Int32) (T : TX cf (e :: y)) {Q : Option Value → Heap → Prop} (hQ : Q (some (.int (pos (sj89 (e :: y))))) h) :
    Go l Z (⟨"com/example/spanforge/spanforge/json/NumberText", "scanJson", "(Ljava/lang/CharSequence;I)I"⟩ : MethodName) prog_5_method_2_code 5 (some .int) ({ frames := 5, cells := 0, slots := 0, locals := 81 } : Room) n0 Q h 0 0 89 #[.val (.ref s), .val (.int u0), .val (.int (pos (e :: y))), .unset, .unset] [] := by
  rcases y with _ | ⟨c, d⟩
  · skip
    refine Go.iloadN d8_89 (q := 90) rfl rfl ?_
    refine Go.istoreN d8_90 (q := 91) rfl (Ls' := #[.val (.ref s), .val (.int u0), .val (.int (pos (e :: []))), .val (.int (pos (e :: []))), .unset]) rfl ?_
    refine Go.iloadN d8_91 (q := 92) rfl rfl ?_
    refine Go.iconst d8_92 (q := 93) rfl (x := (1 : Int32)) (by decide) ?_
    refine Go.iadd d8_93 (q := 94) rfl ?_
    rw [(T).nx]
    refine Go.aloadN d8_94 (q := 95) rfl rfl rfl ?_
    refine Go.callFV (P := fun w h' => w = .int (12 : Int32) ∧ h = h') (argsL := []) (rest := [(.int (pos []))]) (wd := 1) (Ls1 := #[.val (.ref s)]) d8_95 (q := 100) rfl (w38 hw) (w39 hw) (w40 hw) rfl (w41 hw) (w42 hw) (w43 hw) (w44 hw) (w45 hw) (w46 hw) (w7 hw) (by decide) pn9 pd9 rfl rfl S.1 (fun m_ => by simp [entryFrame, mkF, argsToLocals, Value.category]) rfl (by decide) rfl (by decide) (by decide) (by decide) (st_length l Z a0 hw n0 h O s b cf S cz sf F (Q := RV (fun w h' => w = .int (12 : Int32) ∧ h = h')) ⟨_, rfl, rfl, rfl⟩) ?_
    rintro _ _ ⟨rfl, rfl⟩
    refine Go.icmp_ge d8_100 (q := 138) (q' := 103) (by decide) rfl rfl (fun _ => ?_) (fun c_ => absurd c_ nil_lt)
    exact j138 l Z a0 hw n0 h O s b cf S cz sf F _ _ [e] T hQ
  · skip
    refine Go.iloadN d8_89 (q := 90) rfl rfl ?_
    refine Go.istoreN d8_90 (q := 91) rfl (Ls' := #[.val (.ref s), .val (.int u0), .val (.int (pos (e :: (c :: d)))), .val (.int (pos (e :: (c :: d)))), .unset]) rfl ?_
    refine Go.iloadN d8_91 (q := 92) rfl rfl ?_
    refine Go.iconst d8_92 (q := 93) rfl (x := (1 : Int32)) (by decide) ?_
    refine Go.iadd d8_93 (q := 94) rfl ?_
    rw [(T).nx]
    refine Go.aloadN d8_94 (q := 95) rfl rfl rfl ?_
    refine Go.callFV (P := fun w h' => w = .int (12 : Int32) ∧ h = h') (argsL := []) (rest := [(.int (pos (c :: d)))]) (wd := 1) (Ls1 := #[.val (.ref s)]) d8_95 (q := 100) rfl (w38 hw) (w39 hw) (w40 hw) rfl (w41 hw) (w42 hw) (w43 hw) (w44 hw) (w45 hw) (w46 hw) (w7 hw) (by decide) pn9 pd9 rfl rfl S.1 (fun m_ => by simp [entryFrame, mkF, argsToLocals, Value.category]) rfl (by decide) rfl (by decide) (by decide) (by decide) (st_length l Z a0 hw n0 h O s b cf S cz sf F (Q := RV (fun w h' => w = .int (12 : Int32) ∧ h = h')) ⟨_, rfl, rfl, rfl⟩) ?_
    rintro _ _ ⟨rfl, rfl⟩
    refine Go.icmp_ge d8_100 (q := 138) (q' := 103) (by decide) rfl rfl (fun c_ => absurd T.tl.lt c_) (fun _ => ?_)
    refine Go.aloadN d8_103 (q := 104) rfl rfl rfl ?_
    refine Go.iloadN d8_104 (q := 105) rfl rfl ?_
    refine Go.callFV (P := fun w h' => w = .int e ∧ h = h') (argsL := [(.int (pos (e :: (c :: d))))]) (rest := []) (wd := 0) (Ls1 := #[.val (.ref s), .val (.int (pos (e :: (c :: d))))]) d8_105 (q := 110) rfl (w52 hw) (w53 hw) (w54 hw) rfl (w55 hw) (w56 hw) (w57 hw) (w58 hw) (w45 hw) (w59 hw) (w7 hw) (by decide) pn11 pd11 rfl rfl S.1 (fun m_ => by simp [entryFrame, mkF, argsToLocals, Value.category]) rfl (by decide) rfl (by decide) (by decide) (by decide) (st_char l Z a0 hw n0 h O s b cf S _ (T).ix cz sf F (Q := RV (fun w h' => w = .int e ∧ h = h')) ⟨_, rfl, by rw [(T).hd], rfl⟩) ?_
    rintro _ _ ⟨rfl, rfl⟩
    refine Go.bipush d8_110 (q := 112) rfl (x := (46 : Int32)) (by decide) ?_
    refine Go.icmp_ne d8_112 (q := 138) (q' := 115) (by decide) rfl rfl (fun c53 => ?_) (fun c53 => ?_)
    · skip
      exact j138 l Z a0 hw n0 h O s b cf S cz sf F _ _ (e :: c :: d) T (by rw [show sj89 (e :: c :: d) = sj138 (e :: c :: d) from if_neg c53] at hQ; exact hQ)
    · skip
      refine Go.aloadN d8_115 (q := 116) rfl rfl rfl ?_
      refine Go.iloadN d8_116 (q := 117) rfl rfl ?_
      refine Go.iconst d8_117 (q := 118) rfl (x := (1 : Int32)) (by decide) ?_
      refine Go.iadd d8_118 (q := 119) rfl ?_
      rw [(T).nx]
      refine Go.callFV (P := fun w h' => w = .int c ∧ h = h') (argsL := [(.int (pos (c :: d)))]) (rest := []) (wd := 0) (Ls1 := #[.val (.ref s), .val (.int (pos (c :: d)))]) d8_119 (q := 124) rfl (w52 hw) (w53 hw) (w54 hw) rfl (w55 hw) (w56 hw) (w57 hw) (w58 hw) (w45 hw) (w59 hw) (w7 hw) (by decide) pn11 pd11 rfl rfl S.1 (fun m_ => by simp [entryFrame, mkF, argsToLocals, Value.category]) rfl (by decide) rfl (by decide) (by decide) (by decide) (st_char l Z a0 hw n0 h O s b cf S _ (T.tl).ix cz sf F (Q := RV (fun w h' => w = .int c ∧ h = h')) ⟨_, rfl, by rw [(T.tl).hd], rfl⟩) ?_
      rintro _ _ ⟨rfl, rfl⟩
      refine Go.callSV (P := fun w h' => w = .int (dgt c) ∧ h = h') (argsL := [(.int c)]) (rest := []) (wd := 0) (Ls1 := #[.val (.int c)]) d8_124 (q := 127) rfl (w82 hw) (w83 hw) (w36 hw) (w84 hw) (by decide) pn17 pd17 rfl rfl (fun m_ => by simp [entryFrame, mkF, argsToLocals, Value.category]) rfl (by decide) rfl (by decide) (by decide) (by decide) (b17 l Z a0 hw n0 h c (Q := RV (fun w h' => w = .int (dgt c) ∧ h = h')) ⟨_, rfl, rfl, rfl⟩) ?_
      rintro _ _ ⟨rfl, rfl⟩
      refine Go.if_eq d8_127 (q := 138) (q' := 130) (by decide) rfl rfl (fun c54 => ?_) (fun c54 => ?_)
      · skip
        exact j138 l Z a0 hw n0 h O s b cf S cz sf F _ _ (e :: c :: d) T (by rw [show sj89 (e :: c :: d) = sj138 (e :: c :: d) from (if_pos c53).trans (if_pos c54)] at hQ; exact hQ)
      · skip
        refine Go.aloadN d8_130 (q := 131) rfl rfl rfl ?_
        refine Go.iloadN d8_131 (q := 132) rfl rfl ?_
        refine Go.iconst d8_132 (q := 133) rfl (x := (1 : Int32)) (by decide) ?_
        refine Go.iadd d8_133 (q := 134) rfl ?_
        rw [(T).nx]
        refine Go.callSV (P := fun w h' => w = .int (pos (skipd (c :: d))) ∧ h = h') (argsL := [(.ref s), (.int (pos (c :: d)))]) (rest := []) (wd := 0) (Ls1 := #[.val (.ref s), .val (.int (pos (c :: d))), .unset]) d8_134 (q := 137) rfl (w85 hw) (w86 hw) (w36 hw) (w87 hw) (by decide) pn18 pd18 rfl rfl (fun m_ => by simp [entryFrame, mkF, argsToLocals, Value.category]) rfl (by decide) rfl (by decide) (by decide) (by decide) (sk0 l Z a0 hw n0 h O s b cf S cz sf F (c :: d) (T.tl) (Q := RV (fun w h' => w = .int (pos (skipd (c :: d))) ∧ h = h')) ⟨_, rfl, rfl, rfl⟩) ?_
        rintro _ _ ⟨rfl, rfl⟩
        refine Go.istoreN d8_137 (q := 138) rfl (Ls' := #[.val (.ref s), .val (.int u0), .val (.int (pos (e :: (c :: d)))), .val (.int (pos (skipd (c :: d)))), .unset]) rfl ?_
        exact j138 l Z a0 hw n0 h O s b cf S cz sf F _ _ (skipd (c :: d)) T.tl.skp (by rw [show sj89 (e :: c :: d) = sj138 (skipd (c :: d)) from (if_pos c53).trans (if_neg c54)] at hQ; exact hQ)
set_option maxRecDepth 65536 in
set_option maxHeartbeats 40000000 in
theorem j89 (l : Launch) (Z : State) (a0 : Array Value) (hw : Hw a0 Z) (n0 : Nat) (h : Heap) (O : Old Z n0 h) (s b : Addr) (cf : Nat → Int32) (S : ST Z h s b cf) (cz : Int32) (sf : Value) (F : Facts Z cz sf) (u0 : Int32) (y : List Int32) (T : TX cf y) {Q : Option Value → Heap → Prop} (hQ : Q (some (.int (pos (sj89 y)))) h) :
    Go l Z (⟨"com/example/spanforge/spanforge/json/NumberText", "scanJson", "(Ljava/lang/CharSequence;I)I"⟩ : MethodName) prog_5_method_2_code 5 (some .int) ({ frames := 5, cells := 0, slots := 0, locals := 81 } : Room) n0 Q h 0 0 89 #[.val (.ref s), .val (.int u0), .val (.int (pos y)), .unset, .unset] [] := by
  rcases y with _ | ⟨c, d⟩
  · skip
    refine Go.iloadN d8_89 (q := 90) rfl rfl ?_
    refine Go.istoreN d8_90 (q := 91) rfl (Ls' := #[.val (.ref s), .val (.int u0), .val (.int (pos [])), .val (.int (pos [])), .unset]) rfl ?_
    refine Go.iloadN d8_91 (q := 92) rfl rfl ?_
    refine Go.iconst d8_92 (q := 93) rfl (x := (1 : Int32)) (by decide) ?_
    refine Go.iadd d8_93 (q := 94) rfl ?_
    refine Go.aloadN d8_94 (q := 95) rfl rfl rfl ?_
    refine Go.callFV (P := fun w h' => w = .int (12 : Int32) ∧ h = h') (argsL := []) (rest := [(.int ((pos []) + (1 : Int32)))]) (wd := 1) (Ls1 := #[.val (.ref s)]) d8_95 (q := 100) rfl (w38 hw) (w39 hw) (w40 hw) rfl (w41 hw) (w42 hw) (w43 hw) (w44 hw) (w45 hw) (w46 hw) (w7 hw) (by decide) pn9 pd9 rfl rfl S.1 (fun m_ => by simp [entryFrame, mkF, argsToLocals, Value.category]) rfl (by decide) rfl (by decide) (by decide) (by decide) (st_length l Z a0 hw n0 h O s b cf S cz sf F (Q := RV (fun w h' => w = .int (12 : Int32) ∧ h = h')) ⟨_, rfl, rfl, rfl⟩) ?_
    rintro _ _ ⟨rfl, rfl⟩
    refine Go.icmp_ge d8_100 (q := 138) (q' := 103) (by decide) rfl rfl (fun _ => ?_) (fun c_ => absurd c_ nil_lt1)
    exact j138 l Z a0 hw n0 h O s b cf S cz sf F _ _ [] T hQ
  · skip
    exact j89a l Z a0 hw n0 h O s b cf S cz sf F _ c d T hQ
set_option maxRecDepth 65536 in
set_option maxHeartbeats 40000000 in
theorem j55 (l : Launch) (Z : State) (a0 : Array Value) (hw : Hw a0 Z) (n0 : Nat) (h : Heap) (O : Old Z n0 h) (s b : Addr) (cf : Nat → Int32) (S : ST Z h s b cf) (cz : Int32) (sf : Value) (F : Facts Z cz sf) (u : List Int32) (y : List Int32) (T : TX cf y) {Q : Option Value → Heap → Prop} (hQ : Q (some (.int (pos (sj55 u y)))) h) :
    Go l Z (⟨"com/example/spanforge/spanforge/json/NumberText", "scanJson", "(Ljava/lang/CharSequence;I)I"⟩ : MethodName) prog_5_method_2_code 5 (some .int) ({ frames := 5, cells := 0, slots := 0, locals := 81 } : Room) n0 Q h 0 0 55 #[.val (.ref s), .val (.int (pos u)), .val (.int (pos y)), .unset, .unset] [] := by
  rcases y with _ | ⟨c, d⟩
  · skip
    refine Go.iloadN d8_55 (q := 56) rfl rfl ?_
    refine Go.aloadN d8_56 (q := 57) rfl rfl rfl ?_
    refine Go.callFV (P := fun w h' => w = .int (12 : Int32) ∧ h = h') (argsL := []) (rest := [(.int (pos []))]) (wd := 1) (Ls1 := #[.val (.ref s)]) d8_57 (q := 62) rfl (w38 hw) (w39 hw) (w40 hw) rfl (w41 hw) (w42 hw) (w43 hw) (w44 hw) (w45 hw) (w46 hw) (w7 hw) (by decide) pn9 pd9 rfl rfl S.1 (fun m_ => by simp [entryFrame, mkF, argsToLocals, Value.category]) rfl (by decide) rfl (by decide) (by decide) (by decide) (st_length l Z a0 hw n0 h O s b cf S cz sf F (Q := RV (fun w h' => w = .int (12 : Int32) ∧ h = h')) ⟨_, rfl, rfl, rfl⟩) ?_
    rintro _ _ ⟨rfl, rfl⟩
    refine Go.icmp_ge d8_62 (q := 87) (q' := 65) (by decide) rfl rfl (fun _ => ?_) (fun c_ => absurd c_ nil_lt)
    refine Go.iloadN d8_87 (q := 88) rfl rfl ?_
    refine Go.ireturn d8_88 (by decide) (by decide) ?_
    exact hQ
  · skip
    refine Go.iloadN d8_55 (q := 56) rfl rfl ?_
    refine Go.aloadN d8_56 (q := 57) rfl rfl rfl ?_
    refine Go.callFV (P := fun w h' => w = .int (12 : Int32) ∧ h = h') (argsL := []) (rest := [(.int (pos (c :: d)))]) (wd := 1) (Ls1 := #[.val (.ref s)]) d8_57 (q := 62) rfl (w38 hw) (w39 hw) (w40 hw) rfl (w41 hw) (w42 hw) (w43 hw) (w44 hw) (w45 hw) (w46 hw) (w7 hw) (by decide) pn9 pd9 rfl rfl S.1 (fun m_ => by simp [entryFrame, mkF, argsToLocals, Value.category]) rfl (by decide) rfl (by decide) (by decide) (by decide) (st_length l Z a0 hw n0 h O s b cf S cz sf F (Q := RV (fun w h' => w = .int (12 : Int32) ∧ h = h')) ⟨_, rfl, rfl, rfl⟩) ?_
    rintro _ _ ⟨rfl, rfl⟩
    refine Go.icmp_ge d8_62 (q := 87) (q' := 65) (by decide) rfl rfl (fun c_ => absurd T.lt c_) (fun _ => ?_)
    refine Go.aloadN d8_65 (q := 66) rfl rfl rfl ?_
    refine Go.iloadN d8_66 (q := 67) rfl rfl ?_
    refine Go.callFV (P := fun w h' => w = .int c ∧ h = h') (argsL := [(.int (pos (c :: d)))]) (rest := []) (wd := 0) (Ls1 := #[.val (.ref s), .val (.int (pos (c :: d)))]) d8_67 (q := 72) rfl (w52 hw) (w53 hw) (w54 hw) rfl (w55 hw) (w56 hw) (w57 hw) (w58 hw) (w45 hw) (w59 hw) (w7 hw) (by decide) pn11 pd11 rfl rfl S.1 (fun m_ => by simp [entryFrame, mkF, argsToLocals, Value.category]) rfl (by decide) rfl (by decide) (by decide) (by decide) (st_char l Z a0 hw n0 h O s b cf S _ (T).ix cz sf F (Q := RV (fun w h' => w = .int c ∧ h = h')) ⟨_, rfl, by rw [(T).hd], rfl⟩) ?_
    rintro _ _ ⟨rfl, rfl⟩
    refine Go.callSV (P := fun w h' => w = .int (dgt c) ∧ h = h') (argsL := [(.int c)]) (rest := []) (wd := 0) (Ls1 := #[.val (.int c)]) d8_72 (q := 75) rfl (w82 hw) (w83 hw) (w36 hw) (w84 hw) (by decide) pn17 pd17 rfl rfl (fun m_ => by simp [entryFrame, mkF, argsToLocals, Value.category]) rfl (by decide) rfl (by decide) (by decide) (by decide) (b17 l Z a0 hw n0 h c (Q := RV (fun w h' => w = .int (dgt c) ∧ h = h')) ⟨_, rfl, rfl, rfl⟩) ?_
    rintro _ _ ⟨rfl, rfl⟩
    refine Go.if_eq d8_75 (q := 87) (q' := 78) (by decide) rfl rfl (fun c58 => ?_) (fun c58 => ?_)
    · skip
      refine Go.iloadN d8_87 (q := 88) rfl rfl ?_
      refine Go.ireturn d8_88 (by decide) (by decide) ?_
      rw [show sj55 u (c :: d) = u from if_pos c58] at hQ
      exact hQ
    · skip
      refine Go.aloadN d8_78 (q := 79) rfl rfl rfl ?_
      refine Go.iloadN d8_79 (q := 80) rfl rfl ?_
      refine Go.callSV (P := fun w h' => w = .int (pos (skipd (c :: d))) ∧ h = h') (argsL := [(.ref s), (.int (pos (c :: d)))]) (rest := []) (wd := 0) (Ls1 := #[.val (.ref s), .val (.int (pos (c :: d))), .unset]) d8_80 (q := 83) rfl (w85 hw) (w86 hw) (w36 hw) (w87 hw) (by decide) pn18 pd18 rfl rfl (fun m_ => by simp [entryFrame, mkF, argsToLocals, Value.category]) rfl (by decide) rfl (by decide) (by decide) (by decide) (sk0 l Z a0 hw n0 h O s b cf S cz sf F (c :: d) (T) (Q := RV (fun w h' => w = .int (pos (skipd (c :: d))) ∧ h = h')) ⟨_, rfl, rfl, rfl⟩) ?_
      rintro _ _ ⟨rfl, rfl⟩
      refine Go.istoreN d8_83 (q := 84) rfl (Ls' := #[.val (.ref s), .val (.int (pos u)), .val (.int (pos (skipd (c :: d)))), .unset, .unset]) rfl ?_
      refine Go.goto d8_84 (q := 89) (by decide) rfl ?_
      exact j89 l Z a0 hw n0 h O s b cf S cz sf F _ (skipd (c :: d)) T.skp (by rw [show sj55 u (c :: d) = sj89 (skipd (c :: d)) from if_neg c58] at hQ; exact hQ)
set_option maxRecDepth 65536 in
set_option maxHeartbeats 40000000 in
theorem j27 (l : Launch) (Z : State) (a0 : Array Value) (hw : Hw a0 Z) (n0 : Nat) (h : Heap) (O : Old Z n0 h) (s b : Addr) (cf : Nat → Int32) (S : ST Z h s b cf) (cz : Int32) (sf : Value) (F : Facts Z cz sf) (u : List Int32) (y : List Int32) (T : TX cf y) {Q : Option Value → Heap → Prop} (hQ : Q (some (.int (pos (sj27 u y)))) h) :
    Go l Z (⟨"com/example/spanforge/spanforge/json/NumberText", "scanJson", "(Ljava/lang/CharSequence;I)I"⟩ : MethodName) prog_5_method_2_code 5 (some .int) ({ frames := 5, cells := 0, slots := 0, locals := 81 } : Room) n0 Q h 0 0 27 #[.val (.ref s), .val (.int (pos u)), .val (.int (pos y)), .unset, .unset] [] := by
  rcases y with _ | ⟨c, d⟩
  · skip
    refine Go.iloadN d8_27 (q := 28) rfl rfl ?_
    refine Go.aloadN d8_28 (q := 29) rfl rfl rfl ?_
    refine Go.callFV (P := fun w h' => w = .int (12 : Int32) ∧ h = h') (argsL := []) (rest := [(.int (pos []))]) (wd := 1) (Ls1 := #[.val (.ref s)]) d8_29 (q := 34) rfl (w38 hw) (w39 hw) (w40 hw) rfl (w41 hw) (w42 hw) (w43 hw) (w44 hw) (w45 hw) (w46 hw) (w7 hw) (by decide) pn9 pd9 rfl rfl S.1 (fun m_ => by simp [entryFrame, mkF, argsToLocals, Value.category]) rfl (by decide) rfl (by decide) (by decide) (by decide) (st_length l Z a0 hw n0 h O s b cf S cz sf F (Q := RV (fun w h' => w = .int (12 : Int32) ∧ h = h')) ⟨_, rfl, rfl, rfl⟩) ?_
    rintro _ _ ⟨rfl, rfl⟩
    refine Go.icmp_ge d8_34 (q := 55) (q' := 37) (by decide) rfl rfl (fun _ => ?_) (fun c_ => absurd c_ nil_lt)
    exact j55 l Z a0 hw n0 h O s b cf S cz sf F u [] T hQ
  · skip
    refine Go.iloadN d8_27 (q := 28) rfl rfl ?_
    refine Go.aloadN d8_28 (q := 29) rfl rfl rfl ?_
    refine Go.callFV (P := fun w h' => w = .int (12 : Int32) ∧ h = h') (argsL := []) (rest := [(.int (pos (c :: d)))]) (wd := 1) (Ls1 := #[.val (.ref s)]) d8_29 (q := 34) rfl (w38 hw) (w39 hw) (w40 hw) rfl (w41 hw) (w42 hw) (w43 hw) (w44 hw) (w45 hw) (w46 hw) (w7 hw) (by decide) pn9 pd9 rfl rfl S.1 (fun m_ => by simp [entryFrame, mkF, argsToLocals, Value.category]) rfl (by decide) rfl (by decide) (by decide) (by decide) (st_length l Z a0 hw n0 h O s b cf S cz sf F (Q := RV (fun w h' => w = .int (12 : Int32) ∧ h = h')) ⟨_, rfl, rfl, rfl⟩) ?_
    rintro _ _ ⟨rfl, rfl⟩
    refine Go.icmp_ge d8_34 (q := 55) (q' := 37) (by decide) rfl rfl (fun c_ => absurd T.lt c_) (fun _ => ?_)
    refine Go.aloadN d8_37 (q := 38) rfl rfl rfl ?_
    refine Go.iloadN d8_38 (q := 39) rfl rfl ?_
    refine Go.callFV (P := fun w h' => w = .int c ∧ h = h') (argsL := [(.int (pos (c :: d)))]) (rest := []) (wd := 0) (Ls1 := #[.val (.ref s), .val (.int (pos (c :: d)))]) d8_39 (q := 44) rfl (w52 hw) (w53 hw) (w54 hw) rfl (w55 hw) (w56 hw) (w57 hw) (w58 hw) (w45 hw) (w59 hw) (w7 hw) (by decide) pn11 pd11 rfl rfl S.1 (fun m_ => by simp [entryFrame, mkF, argsToLocals, Value.category]) rfl (by decide) rfl (by decide) (by decide) (by decide) (st_char l Z a0 hw n0 h O s b cf S _ (T).ix cz sf F (Q := RV (fun w h' => w = .int c ∧ h = h')) ⟨_, rfl, by rw [(T).hd], rfl⟩) ?_
    rintro _ _ ⟨rfl, rfl⟩
    refine Go.bipush d8_44 (q := 46) rfl (x := (48 : Int32)) (by decide) ?_
    refine Go.icmp_ne d8_46 (q := 55) (q' := 49) (by decide) rfl rfl (fun c61 => ?_) (fun c61 => ?_)
    · skip
      exact j55 l Z a0 hw n0 h O s b cf S cz sf F u (c :: d) T (by rw [show sj27 u (c :: d) = sj55 u (c :: d) from if_neg c61] at hQ; exact hQ)
    · skip
      refine Go.iinc d8_49 (q := 52) rfl rfl (w := (pos d)) (T).nx (Ls' := #[.val (.ref s), .val (.int (pos u)), .val (.int (pos d)), .unset, .unset]) rfl ?_
      refine Go.goto d8_52 (q := 89) (by decide) rfl ?_
      exact j89 l Z a0 hw n0 h O s b cf S cz sf F _ d T.tl (by rw [show sj27 u (c :: d) = sj89 d from if_pos c61] at hQ; exact hQ)
set_option maxRecDepth 65536 in
set_option maxHeartbeats 40000000 in
theorem j0 (l : Launch) (Z : State) (a0 : Array Value) (hw : Hw a0 Z) (n0 : Nat) (h : Heap) (O : Old Z n0 h) (s b : Addr) (cf : Nat → Int32) (S : ST Z h s b cf) (cz : Int32) (sf : Value) (F : Facts Z cz sf) (y : List Int32) (T : TX cf y) {Q : Option Value → Heap → Prop} (hQ : Q (some (.int (pos (scan y)))) h) :
    Go l Z (⟨"com/example/spanforge/spanforge/json/NumberText", "scanJson", "(Ljava/lang/CharSequence;I)I"⟩ : MethodName) prog_5_method_2_code 5 (some .int) ({ frames := 5, cells := 0, slots := 0, locals := 81 } : Room) n0 Q h 0 0 0 #[.val (.ref s), .val (.int (pos y)), .unset, .unset, .unset] [] := by
  rcases y with _ | ⟨c, d⟩
  · skip
    refine Go.iloadN d8_0 (q := 1) rfl rfl ?_
    refine Go.istoreN d8_1 (q := 2) rfl (Ls' := #[.val (.ref s), .val (.int (pos [])), .val (.int (pos [])), .unset, .unset]) rfl ?_
    refine Go.iloadN d8_2 (q := 3) rfl rfl ?_
    refine Go.aloadN d8_3 (q := 4) rfl rfl rfl ?_
    refine Go.callFV (P := fun w h' => w = .int (12 : Int32) ∧ h = h') (argsL := []) (rest := [(.int (pos []))]) (wd := 1) (Ls1 := #[.val (.ref s)]) d8_4 (q := 9) rfl (w38 hw) (w39 hw) (w40 hw) rfl (w41 hw) (w42 hw) (w43 hw) (w44 hw) (w45 hw) (w46 hw) (w7 hw) (by decide) pn9 pd9 rfl rfl S.1 (fun m_ => by simp [entryFrame, mkF, argsToLocals, Value.category]) rfl (by decide) rfl (by decide) (by decide) (by decide) (st_length l Z a0 hw n0 h O s b cf S cz sf F (Q := RV (fun w h' => w = .int (12 : Int32) ∧ h = h')) ⟨_, rfl, rfl, rfl⟩) ?_
    rintro _ _ ⟨rfl, rfl⟩
    refine Go.icmp_ge d8_9 (q := 27) (q' := 12) (by decide) rfl rfl (fun _ => ?_) (fun c_ => absurd c_ nil_lt)
    exact j27 l Z a0 hw n0 h O s b cf S cz sf F [] [] T hQ
  · skip
    refine Go.iloadN d8_0 (q := 1) rfl rfl ?_
    refine Go.istoreN d8_1 (q := 2) rfl (Ls' := #[.val (.ref s), .val (.int (pos (c :: d))), .val (.int (pos (c :: d))), .unset, .unset]) rfl ?_
    refine Go.iloadN d8_2 (q := 3) rfl rfl ?_
    refine Go.aloadN d8_3 (q := 4) rfl rfl rfl ?_
    refine Go.callFV (P := fun w h' => w = .int (12 : Int32) ∧ h = h') (argsL := []) (rest := [(.int (pos (c :: d)))]) (wd := 1) (Ls1 := #[.val (.ref s)]) d8_4 (q := 9) rfl (w38 hw) (w39 hw) (w40 hw) rfl (w41 hw) (w42 hw) (w43 hw) (w44 hw) (w45 hw) (w46 hw) (w7 hw) (by decide) pn9 pd9 rfl rfl S.1 (fun m_ => by simp [entryFrame, mkF, argsToLocals, Value.category]) rfl (by decide) rfl (by decide) (by decide) (by decide) (st_length l Z a0 hw n0 h O s b cf S cz sf F (Q := RV (fun w h' => w = .int (12 : Int32) ∧ h = h')) ⟨_, rfl, rfl, rfl⟩) ?_
    rintro _ _ ⟨rfl, rfl⟩
    refine Go.icmp_ge d8_9 (q := 27) (q' := 12) (by decide) rfl rfl (fun c_ => absurd T.lt c_) (fun _ => ?_)
    refine Go.aloadN d8_12 (q := 13) rfl rfl rfl ?_
    refine Go.iloadN d8_13 (q := 14) rfl rfl ?_
    refine Go.callFV (P := fun w h' => w = .int c ∧ h = h') (argsL := [(.int (pos (c :: d)))]) (rest := []) (wd := 0) (Ls1 := #[.val (.ref s), .val (.int (pos (c :: d)))]) d8_14 (q := 19) rfl (w52 hw) (w53 hw) (w54 hw) rfl (w55 hw) (w56 hw) (w57 hw) (w58 hw) (w45 hw) (w59 hw) (w7 hw) (by decide) pn11 pd11 rfl rfl S.1 (fun m_ => by simp [entryFrame, mkF, argsToLocals, Value.category]) rfl (by decide) rfl (by decide) (by decide) (by decide) (st_char l Z a0 hw n0 h O s b cf S _ (T).ix cz sf F (Q := RV (fun w h' => w = .int c ∧ h = h')) ⟨_, rfl, by rw [(T).hd], rfl⟩) ?_
    rintro _ _ ⟨rfl, rfl⟩
    refine Go.bipush d8_19 (q := 21) rfl (x := (45 : Int32)) (by decide) ?_
    refine Go.icmp_ne d8_21 (q := 27) (q' := 24) (by decide) rfl rfl (fun c64 => ?_) (fun c64 => ?_)
    · skip
      exact j27 l Z a0 hw n0 h O s b cf S cz sf F (c :: d) (c :: d) T (by rw [show scan (c :: d) = sj27 (c :: d) (c :: d) from if_neg c64] at hQ; exact hQ)
    · skip
      refine Go.iinc d8_24 (q := 27) rfl rfl (w := (pos d)) (T).nx (Ls' := #[.val (.ref s), .val (.int (pos (c :: d))), .val (.int (pos d)), .unset, .unset]) rfl ?_
      exact j27 l Z a0 hw n0 h O s b cf S cz sf F (c :: d) d T.tl (by rw [show scan (c :: d) = sj27 (c :: d) d from if_pos c64] at hQ; exact hQ)
theorem nar_cc (v : Int32) : narrow .char (.int v.toUInt32.toUInt16.toUInt32.toInt32) = .int v.toUInt32.toUInt16.toUInt32.toInt32 := by
  have h : ∀ x : UInt16, x.toUInt32.toInt32.toUInt32.toUInt16 = x := fun x => by simp
  exact congrArg (fun x : UInt16 => Value.int x.toUInt32.toInt32) (h v.toUInt32.toUInt16)
def dgl (c : Int32) : Int32 :=
  if c < (48 : Int32) then (0 : Int32) else
  if (57 : Int32) < c then (0 : Int32) else
  (1 : Int32)
set_option maxRecDepth 65536 in
set_option maxHeartbeats 40000000 in
theorem b1 (l : Launch) (Z : State) (a0 : Array Value) (hw : Hw a0 Z) (n0 : Nat) (h : Heap) (c : Int32) {Q : Option Value → Heap → Prop} (hQ : Q (some (.int (dgl c))) h) :
    Go l Z (⟨"com/example/spanforge/spanforge/json/NumberTextScanJsonPinLaw", "isDig", "(C)Z"⟩ : MethodName) method_2_code 1 (some .boolean) ({ frames := 0, cells := 0, slots := 0, locals := 0 } : Room) n0 Q h 0 0 0 #[.val (.int c)] [] := by
  refine Go.iloadN d1_0 (q := 1) rfl rfl ?_
  refine Go.bipush d1_1 (q := 3) rfl (x := (48 : Int32)) (by decide) ?_
  refine Go.icmp_lt d1_3 (q := 16) (q' := 6) (by decide) rfl rfl (fun c65 => ?_) (fun c65 => ?_)
  · skip
    refine Go.iconst d1_16 (q := 17) rfl (x := (0 : Int32)) (by decide) ?_
    refine Go.zreturn d1_17 (by decide) (by decide) (by decide) ?_
    unfold dgl at hQ
    rw [if_pos c65] at hQ
    exact hQ
  · skip
    refine Go.iloadN d1_6 (q := 7) rfl rfl ?_
    refine Go.bipush d1_7 (q := 9) rfl (x := (57 : Int32)) (by decide) ?_
    refine Go.icmp_gt d1_9 (q := 16) (q' := 12) (by decide) rfl rfl (fun c66 => ?_) (fun c66 => ?_)
    · skip
      refine Go.iconst d1_16 (q := 17) rfl (x := (0 : Int32)) (by decide) ?_
      refine Go.zreturn d1_17 (by decide) (by decide) (by decide) ?_
      unfold dgl at hQ
      rw [if_neg c65, if_pos c66] at hQ
      exact hQ
    · skip
      refine Go.iconst d1_12 (q := 13) rfl (x := (1 : Int32)) (by decide) ?_
      refine Go.goto d1_13 (q := 17) (by decide) rfl ?_
      refine Go.zreturn d1_17 (by decide) (by decide) (by decide) ?_
      unfold dgl at hQ
      rw [if_neg c65, if_neg c66] at hQ
      exact hQ
def dgf (w : Int64) (j : Int32) : Int32 :=
  ((48 : Int32) + (((XT.ushrL w ((8 : Int32) * j)) &&& (255 : Int64)) % (10 : Int64)).toInt32).toUInt32.toUInt16.toUInt32.toInt32
set_option maxRecDepth 65536 in
set_option maxHeartbeats 40000000 in
theorem b16 (l : Launch) (Z : State) (a0 : Array Value) (hw : Hw a0 Z) (n0 : Nat) (h : Heap) (w : Int64) (j : Int32) {Q : Option Value → Heap → Prop} (hQ : Q (some (.int (dgf w j))) h) :
    Go l Z (⟨"com/example/spanforge/spanforge/json/NumberTextScanJsonPinLaw", "dg", "(JI)C"⟩ : MethodName) method_3_code 3 (some .char) ({ frames := 0, cells := 0, slots := 0, locals := 0 } : Room) n0 Q h 0 0 0 #[.val (.long w), .second, .val (.int j)] [] := by
  refine Go.bipush d16_0 (q := 2) rfl (x := (48 : Int32)) (by decide) ?_
  refine Go.lloadN d16_2 (q := 3) rfl rfl ?_
  refine Go.bipush d16_3 (q := 5) rfl (x := (8 : Int32)) (by decide) ?_
  refine Go.iloadN d16_5 (q := 6) rfl rfl ?_
  refine Go.imul d16_6 (q := 7) rfl ?_
  refine Go.lushr d16_7 (q := 8) rfl ?_
  refine Go.ldc2 d16_8 (q := 11) rfl (v := (255 : Int64)) (w80 hw) ?_
  refine Go.land d16_11 (q := 12) rfl ?_
  refine Go.ldc2 d16_12 (q := 15) rfl (v := (10 : Int64)) (w81 hw) ?_
  refine Go.lrem d16_15 (q := 16) rfl (by decide) ?_
  refine Go.l2i d16_16 (q := 17) rfl ?_
  refine Go.iadd d16_17 (q := 18) rfl ?_
  refine Go.i2c d16_18 (q := 19) rfl ?_
  refine Go.creturn d16_19 (by decide) (by decide) (nar_cc _) ?_
  unfold dgf at hQ
  exact hQ
def nzf (w : Int64) : Int32 :=
  ((49 : Int32) + ((w &&& (255 : Int64)) % (9 : Int64)).toInt32).toUInt32.toUInt16.toUInt32.toInt32
set_option maxRecDepth 65536 in
set_option maxHeartbeats 40000000 in
theorem b19 (l : Launch) (Z : State) (a0 : Array Value) (hw : Hw a0 Z) (n0 : Nat) (h : Heap) (w : Int64) {Q : Option Value → Heap → Prop} (hQ : Q (some (.int (nzf w))) h) :
    Go l Z (⟨"com/example/spanforge/spanforge/json/NumberTextScanJsonPinLaw", "nz", "(J)C"⟩ : MethodName) method_4_code 2 (some .char) ({ frames := 0, cells := 0, slots := 0, locals := 0 } : Room) n0 Q h 0 0 0 #[.val (.long w), .second] [] := by
  refine Go.bipush d19_0 (q := 2) rfl (x := (49 : Int32)) (by decide) ?_
  refine Go.lloadN d19_2 (q := 3) rfl rfl ?_
  refine Go.ldc2 d19_3 (q := 6) rfl (v := (255 : Int64)) (w80 hw) ?_
  refine Go.land d19_6 (q := 7) rfl ?_
  refine Go.ldc2 d19_7 (q := 10) rfl (v := (9 : Int64)) (w91 hw) ?_
  refine Go.lrem d19_10 (q := 11) rfl (by decide) ?_
  refine Go.l2i d19_11 (q := 12) rfl ?_
  refine Go.iadd d19_12 (q := 13) rfl ?_
  refine Go.i2c d19_13 (q := 14) rfl ?_
  refine Go.creturn d19_14 (by decide) (by decide) (nar_cc _) ?_
  unfold nzf at hQ
  exact hQ
/-! the law's text -/
def intL (ik : Int32) : Int32 := if ik = 0 then 0 else if ik = 3 then 3 else 1
def sgnL (es : Int32) : Int32 := if es = 0 then 0 else 1
def expL (ep sg en : Int32) : Int32 := if ep = 0 then 0 else 1 + sg + en
def sgnW (m : Int32) : List Int32 := if m = 1 then [45] else []
def intW (ik z d1 d2 : Int32) : List Int32 := if ik = 1 then [48] else if ik = 2 then [z] else if ik = 3 then [z, d1, d2] else []
def fracW (fk d3 d4 : Int32) : List Int32 := if fk = 1 then [46] else if fk = 2 then [46, d3] else if fk = 3 then [46, d3, d4] else []
def esW (es : Int32) : List Int32 := if es = 1 then [43] else if es = 2 then [45] else []
def enW (en d5 d6 : Int32) : List Int32 := if en = 1 then [d5] else if en = 2 then [d5, d6] else []
def expW (ep es en ec d5 d6 : Int32) : List Int32 := if ep = 1 then ec :: (esW es ++ enW en d5 d6) else []
def trW (tp t : Int32) : List Int32 := if tp = 1 then [t] else []
/-- a digit's sign -/
def Dig (d : Int32) : Prop := dgt d = 1 ∧ d ≠ 43 ∧ d ≠ 45 ∧ d ≠ 46 ∧ d ≠ 69 ∧ d ≠ 101
theorem dig_of {d : Int32} (h : dgt d = 1) : Dig d := by
  refine ⟨h, ?_, ?_, ?_, ?_, ?_⟩ <;> (rintro rfl; revert h; decide)
theorem dgt_01 (d : Int32) : dgt d = 0 ∨ dgt d = 1 := by
  unfold dgt
  by_cases a : d < 48
  · rw [if_pos a]; exact Or.inl rfl
  · rw [if_neg a]
    by_cases b : 57 < d
    · rw [if_pos b]; exact Or.inl rfl
    · rw [if_neg b]; exact Or.inr rfl
def Two (m : Int32) : Prop := m = 0 ∨ m = 1
def Three (m : Int32) : Prop := m = 0 ∨ m = 1 ∨ m = 2
def Four (m : Int32) : Prop := m = 0 ∨ m = 1 ∨ m = 2 ∨ m = 3

def WW (m ik z d1 d2 fk d3 d4 ep es en ec d5 d6 tp t : Int32) : List Int32 := sgnW m ++ (intW ik z d1 d2 ++ (fracW fk d3 d4 ++ (expW ep es en ec d5 d6 ++ trW tp t)))

theorem and255L (x : Int64) : ∃ k : Fin 256, x &&& 255 = Int64.ofNat k.val := by
  have hlt : (x.toBitVec &&& 255#64).toNat < 256 := by
    rw [BitVec.toNat_and]; exact Nat.lt_of_le_of_lt Nat.and_le_right (by decide)
  refine ⟨⟨_, hlt⟩, ?_⟩
  apply Int64.toBitVec_inj.mp
  apply BitVec.eq_of_toNat_eq
  simp
theorem andN {c : Nat} (hc : c < 2 ^ 31) (x : Int32) : ∃ k : Fin (c + 1), x &&& Int32.ofNat c = Int32.ofNat k.val := by
  have hlt : (x.toBitVec &&& BitVec.ofNat 32 c).toNat < c + 1 := by
    rw [BitVec.toNat_and]; refine Nat.lt_of_le_of_lt Nat.and_le_right ?_
    rw [BitVec.toNat_ofNat, Nat.mod_eq_of_lt (by omega)]; exact Nat.lt_succ_self c
  refine ⟨⟨_, hlt⟩, ?_⟩
  apply Int32.toBitVec_inj.mp
  apply BitVec.eq_of_toNat_eq
  simp
theorem two_of (x : Int32) : Two (x &&& 1) := by
  obtain ⟨k, e⟩ := andN (c := 1) (by decide) x
  rw [show (1 : Int32) = Int32.ofNat 1 from rfl, e]
  clear e; revert k; unfold Two; decide
theorem four_of (x : Int32) : Four (x &&& 3) := by
  obtain ⟨k, e⟩ := andN (c := 3) (by decide) x
  rw [show (3 : Int32) = Int32.ofNat 3 from rfl, e]
  clear e; revert k; unfold Four; decide
theorem three_of (x : Int32) : Three ((x &&& 3) % 3) := by
  rcases four_of x with e | e | e | e <;> rw [e] <;> unfold Three <;> decide
def RC (v : Int32) : Prop := 0 ≤ v.toInt ∧ v.toInt ≤ 255
def ch (v : Int32) : Int32 := v.toUInt32.toUInt16.toUInt32.toInt32
theorem fin255 : ∀ k : Fin 256, RC (ch (Int32.ofNat k.val)) ∧ (dgt (ch (Int32.ofNat k.val)) = 1 → RC (ch (ch (Int32.ofNat k.val) + 10)) ∧ dgt (ch (ch (Int32.ofNat k.val) + 10)) = 0) := by unfold RC; decide +kernel
theorem ch255 (x : Int32) : RC (ch (x &&& 255)) ∧ (dgt (ch (x &&& 255)) = 1 → RC (ch (ch (x &&& 255) + 10)) ∧ dgt (ch (ch (x &&& 255) + 10)) = 0) := by
  obtain ⟨k, e⟩ := andN (c := 255) (by decide) x
  rw [show (255 : Int32) = Int32.ofNat 255 from rfl, e]
  exact fin255 k
theorem finD : ∀ k : Fin 256, dgt (ch (48 + (Int64.ofNat k.val % 10).toInt32)) = 1 ∧ RC (ch (48 + (Int64.ofNat k.val % 10).toInt32)) := by unfold RC; decide +kernel
theorem finZ : ∀ k : Fin 256, dgt (ch (49 + (Int64.ofNat k.val % 9).toInt32)) = 1 ∧ RC (ch (49 + (Int64.ofNat k.val % 9).toInt32)) ∧ ch (49 + (Int64.ofNat k.val % 9).toInt32) ≠ 48 := by unfold RC; decide +kernel
theorem digD (x : Int64) : dgt (ch (48 + ((x &&& 255) % 10).toInt32)) = 1 ∧ RC (ch (48 + ((x &&& 255) % 10).toInt32)) := by
  obtain ⟨k, e⟩ := and255L x
  rw [e]; exact finD k
theorem digZ (x : Int64) : dgt (ch (49 + ((x &&& 255) % 9).toInt32)) = 1 ∧ RC (ch (49 + ((x &&& 255) % 9).toInt32)) ∧ ch (49 + ((x &&& 255) % 9).toInt32) ≠ 48 := by
  obtain ⟨k, e⟩ := and255L x
  rw [e]; exact finZ k
/-! lengths -/
theorem len_sgn {m : Int32} (h : Two m) : m = Int32.ofNat (sgnW m).length ∧ (sgnW m).length ≤ 1 := by
  rcases h with rfl | rfl <;> exact ⟨rfl, by decide⟩
theorem len_int {ik : Int32} (z d1 d2 : Int32) (h : Four ik) : intL ik = Int32.ofNat (intW ik z d1 d2).length ∧ (intW ik z d1 d2).length ≤ 3 := by
  rcases h with rfl | rfl | rfl | rfl <;> exact ⟨rfl, by simp [intW]⟩
theorem len_frac {fk : Int32} (d3 d4 : Int32) (h : Four fk) : fk = Int32.ofNat (fracW fk d3 d4).length ∧ (fracW fk d3 d4).length ≤ 3 := by
  rcases h with rfl | rfl | rfl | rfl <;> exact ⟨rfl, by simp [fracW]⟩
theorem len_exp {ep es en : Int32} (ec d5 d6 : Int32) (h : Two ep) (hs : Three es) (hn : Three en) : expL ep (sgnL es) en = Int32.ofNat (expW ep es en ec d5 d6).length ∧ (expW ep es en ec d5 d6).length ≤ 4 := by
  rcases h with rfl | rfl
  · exact ⟨rfl, by simp [expW]⟩
  · rcases hs with rfl | rfl | rfl <;> rcases hn with rfl | rfl | rfl <;> exact ⟨rfl, by simp [expW, esW, enW]⟩
theorem len_tr {tp : Int32} (t : Int32) (h : Two tp) : tp = Int32.ofNat (trW tp t).length ∧ (trW tp t).length ≤ 1 := by
  rcases h with rfl | rfl <;> exact ⟨rfl, by simp [trW]⟩
theorem len_ww {m ik fk ep es en tp : Int32} (z d1 d2 d3 d4 ec d5 d6 t : Int32) (hm : Two m) (hik : Four ik) (hfk : Four fk) (hep : Two ep) (hes : Three es) (hen : Three en) (htp : Two tp) :
    (WW m ik z d1 d2 fk d3 d4 ep es en ec d5 d6 tp t).length ≤ 12 ∧ 12 - (m + intL ik + fk + expL ep (sgnL es) en + tp) = pos (WW m ik z d1 d2 fk d3 d4 ep es en ec d5 d6 tp t) := by
  obtain ⟨a1, b1⟩ := len_sgn hm
  obtain ⟨a2, b2⟩ := len_int z d1 d2 hik
  obtain ⟨a3, b3⟩ := len_frac d3 d4 hfk
  obtain ⟨a4, b4⟩ := len_exp ec d5 d6 hep hes hen
  obtain ⟨a5, b5⟩ := len_tr t htp
  have e : (WW m ik z d1 d2 fk d3 d4 ep es en ec d5 d6 tp t).length = (sgnW m).length + (intW ik z d1 d2).length + (fracW fk d3 d4).length + (expW ep es en ec d5 d6).length + (trW tp t).length := by
    unfold WW; simp only [List.length_append]; omega
  have q : (sgnW m).length + (intW ik z d1 d2).length + (fracW fk d3 d4).length + (expW ep es en ec d5 d6).length + (trW tp t).length ≤ 12 := by omega
  refine ⟨by omega, ?_⟩
  unfold pos
  rw [e]
  generalize (sgnW m).length = n1 at *
  generalize (intW ik z d1 d2).length = n2 at *
  generalize (fracW fk d3 d4).length = n3 at *
  generalize (expW ep es en ec d5 d6).length = n4 at *
  generalize (trW tp t).length = n5 at *
  clear e
  rw [a2, a4]
  conv => lhs; rw [a1, a3, a5]
  rw [← Int32.ofNat_add, ← Int32.ofNat_add, ← Int32.ofNat_add, ← Int32.ofNat_add]
  generalize n1 + n2 + n3 + n4 + n5 = n at q
  have r : ∀ n : Fin 13, 12 - Int32.ofNat n.val = Int32.ofNat (12 - n.val) := by decide
  exact r ⟨n, by omega⟩

def RG (g : Nat → Int32) : Prop := ∀ j, j < 12 → 0 ≤ (g j).toInt ∧ (g j).toInt ≤ 255
theorem rg0 : RG (fun _ => 0) := fun _ _ => ⟨(by decide : 0 ≤ (0 : Int32).toInt), (by decide : (0 : Int32).toInt ≤ 255)⟩
def BU (g : Nat → Int32) (sn : Nat) (ws : List Int32) : Prop := ∀ j c, ws[j]? = some c → g (sn + j) = c
theorem RG.up {g : Nat → Int32} {v : Int32} (R : RG g) (hv : RC v) (j : Nat) : RG (up g j v) := by
  intro i hi
  unfold Jvm.Pilot.@@N@@.up
  by_cases e : i = j
  · rw [if_pos e]; exact hv
  · rw [if_neg e]; exact R i hi
theorem BU.snoc {g : Nat → Int32} {sn : Nat} {ws : List Int32} {v : Int32} (B : BU g sn ws) : BU (up g (sn + ws.length) v) sn (ws ++ [v]) := by
  intro j c q
  unfold up
  by_cases e : j = ws.length
  · subst e
    rw [if_pos rfl]
    simpa using q
  · rw [if_neg (by omega)]
    have l : j < ws.length := by
      obtain ⟨l, _⟩ := List.getElem?_eq_some_iff.mp q
      simp at l; omega
    rw [List.getElem?_append_left l] at q
    exact B j c q
theorem BU.tx {g : Nat → Int32} {ws : List Int32} (B : BU g (12 - ws.length) ws) (l : ws.length ≤ 12) : TX g ws := ⟨l, B⟩
theorem narC {v : Int32} (h : RC v) : nar .char v = v := Value.int.inj (nar_c h.1 h.2)
/-- the chars from sn on are ws so far -/
def CH (Z : State) (h : Heap) (n0 : Nat) (ca : Addr) (kC : ClassId) (sn : Nat) (ws : List Int32) (P : Nat) : Prop :=
  Old Z n0 h ∧ n0 ≤ ca ∧ sn + ws.length = P ∧ ∃ g, Ar Z h ca .char kC (LN 12 g) ∧ RG g ∧ BU g sn ws
theorem CH.len {Z : State} {h : Heap} {n0 : Nat} {ca : Addr} {kC : ClassId} {sn : Nat} {ws : List Int32} {P : Nat} (c : CH Z h n0 ca kC sn ws P) : sn + ws.length = P := c.2.2.1
theorem chst {l : Launch} {Z : State} {mn : MethodName} {code : ByteArray} {maxL : Nat} {ret : Option FieldType} {R : Room} {n0 : Nat} {Q : Option Value → Heap → Prop} {h : Heap} {k n pc q : Nat} {Ls : Array Slot} {st : List Value} {ca : Addr} {kC : ClassId} {sn : Nat} {ws : List Int32} {P : Nat} {x : Int32} (hd : decode code pc = .ok (.castore, 1)) (hq : q = pc + 1) (c : CH Z h n0 ca kC sn ws P) (hP : P < 12) (hx : RC x)
    (K : ∀ h', CH Z h' n0 ca kC sn (ws ++ [x]) (P + 1) → Go l Z mn code maxL ret R n0 Q h' k n q Ls st) : Go l Z mn code maxL ret R n0 Q h k n pc Ls (.int x :: .int (Int32.ofNat P) :: .ref ca :: st) := by
  obtain ⟨O, hn, e, g, A, Rg, B⟩ := c
  have ec : (Int32.ofNat P).toNatClampNeg = P := ofNat_clamp (by omega)
  refine Go.castore hd hq A (ofNat_nn (by omega)) (by rw [ec, LN_len]; exact hP) hn ?_
  intro h' W
  refine K h' ⟨O.wr W hn, hn, by simp only [List.length_append, List.length_cons, List.length_nil]; omega, up g P x, ?_, Rg.up hx P, ?_⟩
  · have q := A.set W
    rw [ec, narC hx, LN_set g hP] at q
    exact q
  · rw [← e]; exact B.snoc
theorem chpre {l : Launch} {Z : State} {mn : MethodName} {code : ByteArray} {maxL : Nat} {ret : Option FieldType} {R : Room} {n0 : Nat} {Q : Option Value → Heap → Prop} {h : Heap} {k n pc q : Nat} {Ls : Array Slot} {st : List Value} {ca : Addr} {kC : ClassId} {sn : Nat} {P : Nat} {x j : Int32} (hd : decode code pc = .ok (.castore, 1)) (hq : q = pc + 1) (c : CH Z h n0 ca kC sn [] P) (hj : ¬ j < 0 ∧ j.toNatClampNeg < 12) (hx : RC x)
    (K : ∀ h', CH Z h' n0 ca kC sn [] P → Go l Z mn code maxL ret R n0 Q h' k n q Ls st) : Go l Z mn code maxL ret R n0 Q h k n pc Ls (.int x :: .int j :: .ref ca :: st) := by
  obtain ⟨O, hn, e, g, A, Rg, B⟩ := c
  refine Go.castore hd hq A hj.1 (by rw [LN_len]; exact hj.2) hn ?_
  intro h' W
  refine K h' ⟨O.wr W hn, hn, e, up g j.toNatClampNeg x, ?_, Rg.up hx _, fun i c q => by simp at q⟩
  have q := A.set W
  rw [narC hx, LN_set g hj.2] at q
  exact q
theorem pre_ix : ∀ n : Fin 13, 0 < Int32.ofNat n.val → ¬ Int32.ofNat n.val - 1 < 0 ∧ (Int32.ofNat n.val - 1).toNatClampNeg < 12 := by decide

theorem dg_ok (w : Int64) (j : Int32) : dgt (dgf w j) = 1 ∧ RC (dgf w j) := digD _
theorem nz_ok (w : Int64) : dgt (nzf w) = 1 ∧ RC (nzf w) ∧ nzf w ≠ 48 := digZ _
def EC (big : Int32) : Int32 := if big = 0 then 101 else 69
theorem ec_or (big : Int32) : EC big = 101 ∨ EC big = 69 := by
  unfold EC
  by_cases c : big = 0
  · rw [if_pos c]; exact Or.inl rfl
  · rw [if_neg c]; exact Or.inr rfl
theorem ec_rc {c : Int32} (h : c = 101 ∨ c = 69) : RC c := by
  rcases h with rfl | rfl <;> exact ⟨by decide, by decide⟩
def expd (sv m ik fk ep en il sg td : Int32) : Int32 :=
  if ik = 0 then sv else
  if fk = (1 : Int32) then if ep = 0 then if td = 0 then ((sv + m) + il) else
      (12 : Int32) else
    ((sv + m) + il) else
  if ep = (1 : Int32) then if 0 < en then if td = 0 then (((((((sv + m) + il) + fk) + (1 : Int32)) + sg) + en) + (0 : Int32)) else
      (((((((sv + m) + il) + fk) + (1 : Int32)) + sg) + en) + (1 : Int32)) else
    if td = 0 then (((sv + m) + il) + fk) else
    (12 : Int32) else
  if 0 < fk then if td = 0 then ((((sv + m) + il) + fk) + (0 : Int32)) else
    ((((sv + m) + il) + fk) + (1 : Int32)) else
  if ik = (1 : Int32) then ((sv + m) + il) else
  if td = 0 then (((sv + m) + il) + (0 : Int32)) else
  (((sv + m) + il) + (1 : Int32))
set_option maxHeartbeats 40000000 in
theorem plain {m ik z d1 d2 fk d3 d4 ep es en ec d5 d6 tp t td : Int32} (hm : Two m) (hik : Four ik) (hfk : Four fk) (hep : Two ep) (hes : Three es) (hen : Three en) (htp : Two tp)
    (hz : Dig z) (hz' : z ≠ 48) (h1 : Dig d1) (h2 : Dig d2) (h3 : Dig d3) (h4 : Dig d4) (h5 : Dig d5) (h6 : Dig d6) (hec : ec = 101 ∨ ec = 69) (ht0 : ik = 0 → dgt t = 0) (htd : td = if tp = 1 then dgt t else 0) :
    pos (scan (WW m ik z d1 d2 fk d3 d4 ep es en ec d5 d6 tp t)) = expd (pos (WW m ik z d1 d2 fk d3 d4 ep es en ec d5 d6 tp t)) m ik fk ep en (intL ik) (sgnL es) td := by
  subst htd
  obtain ⟨hz, -, hzb, -, -, -⟩ := hz
  obtain ⟨h1, -, -, -, -, -⟩ := h1
  obtain ⟨h2, -, -, -, -, -⟩ := h2
  obtain ⟨h3, -, -, -, -, -⟩ := h3
  obtain ⟨h4, -, -, -, -, -⟩ := h4
  obtain ⟨h5, h5a, h5b, -, -, -⟩ := h5
  obtain ⟨h6, -, -, -, -, -⟩ := h6
  have f45 : dgt 45 = 0 := by decide
  have f46 : dgt 46 = 0 := by decide
  have f43 : dgt 43 = 0 := by decide
  have f101 : dgt 101 = 0 := by decide
  have f69 : dgt 69 = 0 := by decide
  have f48 : dgt 48 = 1 := by decide
  have key : ∀ {b : Int32}, (tp = 0 ∧ b = 0) ∨ (tp = 1 ∧ dgt t = 1 ∧ t ≠ 43 ∧ t ≠ 45 ∧ t ≠ 46 ∧ t ≠ 69 ∧ t ≠ 101 ∧ ik ≠ 0 ∧ b = 1) ∨ (tp = 1 ∧ dgt t = 0 ∧ t ≠ 48 ∧ b = 0) → (if tp = 1 then dgt t else 0) = b →
      pos (scan (WW m ik z d1 d2 fk d3 d4 ep es en ec d5 d6 tp t)) = expd (pos (WW m ik z d1 d2 fk d3 d4 ep es en ec d5 d6 tp t)) m ik fk ep en (intL ik) (sgnL es) b := by
    intro b hb _
    clear ht0
    rcases hm with rfl | rfl <;> rcases hik with rfl | rfl | rfl | rfl <;> rcases hfk with rfl | rfl | rfl | rfl <;> rcases hb with ⟨rfl, rfl⟩ | ⟨rfl, g1, g2, g3, g4, g5, g6, g7, rfl⟩ | ⟨rfl, g1, g2, rfl⟩ <;> rcases hep with rfl | rfl
    all_goals first
      | (exact absurd rfl g7)
      | (simp [WW, sgnW, intW, fracW, expW, trW, scan, sj27, sj55, sj89, sj138, sj172, sj217, skipd, *]; done)
      | (simp [WW, sgnW, intW, fracW, expW, trW, scan, sj27, sj55, sj89, sj138, sj172, sj217, skipd, *]; rfl)
      | (rcases hes with rfl | rfl | rfl <;> rcases hen with rfl | rfl | rfl <;> rcases hec with rfl | rfl <;> simp [WW, sgnW, intW, fracW, expW, esW, enW, trW, scan, sj27, sj55, sj89, sj138, sj172, sj217, skipd, *] <;> rfl)
  rcases htp with rfl | rfl
  · exact key (Or.inl ⟨rfl, rfl⟩) rfl
  · rcases dgt_01 t with q | q
    · rw [if_pos rfl, q]
      exact key (Or.inr (Or.inr ⟨rfl, q, (fun e => by rw [e, f48] at q; exact absurd q (by decide)), rfl⟩)) (by rw [if_pos rfl, q])
    · rw [if_pos rfl, q]
      obtain ⟨-, a1, a2, a3, a4, a5⟩ := dig_of q
      exact key (Or.inr (Or.inl ⟨rfl, q, a1, a2, a3, a4, a5, (fun e => by rw [ht0 e] at q; exact absurd q (by decide)), rfl⟩)) (by rw [if_pos rfl, q])

set_option maxRecDepth 65536 in
set_option maxHeartbeats 40000000 in
theorem law491 (l : Launch) (Z : State) (a0 : Array Value) (hw : Hw a0 Z) (n0 : Nat) (h : Heap) (x0 : Int32) (w : Int64) (tc pr m ik fk ep big es en tp t il sg el ln : Int32) (sv : Int32) (ca s : Addr) (got td : Int32) (hE : got = expd sv m ik fk ep en il sg td) :
    Go l Z x code maxLocals ret room_1 n0 (fun v _ => v = some (.int 1)) h 16 128 491 #[.val (.int x0), .val (.long w), .second, .val (.int tc), .val (.int pr), .val (.int m), .val (.int ik), .val (.int fk), .val (.int ep), .val (.int big), .val (.int es), .val (.int en), .val (.int tp), .val (.int t), .val (.int il), .val (.int sg), .val (.int el), .val (.int ln), .val (.int sv), .val (.ref ca), .val (.int (Int32.ofNat 12)), .val (.ref s), .val (.int got), .val (.int td), .unset, .unset, .unset] [] := by
  refine Go.iload at_491 (q := 493) rfl rfl ?_
  refine Go.if_ne at_493 (q := 503) (q' := 496) (by decide) rfl rfl (fun c79 => ?_) (fun c79 => ?_)
  · skip
    refine Go.iload at_503 (q := 505) rfl rfl ?_
    refine Go.iload at_505 (q := 507) rfl rfl ?_
    refine Go.iadd at_507 (q := 508) rfl ?_
    refine Go.iload at_508 (q := 510) rfl rfl ?_
    refine Go.iadd at_510 (q := 511) rfl ?_
    refine Go.istore at_511 (q := 513) rfl (Ls' := #[.val (.int x0), .val (.long w), .second, .val (.int tc), .val (.int pr), .val (.int m), .val (.int ik), .val (.int fk), .val (.int ep), .val (.int big), .val (.int es), .val (.int en), .val (.int tp), .val (.int t), .val (.int il), .val (.int sg), .val (.int el), .val (.int ln), .val (.int sv), .val (.ref ca), .val (.int (Int32.ofNat 12)), .val (.ref s), .val (.int got), .val (.int td), .unset, .val (.int ((sv + m) + il)), .unset]) rfl ?_
    refine Go.iload at_513 (q := 515) rfl rfl ?_
    refine Go.iconst at_515 (q := 516) rfl (x := (1 : Int32)) (by decide) ?_
    refine Go.icmp_ne at_516 (q := 543) (q' := 519) (by decide) rfl rfl (fun c80 => ?_) (fun c80 => ?_)
    · skip
      refine Go.iload at_543 (q := 545) rfl rfl ?_
      refine Go.iload at_545 (q := 547) rfl rfl ?_
      refine Go.iadd at_547 (q := 548) rfl ?_
      refine Go.istore at_548 (q := 550) rfl (Ls' := #[.val (.int x0), .val (.long w), .second, .val (.int tc), .val (.int pr), .val (.int m), .val (.int ik), .val (.int fk), .val (.int ep), .val (.int big), .val (.int es), .val (.int en), .val (.int tp), .val (.int t), .val (.int il), .val (.int sg), .val (.int el), .val (.int ln), .val (.int sv), .val (.ref ca), .val (.int (Int32.ofNat 12)), .val (.ref s), .val (.int got), .val (.int td), .unset, .val (.int ((sv + m) + il)), .val (.int (((sv + m) + il) + fk))]) rfl ?_
      refine Go.iload at_550 (q := 552) rfl rfl ?_
      refine Go.iconst at_552 (q := 553) rfl (x := (1 : Int32)) (by decide) ?_
      refine Go.icmp_ne at_553 (q := 604) (q' := 556) (by decide) rfl rfl (fun c81 => ?_) (fun c81 => ?_)
      · skip
        refine Go.iload at_604 (q := 606) rfl rfl ?_
        refine Go.if_le at_606 (q := 627) (q' := 609) (by decide) rfl rfl (fun c82 => ?_) (fun c82 => ?_)
        · skip
          refine Go.iload at_627 (q := 629) rfl rfl ?_
          refine Go.iconst at_629 (q := 630) rfl (x := (1 : Int32)) (by decide) ?_
          refine Go.icmp_ne at_630 (q := 640) (q' := 633) (by decide) rfl rfl (fun c83 => ?_) (fun c83 => ?_)
          · skip
            refine Go.iload at_640 (q := 642) rfl rfl ?_
            refine Go.iload at_642 (q := 644) rfl rfl ?_
            refine Go.if_eq at_644 (q := 651) (q' := 647) (by decide) rfl rfl (fun c84 => ?_) (fun c84 => ?_)
            · skip
              refine Go.iconst at_651 (q := 652) rfl (x := (0 : Int32)) (by decide) ?_
              refine Go.iadd at_652 (q := 653) rfl ?_
              refine Go.istore at_653 (q := 655) rfl (Ls' := #[.val (.int x0), .val (.long w), .second, .val (.int tc), .val (.int pr), .val (.int m), .val (.int ik), .val (.int fk), .val (.int ep), .val (.int big), .val (.int es), .val (.int en), .val (.int tp), .val (.int t), .val (.int il), .val (.int sg), .val (.int el), .val (.int ln), .val (.int sv), .val (.ref ca), .val (.int (Int32.ofNat 12)), .val (.ref s), .val (.int got), .val (.int td), .val (.int (((sv + m) + il) + (0 : Int32))), .val (.int ((sv + m) + il)), .val (.int (((sv + m) + il) + fk))]) rfl ?_
              unfold expd at hE
              rw [if_neg c79, if_neg c80, if_neg c81, if_neg c82, if_neg c83, if_pos c84] at hE
              refine Go.iload at_655 (q := 657) rfl rfl ?_
              refine Go.bipush at_657 (q := 659) rfl (x := (12 : Int32)) (by decide) ?_
              refine Go.icmp_ne at_659 (q := 673) (q' := 662) (by decide) rfl rfl (fun c_ => absurd rfl c_) (fun _ => ?_)
              refine Go.iload at_662 (q := 664) rfl rfl ?_
              refine Go.iload at_664 (q := 666) rfl rfl ?_
              refine Go.icmp_ne at_666 (q := 673) (q' := 669) (by decide) rfl rfl (fun c_ => absurd hE c_) (fun _ => ?_)
              refine Go.iconst at_669 (q := 670) rfl (x := (1 : Int32)) (by decide) ?_
              refine Go.goto at_670 (q := 674) (by decide) rfl ?_
              refine Go.zreturn at_674 (by decide) (by decide) (by decide) ?_
              exact rfl
            · skip
              refine Go.iconst at_647 (q := 648) rfl (x := (1 : Int32)) (by decide) ?_
              refine Go.goto at_648 (q := 652) (by decide) rfl ?_
              refine Go.iadd at_652 (q := 653) rfl ?_
              refine Go.istore at_653 (q := 655) rfl (Ls' := #[.val (.int x0), .val (.long w), .second, .val (.int tc), .val (.int pr), .val (.int m), .val (.int ik), .val (.int fk), .val (.int ep), .val (.int big), .val (.int es), .val (.int en), .val (.int tp), .val (.int t), .val (.int il), .val (.int sg), .val (.int el), .val (.int ln), .val (.int sv), .val (.ref ca), .val (.int (Int32.ofNat 12)), .val (.ref s), .val (.int got), .val (.int td), .val (.int (((sv + m) + il) + (1 : Int32))), .val (.int ((sv + m) + il)), .val (.int (((sv + m) + il) + fk))]) rfl ?_
              unfold expd at hE
              rw [if_neg c79, if_neg c80, if_neg c81, if_neg c82, if_neg c83, if_neg c84] at hE
              refine Go.iload at_655 (q := 657) rfl rfl ?_
              refine Go.bipush at_657 (q := 659) rfl (x := (12 : Int32)) (by decide) ?_
              refine Go.icmp_ne at_659 (q := 673) (q' := 662) (by decide) rfl rfl (fun c_ => absurd rfl c_) (fun _ => ?_)
              refine Go.iload at_662 (q := 664) rfl rfl ?_
              refine Go.iload at_664 (q := 666) rfl rfl ?_
              refine Go.icmp_ne at_666 (q := 673) (q' := 669) (by decide) rfl rfl (fun c_ => absurd hE c_) (fun _ => ?_)
              refine Go.iconst at_669 (q := 670) rfl (x := (1 : Int32)) (by decide) ?_
              refine Go.goto at_670 (q := 674) (by decide) rfl ?_
              refine Go.zreturn at_674 (by decide) (by decide) (by decide) ?_
              exact rfl
          · skip
            refine Go.iload at_633 (q := 635) rfl rfl ?_
            refine Go.istore at_635 (q := 637) rfl (Ls' := #[.val (.int x0), .val (.long w), .second, .val (.int tc), .val (.int pr), .val (.int m), .val (.int ik), .val (.int fk), .val (.int ep), .val (.int big), .val (.int es), .val (.int en), .val (.int tp), .val (.int t), .val (.int il), .val (.int sg), .val (.int el), .val (.int ln), .val (.int sv), .val (.ref ca), .val (.int (Int32.ofNat 12)), .val (.ref s), .val (.int got), .val (.int td), .val (.int ((sv + m) + il)), .val (.int ((sv + m) + il)), .val (.int (((sv + m) + il) + fk))]) rfl ?_
            refine Go.goto at_637 (q := 655) (by decide) rfl ?_
            unfold expd at hE
            rw [if_neg c79, if_neg c80, if_neg c81, if_neg c82, if_pos c83] at hE
            refine Go.iload at_655 (q := 657) rfl rfl ?_
            refine Go.bipush at_657 (q := 659) rfl (x := (12 : Int32)) (by decide) ?_
            refine Go.icmp_ne at_659 (q := 673) (q' := 662) (by decide) rfl rfl (fun c_ => absurd rfl c_) (fun _ => ?_)
            refine Go.iload at_662 (q := 664) rfl rfl ?_
            refine Go.iload at_664 (q := 666) rfl rfl ?_
            refine Go.icmp_ne at_666 (q := 673) (q' := 669) (by decide) rfl rfl (fun c_ => absurd hE c_) (fun _ => ?_)
            refine Go.iconst at_669 (q := 670) rfl (x := (1 : Int32)) (by decide) ?_
            refine Go.goto at_670 (q := 674) (by decide) rfl ?_
            refine Go.zreturn at_674 (by decide) (by decide) (by decide) ?_
            exact rfl
        · skip
          refine Go.iload at_609 (q := 611) rfl rfl ?_
          refine Go.iload at_611 (q := 613) rfl rfl ?_
          refine Go.if_eq at_613 (q := 620) (q' := 616) (by decide) rfl rfl (fun c91 => ?_) (fun c91 => ?_)
          · skip
            refine Go.iconst at_620 (q := 621) rfl (x := (0 : Int32)) (by decide) ?_
            refine Go.iadd at_621 (q := 622) rfl ?_
            refine Go.istore at_622 (q := 624) rfl (Ls' := #[.val (.int x0), .val (.long w), .second, .val (.int tc), .val (.int pr), .val (.int m), .val (.int ik), .val (.int fk), .val (.int ep), .val (.int big), .val (.int es), .val (.int en), .val (.int tp), .val (.int t), .val (.int il), .val (.int sg), .val (.int el), .val (.int ln), .val (.int sv), .val (.ref ca), .val (.int (Int32.ofNat 12)), .val (.ref s), .val (.int got), .val (.int td), .val (.int ((((sv + m) + il) + fk) + (0 : Int32))), .val (.int ((sv + m) + il)), .val (.int (((sv + m) + il) + fk))]) rfl ?_
            refine Go.goto at_624 (q := 655) (by decide) rfl ?_
            unfold expd at hE
            rw [if_neg c79, if_neg c80, if_neg c81, if_pos c82, if_pos c91] at hE
            refine Go.iload at_655 (q := 657) rfl rfl ?_
            refine Go.bipush at_657 (q := 659) rfl (x := (12 : Int32)) (by decide) ?_
            refine Go.icmp_ne at_659 (q := 673) (q' := 662) (by decide) rfl rfl (fun c_ => absurd rfl c_) (fun _ => ?_)
            refine Go.iload at_662 (q := 664) rfl rfl ?_
            refine Go.iload at_664 (q := 666) rfl rfl ?_
            refine Go.icmp_ne at_666 (q := 673) (q' := 669) (by decide) rfl rfl (fun c_ => absurd hE c_) (fun _ => ?_)
            refine Go.iconst at_669 (q := 670) rfl (x := (1 : Int32)) (by decide) ?_
            refine Go.goto at_670 (q := 674) (by decide) rfl ?_
            refine Go.zreturn at_674 (by decide) (by decide) (by decide) ?_
            exact rfl
          · skip
            refine Go.iconst at_616 (q := 617) rfl (x := (1 : Int32)) (by decide) ?_
            refine Go.goto at_617 (q := 621) (by decide) rfl ?_
            refine Go.iadd at_621 (q := 622) rfl ?_
            refine Go.istore at_622 (q := 624) rfl (Ls' := #[.val (.int x0), .val (.long w), .second, .val (.int tc), .val (.int pr), .val (.int m), .val (.int ik), .val (.int fk), .val (.int ep), .val (.int big), .val (.int es), .val (.int en), .val (.int tp), .val (.int t), .val (.int il), .val (.int sg), .val (.int el), .val (.int ln), .val (.int sv), .val (.ref ca), .val (.int (Int32.ofNat 12)), .val (.ref s), .val (.int got), .val (.int td), .val (.int ((((sv + m) + il) + fk) + (1 : Int32))), .val (.int ((sv + m) + il)), .val (.int (((sv + m) + il) + fk))]) rfl ?_
            refine Go.goto at_624 (q := 655) (by decide) rfl ?_
            unfold expd at hE
            rw [if_neg c79, if_neg c80, if_neg c81, if_pos c82, if_neg c91] at hE
            refine Go.iload at_655 (q := 657) rfl rfl ?_
            refine Go.bipush at_657 (q := 659) rfl (x := (12 : Int32)) (by decide) ?_
            refine Go.icmp_ne at_659 (q := 673) (q' := 662) (by decide) rfl rfl (fun c_ => absurd rfl c_) (fun _ => ?_)
            refine Go.iload at_662 (q := 664) rfl rfl ?_
            refine Go.iload at_664 (q := 666) rfl rfl ?_
            refine Go.icmp_ne at_666 (q := 673) (q' := 669) (by decide) rfl rfl (fun c_ => absurd hE c_) (fun _ => ?_)
            refine Go.iconst at_669 (q := 670) rfl (x := (1 : Int32)) (by decide) ?_
            refine Go.goto at_670 (q := 674) (by decide) rfl ?_
            refine Go.zreturn at_674 (by decide) (by decide) (by decide) ?_
            exact rfl
      · skip
        refine Go.iload at_556 (q := 558) rfl rfl ?_
        refine Go.if_le at_558 (q := 587) (q' := 561) (by decide) rfl rfl (fun c96 => ?_) (fun c96 => ?_)
        · skip
          refine Go.iload at_587 (q := 589) rfl rfl ?_
          refine Go.if_eq at_589 (q := 597) (q' := 592) (by decide) rfl rfl (fun c97 => ?_) (fun c97 => ?_)
          · skip
            refine Go.iload at_597 (q := 599) rfl rfl ?_
            refine Go.istore at_599 (q := 601) rfl (Ls' := #[.val (.int x0), .val (.long w), .second, .val (.int tc), .val (.int pr), .val (.int m), .val (.int ik), .val (.int fk), .val (.int ep), .val (.int big), .val (.int es), .val (.int en), .val (.int tp), .val (.int t), .val (.int il), .val (.int sg), .val (.int el), .val (.int ln), .val (.int sv), .val (.ref ca), .val (.int (Int32.ofNat 12)), .val (.ref s), .val (.int got), .val (.int td), .val (.int (((sv + m) + il) + fk)), .val (.int ((sv + m) + il)), .val (.int (((sv + m) + il) + fk))]) rfl ?_
            refine Go.goto at_601 (q := 655) (by decide) rfl ?_
            unfold expd at hE
            rw [if_neg c79, if_neg c80, if_pos c81, if_neg c96, if_pos c97] at hE
            refine Go.iload at_655 (q := 657) rfl rfl ?_
            refine Go.bipush at_657 (q := 659) rfl (x := (12 : Int32)) (by decide) ?_
            refine Go.icmp_ne at_659 (q := 673) (q' := 662) (by decide) rfl rfl (fun c_ => absurd rfl c_) (fun _ => ?_)
            refine Go.iload at_662 (q := 664) rfl rfl ?_
            refine Go.iload at_664 (q := 666) rfl rfl ?_
            refine Go.icmp_ne at_666 (q := 673) (q' := 669) (by decide) rfl rfl (fun c_ => absurd hE c_) (fun _ => ?_)
            refine Go.iconst at_669 (q := 670) rfl (x := (1 : Int32)) (by decide) ?_
            refine Go.goto at_670 (q := 674) (by decide) rfl ?_
            refine Go.zreturn at_674 (by decide) (by decide) (by decide) ?_
            exact rfl
          · skip
            refine Go.bipush at_592 (q := 594) rfl (x := (12 : Int32)) (by decide) ?_
            refine Go.goto at_594 (q := 599) (by decide) rfl ?_
            refine Go.istore at_599 (q := 601) rfl (Ls' := #[.val (.int x0), .val (.long w), .second, .val (.int tc), .val (.int pr), .val (.int m), .val (.int ik), .val (.int fk), .val (.int ep), .val (.int big), .val (.int es), .val (.int en), .val (.int tp), .val (.int t), .val (.int il), .val (.int sg), .val (.int el), .val (.int ln), .val (.int sv), .val (.ref ca), .val (.int (Int32.ofNat 12)), .val (.ref s), .val (.int got), .val (.int td), .val (.int (12 : Int32)), .val (.int ((sv + m) + il)), .val (.int (((sv + m) + il) + fk))]) rfl ?_
            refine Go.goto at_601 (q := 655) (by decide) rfl ?_
            unfold expd at hE
            rw [if_neg c79, if_neg c80, if_pos c81, if_neg c96, if_neg c97] at hE
            refine Go.iload at_655 (q := 657) rfl rfl ?_
            refine Go.bipush at_657 (q := 659) rfl (x := (12 : Int32)) (by decide) ?_
            refine Go.icmp_ne at_659 (q := 673) (q' := 662) (by decide) rfl rfl (fun c_ => absurd rfl c_) (fun _ => ?_)
            refine Go.iload at_662 (q := 664) rfl rfl ?_
            refine Go.iload at_664 (q := 666) rfl rfl ?_
            refine Go.icmp_ne at_666 (q := 673) (q' := 669) (by decide) rfl rfl (fun c_ => absurd hE c_) (fun _ => ?_)
            refine Go.iconst at_669 (q := 670) rfl (x := (1 : Int32)) (by decide) ?_
            refine Go.goto at_670 (q := 674) (by decide) rfl ?_
            refine Go.zreturn at_674 (by decide) (by decide) (by decide) ?_
            exact rfl
        · skip
          refine Go.iload at_561 (q := 563) rfl rfl ?_
          refine Go.iconst at_563 (q := 564) rfl (x := (1 : Int32)) (by decide) ?_
          refine Go.iadd at_564 (q := 565) rfl ?_
          refine Go.iload at_565 (q := 567) rfl rfl ?_
          refine Go.iadd at_567 (q := 568) rfl ?_
          refine Go.iload at_568 (q := 570) rfl rfl ?_
          refine Go.iadd at_570 (q := 571) rfl ?_
          refine Go.iload at_571 (q := 573) rfl rfl ?_
          refine Go.if_eq at_573 (q := 580) (q' := 576) (by decide) rfl rfl (fun c102 => ?_) (fun c102 => ?_)
          · skip
            refine Go.iconst at_580 (q := 581) rfl (x := (0 : Int32)) (by decide) ?_
            refine Go.iadd at_581 (q := 582) rfl ?_
            refine Go.istore at_582 (q := 584) rfl (Ls' := #[.val (.int x0), .val (.long w), .second, .val (.int tc), .val (.int pr), .val (.int m), .val (.int ik), .val (.int fk), .val (.int ep), .val (.int big), .val (.int es), .val (.int en), .val (.int tp), .val (.int t), .val (.int il), .val (.int sg), .val (.int el), .val (.int ln), .val (.int sv), .val (.ref ca), .val (.int (Int32.ofNat 12)), .val (.ref s), .val (.int got), .val (.int td), .val (.int (((((((sv + m) + il) + fk) + (1 : Int32)) + sg) + en) + (0 : Int32))), .val (.int ((sv + m) + il)), .val (.int (((sv + m) + il) + fk))]) rfl ?_
            refine Go.goto at_584 (q := 655) (by decide) rfl ?_
            unfold expd at hE
            rw [if_neg c79, if_neg c80, if_pos c81, if_pos c96, if_pos c102] at hE
            refine Go.iload at_655 (q := 657) rfl rfl ?_
            refine Go.bipush at_657 (q := 659) rfl (x := (12 : Int32)) (by decide) ?_
            refine Go.icmp_ne at_659 (q := 673) (q' := 662) (by decide) rfl rfl (fun c_ => absurd rfl c_) (fun _ => ?_)
            refine Go.iload at_662 (q := 664) rfl rfl ?_
            refine Go.iload at_664 (q := 666) rfl rfl ?_
            refine Go.icmp_ne at_666 (q := 673) (q' := 669) (by decide) rfl rfl (fun c_ => absurd hE c_) (fun _ => ?_)
            refine Go.iconst at_669 (q := 670) rfl (x := (1 : Int32)) (by decide) ?_
            refine Go.goto at_670 (q := 674) (by decide) rfl ?_
            refine Go.zreturn at_674 (by decide) (by decide) (by decide) ?_
            exact rfl
          · skip
            refine Go.iconst at_576 (q := 577) rfl (x := (1 : Int32)) (by decide) ?_
            refine Go.goto at_577 (q := 581) (by decide) rfl ?_
            refine Go.iadd at_581 (q := 582) rfl ?_
            refine Go.istore at_582 (q := 584) rfl (Ls' := #[.val (.int x0), .val (.long w), .second, .val (.int tc), .val (.int pr), .val (.int m), .val (.int ik), .val (.int fk), .val (.int ep), .val (.int big), .val (.int es), .val (.int en), .val (.int tp), .val (.int t), .val (.int il), .val (.int sg), .val (.int el), .val (.int ln), .val (.int sv), .val (.ref ca), .val (.int (Int32.ofNat 12)), .val (.ref s), .val (.int got), .val (.int td), .val (.int (((((((sv + m) + il) + fk) + (1 : Int32)) + sg) + en) + (1 : Int32))), .val (.int ((sv + m) + il)), .val (.int (((sv + m) + il) + fk))]) rfl ?_
            refine Go.goto at_584 (q := 655) (by decide) rfl ?_
            unfold expd at hE
            rw [if_neg c79, if_neg c80, if_pos c81, if_pos c96, if_neg c102] at hE
            refine Go.iload at_655 (q := 657) rfl rfl ?_
            refine Go.bipush at_657 (q := 659) rfl (x := (12 : Int32)) (by decide) ?_
            refine Go.icmp_ne at_659 (q := 673) (q' := 662) (by decide) rfl rfl (fun c_ => absurd rfl c_) (fun _ => ?_)
            refine Go.iload at_662 (q := 664) rfl rfl ?_
            refine Go.iload at_664 (q := 666) rfl rfl ?_
            refine Go.icmp_ne at_666 (q := 673) (q' := 669) (by decide) rfl rfl (fun c_ => absurd hE c_) (fun _ => ?_)
            refine Go.iconst at_669 (q := 670) rfl (x := (1 : Int32)) (by decide) ?_
            refine Go.goto at_670 (q := 674) (by decide) rfl ?_
            refine Go.zreturn at_674 (by decide) (by decide) (by decide) ?_
            exact rfl
    · skip
      refine Go.iload at_519 (q := 521) rfl rfl ?_
      refine Go.if_ne at_521 (q := 536) (q' := 524) (by decide) rfl rfl (fun c107 => ?_) (fun c107 => ?_)
      · skip
        refine Go.iload at_536 (q := 538) rfl rfl ?_
        refine Go.istore at_538 (q := 540) rfl (Ls' := #[.val (.int x0), .val (.long w), .second, .val (.int tc), .val (.int pr), .val (.int m), .val (.int ik), .val (.int fk), .val (.int ep), .val (.int big), .val (.int es), .val (.int en), .val (.int tp), .val (.int t), .val (.int il), .val (.int sg), .val (.int el), .val (.int ln), .val (.int sv), .val (.ref ca), .val (.int (Int32.ofNat 12)), .val (.ref s), .val (.int got), .val (.int td), .val (.int ((sv + m) + il)), .val (.int ((sv + m) + il)), .unset]) rfl ?_
        refine Go.goto at_540 (q := 655) (by decide) rfl ?_
        unfold expd at hE
        rw [if_neg c79, if_pos c80, if_neg c107] at hE
        refine Go.iload at_655 (q := 657) rfl rfl ?_
        refine Go.bipush at_657 (q := 659) rfl (x := (12 : Int32)) (by decide) ?_
        refine Go.icmp_ne at_659 (q := 673) (q' := 662) (by decide) rfl rfl (fun c_ => absurd rfl c_) (fun _ => ?_)
        refine Go.iload at_662 (q := 664) rfl rfl ?_
        refine Go.iload at_664 (q := 666) rfl rfl ?_
        refine Go.icmp_ne at_666 (q := 673) (q' := 669) (by decide) rfl rfl (fun c_ => absurd hE c_) (fun _ => ?_)
        refine Go.iconst at_669 (q := 670) rfl (x := (1 : Int32)) (by decide) ?_
        refine Go.goto at_670 (q := 674) (by decide) rfl ?_
        refine Go.zreturn at_674 (by decide) (by decide) (by decide) ?_
        exact rfl
      · skip
        refine Go.iload at_524 (q := 526) rfl rfl ?_
        refine Go.if_eq at_526 (q := 536) (q' := 529) (by decide) rfl rfl (fun c110 => ?_) (fun c110 => ?_)
        · skip
          refine Go.iload at_536 (q := 538) rfl rfl ?_
          refine Go.istore at_538 (q := 540) rfl (Ls' := #[.val (.int x0), .val (.long w), .second, .val (.int tc), .val (.int pr), .val (.int m), .val (.int ik), .val (.int fk), .val (.int ep), .val (.int big), .val (.int es), .val (.int en), .val (.int tp), .val (.int t), .val (.int il), .val (.int sg), .val (.int el), .val (.int ln), .val (.int sv), .val (.ref ca), .val (.int (Int32.ofNat 12)), .val (.ref s), .val (.int got), .val (.int td), .val (.int ((sv + m) + il)), .val (.int ((sv + m) + il)), .unset]) rfl ?_
          refine Go.goto at_540 (q := 655) (by decide) rfl ?_
          unfold expd at hE
          rw [if_neg c79, if_pos c80, if_pos c107, if_pos c110] at hE
          refine Go.iload at_655 (q := 657) rfl rfl ?_
          refine Go.bipush at_657 (q := 659) rfl (x := (12 : Int32)) (by decide) ?_
          refine Go.icmp_ne at_659 (q := 673) (q' := 662) (by decide) rfl rfl (fun c_ => absurd rfl c_) (fun _ => ?_)
          refine Go.iload at_662 (q := 664) rfl rfl ?_
          refine Go.iload at_664 (q := 666) rfl rfl ?_
          refine Go.icmp_ne at_666 (q := 673) (q' := 669) (by decide) rfl rfl (fun c_ => absurd hE c_) (fun _ => ?_)
          refine Go.iconst at_669 (q := 670) rfl (x := (1 : Int32)) (by decide) ?_
          refine Go.goto at_670 (q := 674) (by decide) rfl ?_
          refine Go.zreturn at_674 (by decide) (by decide) (by decide) ?_
          exact rfl
        · skip
          refine Go.bipush at_529 (q := 531) rfl (x := (12 : Int32)) (by decide) ?_
          refine Go.istore at_531 (q := 533) rfl (Ls' := #[.val (.int x0), .val (.long w), .second, .val (.int tc), .val (.int pr), .val (.int m), .val (.int ik), .val (.int fk), .val (.int ep), .val (.int big), .val (.int es), .val (.int en), .val (.int tp), .val (.int t), .val (.int il), .val (.int sg), .val (.int el), .val (.int ln), .val (.int sv), .val (.ref ca), .val (.int (Int32.ofNat 12)), .val (.ref s), .val (.int got), .val (.int td), .val (.int (12 : Int32)), .val (.int ((sv + m) + il)), .unset]) rfl ?_
          refine Go.goto at_533 (q := 655) (by decide) rfl ?_
          unfold expd at hE
          rw [if_neg c79, if_pos c80, if_pos c107, if_neg c110] at hE
          refine Go.iload at_655 (q := 657) rfl rfl ?_
          refine Go.bipush at_657 (q := 659) rfl (x := (12 : Int32)) (by decide) ?_
          refine Go.icmp_ne at_659 (q := 673) (q' := 662) (by decide) rfl rfl (fun c_ => absurd rfl c_) (fun _ => ?_)
          refine Go.iload at_662 (q := 664) rfl rfl ?_
          refine Go.iload at_664 (q := 666) rfl rfl ?_
          refine Go.icmp_ne at_666 (q := 673) (q' := 669) (by decide) rfl rfl (fun c_ => absurd hE c_) (fun _ => ?_)
          refine Go.iconst at_669 (q := 670) rfl (x := (1 : Int32)) (by decide) ?_
          refine Go.goto at_670 (q := 674) (by decide) rfl ?_
          refine Go.zreturn at_674 (by decide) (by decide) (by decide) ?_
          exact rfl
  · skip
    refine Go.iload at_496 (q := 498) rfl rfl ?_
    refine Go.istore at_498 (q := 500) rfl (Ls' := #[.val (.int x0), .val (.long w), .second, .val (.int tc), .val (.int pr), .val (.int m), .val (.int ik), .val (.int fk), .val (.int ep), .val (.int big), .val (.int es), .val (.int en), .val (.int tp), .val (.int t), .val (.int il), .val (.int sg), .val (.int el), .val (.int ln), .val (.int sv), .val (.ref ca), .val (.int (Int32.ofNat 12)), .val (.ref s), .val (.int got), .val (.int td), .val (.int sv), .unset, .unset]) rfl ?_
    refine Go.goto at_500 (q := 655) (by decide) rfl ?_
    unfold expd at hE
    rw [if_pos c79] at hE
    refine Go.iload at_655 (q := 657) rfl rfl ?_
    refine Go.bipush at_657 (q := 659) rfl (x := (12 : Int32)) (by decide) ?_
    refine Go.icmp_ne at_659 (q := 673) (q' := 662) (by decide) rfl rfl (fun c_ => absurd rfl c_) (fun _ => ?_)
    refine Go.iload at_662 (q := 664) rfl rfl ?_
    refine Go.iload at_664 (q := 666) rfl rfl ?_
    refine Go.icmp_ne at_666 (q := 673) (q' := 669) (by decide) rfl rfl (fun c_ => absurd hE c_) (fun _ => ?_)
    refine Go.iconst at_669 (q := 670) rfl (x := (1 : Int32)) (by decide) ?_
    refine Go.goto at_670 (q := 674) (by decide) rfl ?_
    refine Go.zreturn at_674 (by decide) (by decide) (by decide) ?_
    exact rfl
set_option maxRecDepth 65536 in
set_option maxHeartbeats 40000000 in
theorem law450 (l : Launch) (Z : State) (a0 : Array Value) (hw : Hw a0 Z) (n0 : Nat) (h : Heap) (x0 : Int32) (w : Int64) (tc pr m ik fk ep big es en tp t il sg el ln : Int32) (u : List Int32) (ca : Addr) (kC : ClassId) (cz : Int32) (sf : Value) (F : Facts Z cz sf) (hu : u.length ≤ 12) (c0 : CH Z h n0 ca kC (12 - u.length) u 12) (hE : ∀ td, td = (if tp = 1 then dgt t else 0) → pos (scan u) = expd (pos u) m ik fk ep en il sg td) :
    Go l Z x code maxLocals ret room_1 n0 (fun v _ => v = some (.int 1)) h 1 12 450 #[.val (.int x0), .val (.long w), .second, .val (.int tc), .val (.int pr), .val (.int m), .val (.int ik), .val (.int fk), .val (.int ep), .val (.int big), .val (.int es), .val (.int en), .val (.int tp), .val (.int t), .val (.int il), .val (.int sg), .val (.int el), .val (.int ln), .val (.int (pos u)), .val (.ref ca), .val (.int (Int32.ofNat 12)), .unset, .unset, .unset, .unset, .unset, .unset] [] := by
  obtain ⟨O, hn, -, g, Ac, Rg, Bu⟩ := c0
  refine Go.new at_450 (q := 453) rfl (w5 hw) (w6 hw) (w7 hw) (by decide) (by decide) ?_
  intro h1 s e1 X1 E1 D1
  have ns : n0 ≤ s := new_le (O.1 ▸ O.2.1) e1
  have O1 := O.ext X1
  have A1 := Ac.ext X1
  refine Go.dup at_453 (q := 454) rfl rfl ?_
  refine Go.aload at_454 (q := 456) rfl rfl rfl ?_
  refine Go.callIN (P := fun h' => ∃ b, h1.size ≤ b ∧ Keep h1 h' [s] ∧ Old Z n0 h' ∧ ST Z h' s b g) (argsL := [(.ref ca)]) (rest := [(.ref s)]) (wd := 1) (Ls1 := #[.val (.ref s), .val (.ref ca)]) at_456 (q := 459) rfl rfl (w8 hw) (w9 hw) (w7 hw) (w10 hw) (by decide) pn2 pd2 rfl rfl (fun m_ => by simp [entryFrame, mkF, argsToLocals, Value.category]) rfl (by decide) rfl (by decide) (by decide) (by decide) (st_init l Z a0 hw n0 h1 O1 s ca kC g Rg A1 ns E1 (D1 (Or.inr (w31 hw)) pTb) (D1 (Or.inr (w33 hw)) pTB) cz sf F (Q := RN (fun h' => ∃ b, h1.size ≤ b ∧ Keep h1 h' [s] ∧ Old Z n0 h' ∧ ST Z h' s b g)) (fun h' b q1 q2 q3 q4 => ⟨rfl, b, q1, q2, q3, q4⟩)) ?_
  rintro h2 ⟨b, -, -, O2, S2⟩
  refine Go.astore at_459 (q := 461) rfl rfl (Ls' := #[.val (.int x0), .val (.long w), .second, .val (.int tc), .val (.int pr), .val (.int m), .val (.int ik), .val (.int fk), .val (.int ep), .val (.int big), .val (.int es), .val (.int en), .val (.int tp), .val (.int t), .val (.int il), .val (.int sg), .val (.int el), .val (.int ln), .val (.int (pos u)), .val (.ref ca), .val (.int (Int32.ofNat 12)), .val (.ref s), .unset, .unset, .unset, .unset, .unset]) rfl ?_
  refine Go.aload at_461 (q := 463) rfl rfl rfl ?_
  refine Go.iload at_463 (q := 465) rfl rfl ?_
  refine Go.callSV (P := fun w_ h' => w_ = .int (pos (scan u)) ∧ h2 = h') (argsL := [(.ref s), (.int (pos u))]) (rest := []) (wd := 0) (Ls1 := #[.val (.ref s), .val (.int (pos u)), .unset, .unset, .unset]) at_465 (q := 468) rfl (w34 hw) (w35 hw) (w36 hw) (w37 hw) (by decide) pn8 pd8 rfl rfl (fun m_ => by simp [entryFrame, mkF, argsToLocals, Value.category]) rfl (by decide) rfl (by decide) (by decide) (by decide) (j0 l Z a0 hw n0 h2 O2 s b g S2 cz sf F u (Bu.tx hu) (Q := RV (fun w_ h' => w_ = .int (pos (scan u)) ∧ h2 = h')) ⟨_, rfl, rfl, rfl⟩) ?_
  rintro _ _ ⟨rfl, rfl⟩
  refine Go.istore at_468 (q := 470) rfl (Ls' := #[.val (.int x0), .val (.long w), .second, .val (.int tc), .val (.int pr), .val (.int m), .val (.int ik), .val (.int fk), .val (.int ep), .val (.int big), .val (.int es), .val (.int en), .val (.int tp), .val (.int t), .val (.int il), .val (.int sg), .val (.int el), .val (.int ln), .val (.int (pos u)), .val (.ref ca), .val (.int (Int32.ofNat 12)), .val (.ref s), .val (.int (pos (scan u))), .unset, .unset, .unset, .unset]) rfl ?_
  refine Go.iload at_470 (q := 472) rfl rfl ?_
  refine Go.iconst at_472 (q := 473) rfl (x := (1 : Int32)) (by decide) ?_
  refine Go.icmp_ne at_473 (q := 488) (q' := 476) (by decide) rfl rfl (fun c117 => ?_) (fun c117 => ?_)
  · skip
    refine Go.iconst at_488 (q := 489) rfl (x := (0 : Int32)) (by decide) ?_
    refine Go.istore at_489 (q := 491) rfl (Ls' := #[.val (.int x0), .val (.long w), .second, .val (.int tc), .val (.int pr), .val (.int m), .val (.int ik), .val (.int fk), .val (.int ep), .val (.int big), .val (.int es), .val (.int en), .val (.int tp), .val (.int t), .val (.int il), .val (.int sg), .val (.int el), .val (.int ln), .val (.int (pos u)), .val (.ref ca), .val (.int (Int32.ofNat 12)), .val (.ref s), .val (.int (pos (scan u))), .val (.int (0 : Int32)), .unset, .unset, .unset]) rfl ?_
    exact (law491 l Z a0 hw n0 h2 x0 w tc pr m ik fk ep big es en tp t il sg el ln _ ca s _ (0 : Int32) (hE _ (by rw [if_neg c117]))).mono (by decide) (by decide)
  · skip
    refine Go.iload at_476 (q := 478) rfl rfl ?_
    refine Go.callSV (P := fun w_ h' => w_ = .int (dgl t) ∧ h2 = h') (argsL := [(.int t)]) (rest := []) (wd := 0) (Ls1 := #[.val (.int t)]) at_478 (q := 481) rfl (w0 hw) (w1 hw) (w2 hw) (w3 hw) (by decide) pn1 pd1 rfl rfl (fun m_ => by simp [entryFrame, mkF, argsToLocals, Value.category]) rfl (by decide) rfl (by decide) (by decide) (by decide) (b1 l Z a0 hw n0 h2 t (Q := RV (fun w_ h' => w_ = .int (dgl t) ∧ h2 = h')) ⟨_, rfl, rfl, rfl⟩) ?_
    rintro _ _ ⟨rfl, rfl⟩
    refine Go.if_eq at_481 (q := 488) (q' := 484) (by decide) rfl rfl (fun c118 => ?_) (fun c118 => ?_)
    · skip
      refine Go.iconst at_488 (q := 489) rfl (x := (0 : Int32)) (by decide) ?_
      refine Go.istore at_489 (q := 491) rfl (Ls' := #[.val (.int x0), .val (.long w), .second, .val (.int tc), .val (.int pr), .val (.int m), .val (.int ik), .val (.int fk), .val (.int ep), .val (.int big), .val (.int es), .val (.int en), .val (.int tp), .val (.int t), .val (.int il), .val (.int sg), .val (.int el), .val (.int ln), .val (.int (pos u)), .val (.ref ca), .val (.int (Int32.ofNat 12)), .val (.ref s), .val (.int (pos (scan u))), .val (.int (0 : Int32)), .unset, .unset, .unset]) rfl ?_
      exact (law491 l Z a0 hw n0 h2 x0 w tc pr m ik fk ep big es en tp t il sg el ln _ ca s _ (0 : Int32) (hE _ (by rw [if_pos c117]; exact (show dgt t = 0 from c118).symm))).mono (by decide) (by decide)
    · skip
      refine Go.iconst at_484 (q := 485) rfl (x := (1 : Int32)) (by decide) ?_
      refine Go.goto at_485 (q := 489) (by decide) rfl ?_
      refine Go.istore at_489 (q := 491) rfl (Ls' := #[.val (.int x0), .val (.long w), .second, .val (.int tc), .val (.int pr), .val (.int m), .val (.int ik), .val (.int fk), .val (.int ep), .val (.int big), .val (.int es), .val (.int en), .val (.int tp), .val (.int t), .val (.int il), .val (.int sg), .val (.int el), .val (.int ln), .val (.int (pos u)), .val (.ref ca), .val (.int (Int32.ofNat 12)), .val (.ref s), .val (.int (pos (scan u))), .val (.int (1 : Int32)), .unset, .unset, .unset]) rfl ?_
      exact (law491 l Z a0 hw n0 h2 x0 w tc pr m ik fk ep big es en tp t il sg el ln _ ca s _ (1 : Int32) (hE _ (by rw [if_pos c117]; exact ((dgt_01 t).resolve_left c118).symm))).mono (by decide) (by decide)
set_option maxRecDepth 65536 in
set_option maxHeartbeats 40000000 in
theorem lA (l : Launch) (Z : State) (a0 : Array Value) (hw : Hw a0 Z) (n0 : Nat) (h : Heap) (x0 : Int32) (w : Int64) (tc pr m ik fk ep big es en tp t il sg el ln : Int32) (sn : Nat) (ca : Addr) (kC : ClassId) (ws : List Int32) (P : Nat) (hm : Two m) (c0 : CH Z h n0 ca kC sn ws P) (hb : P + ((sgnW m)).length ≤ 12) (K : ∀ h' P', CH Z h' n0 ca kC sn (ws ++ (sgnW m)) P' →
    Go l Z x code maxLocals ret room_1 n0 (fun v _ => v = some (.int 1)) h' 1 12 211 #[.val (.int x0), .val (.long w), .second, .val (.int tc), .val (.int pr), .val (.int m), .val (.int ik), .val (.int fk), .val (.int ep), .val (.int big), .val (.int es), .val (.int en), .val (.int tp), .val (.int t), .val (.int il), .val (.int sg), .val (.int el), .val (.int ln), .val (.int (Int32.ofNat sn)), .val (.ref ca), .val (.int (Int32.ofNat P')), .unset, .unset, .unset, .unset, .unset, .unset] []) :
    Go l Z x code maxLocals ret room_1 n0 (fun v _ => v = some (.int 1)) h 1 12 195 #[.val (.int x0), .val (.long w), .second, .val (.int tc), .val (.int pr), .val (.int m), .val (.int ik), .val (.int fk), .val (.int ep), .val (.int big), .val (.int es), .val (.int en), .val (.int tp), .val (.int t), .val (.int il), .val (.int sg), .val (.int el), .val (.int ln), .val (.int (Int32.ofNat sn)), .val (.ref ca), .val (.int (Int32.ofNat P)), .unset, .unset, .unset, .unset, .unset, .unset] [] := by
  rcases hm with rfl | rfl
  · skip
    have hb2 : P + 0 ≤ 12 := by simpa [sgnW] using hb
    refine Go.iload at_195 (q := 197) rfl rfl ?_
    refine Go.iconst at_197 (q := 198) rfl (x := (1 : Int32)) (by decide) ?_
    refine Go.icmp_ne at_198 (q := 211) (q' := 201) (by decide) rfl rfl (fun _ => ?_) (fun c_ => absurd c_ (by decide))
    exact K h P (by simpa [sgnW] using c0)
  · skip
    have hb2 : P + 1 ≤ 12 := by simpa [sgnW] using hb
    refine Go.iload at_195 (q := 197) rfl rfl ?_
    refine Go.iconst at_197 (q := 198) rfl (x := (1 : Int32)) (by decide) ?_
    refine Go.icmp_ne at_198 (q := 211) (q' := 201) (by decide) rfl rfl (fun c_ => absurd (by decide) c_) (fun _ => ?_)
    refine Go.aload at_201 (q := 203) rfl rfl rfl ?_
    refine Go.iload at_203 (q := 205) rfl rfl ?_
    refine Go.bipush at_205 (q := 207) rfl (x := (45 : Int32)) (by decide) ?_
    refine chst at_207 (q := 208) rfl c0 (by omega) ⟨by decide, by decide⟩ ?_
    intro h121 ch121
    refine Go.iinc at_208 (q := 211) rfl rfl (w := (Int32.ofNat (P + 1))) (ofNat_succ _) (Ls' := #[.val (.int x0), .val (.long w), .second, .val (.int tc), .val (.int pr), .val (.int (1 : Int32)), .val (.int ik), .val (.int fk), .val (.int ep), .val (.int big), .val (.int es), .val (.int en), .val (.int tp), .val (.int t), .val (.int il), .val (.int sg), .val (.int el), .val (.int ln), .val (.int (Int32.ofNat sn)), .val (.ref ca), .val (.int (Int32.ofNat (P + 1))), .unset, .unset, .unset, .unset, .unset, .unset]) rfl ?_
    exact K h121 (P + 1) (by simpa [sgnW] using ch121)
set_option maxRecDepth 65536 in
set_option maxHeartbeats 40000000 in
theorem lB (l : Launch) (Z : State) (a0 : Array Value) (hw : Hw a0 Z) (n0 : Nat) (h : Heap) (x0 : Int32) (w : Int64) (tc pr m ik fk ep big es en tp t il sg el ln : Int32) (sn : Nat) (ca : Addr) (kC : ClassId) (ws : List Int32) (P : Nat) (hik : Four ik) (c0 : CH Z h n0 ca kC sn ws P) (hb : P + ((intW ik (nzf w) (dgf w 1) (dgf w 2))).length ≤ 12) (K : ∀ h' P', CH Z h' n0 ca kC sn (ws ++ (intW ik (nzf w) (dgf w 1) (dgf w 2))) P' →
    Go l Z x code maxLocals ret room_1 n0 (fun v _ => v = some (.int 1)) h' 1 12 280 #[.val (.int x0), .val (.long w), .second, .val (.int tc), .val (.int pr), .val (.int m), .val (.int ik), .val (.int fk), .val (.int ep), .val (.int big), .val (.int es), .val (.int en), .val (.int tp), .val (.int t), .val (.int il), .val (.int sg), .val (.int el), .val (.int ln), .val (.int (Int32.ofNat sn)), .val (.ref ca), .val (.int (Int32.ofNat P')), .unset, .unset, .unset, .unset, .unset, .unset] []) :
    Go l Z x code maxLocals ret room_1 n0 (fun v _ => v = some (.int 1)) h 1 12 211 #[.val (.int x0), .val (.long w), .second, .val (.int tc), .val (.int pr), .val (.int m), .val (.int ik), .val (.int fk), .val (.int ep), .val (.int big), .val (.int es), .val (.int en), .val (.int tp), .val (.int t), .val (.int il), .val (.int sg), .val (.int el), .val (.int ln), .val (.int (Int32.ofNat sn)), .val (.ref ca), .val (.int (Int32.ofNat P)), .unset, .unset, .unset, .unset, .unset, .unset] [] := by
  rcases hik with rfl | rfl | rfl | rfl
  · skip
    have hb2 : P + 0 ≤ 12 := by simpa [intW] using hb
    refine Go.iload at_211 (q := 213) rfl rfl ?_
    refine Go.iconst at_213 (q := 214) rfl (x := (1 : Int32)) (by decide) ?_
    refine Go.icmp_ne at_214 (q := 230) (q' := 217) (by decide) rfl rfl (fun _ => ?_) (fun c_ => absurd c_ (by decide))
    refine Go.iload at_230 (q := 232) rfl rfl ?_
    refine Go.iconst at_232 (q := 233) rfl (x := (2 : Int32)) (by decide) ?_
    refine Go.icmp_lt at_233 (q := 280) (q' := 236) (by decide) rfl rfl (fun _ => ?_) (fun c_ => absurd (by decide) c_)
    exact K h P (by simpa [intW] using c0)
  · skip
    have hb2 : P + 1 ≤ 12 := by simpa [intW] using hb
    refine Go.iload at_211 (q := 213) rfl rfl ?_
    refine Go.iconst at_213 (q := 214) rfl (x := (1 : Int32)) (by decide) ?_
    refine Go.icmp_ne at_214 (q := 230) (q' := 217) (by decide) rfl rfl (fun c_ => absurd (by decide) c_) (fun _ => ?_)
    refine Go.aload at_217 (q := 219) rfl rfl rfl ?_
    refine Go.iload at_219 (q := 221) rfl rfl ?_
    refine Go.bipush at_221 (q := 223) rfl (x := (48 : Int32)) (by decide) ?_
    refine chst at_223 (q := 224) rfl c0 (by omega) ⟨by decide, by decide⟩ ?_
    intro h125 ch125
    refine Go.iinc at_224 (q := 227) rfl rfl (w := (Int32.ofNat (P + 1))) (ofNat_succ _) (Ls' := #[.val (.int x0), .val (.long w), .second, .val (.int tc), .val (.int pr), .val (.int m), .val (.int (1 : Int32)), .val (.int fk), .val (.int ep), .val (.int big), .val (.int es), .val (.int en), .val (.int tp), .val (.int t), .val (.int il), .val (.int sg), .val (.int el), .val (.int ln), .val (.int (Int32.ofNat sn)), .val (.ref ca), .val (.int (Int32.ofNat (P + 1))), .unset, .unset, .unset, .unset, .unset, .unset]) rfl ?_
    refine Go.goto at_227 (q := 280) (by decide) rfl ?_
    exact K h125 (P + 1) (by simpa [intW] using ch125)
  · skip
    have hb2 : P + 1 ≤ 12 := by simpa [intW] using hb
    refine Go.iload at_211 (q := 213) rfl rfl ?_
    refine Go.iconst at_213 (q := 214) rfl (x := (1 : Int32)) (by decide) ?_
    refine Go.icmp_ne at_214 (q := 230) (q' := 217) (by decide) rfl rfl (fun _ => ?_) (fun c_ => absurd c_ (by decide))
    refine Go.iload at_230 (q := 232) rfl rfl ?_
    refine Go.iconst at_232 (q := 233) rfl (x := (2 : Int32)) (by decide) ?_
    refine Go.icmp_lt at_233 (q := 280) (q' := 236) (by decide) rfl rfl (fun c_ => absurd c_ (by decide)) (fun _ => ?_)
    refine Go.aload at_236 (q := 238) rfl rfl rfl ?_
    refine Go.iload at_238 (q := 240) rfl rfl ?_
    refine Go.lloadN at_240 (q := 241) rfl rfl ?_
    refine Go.callSV (P := fun w_ h' => w_ = .int (nzf w) ∧ h = h') (argsL := [(.long w)]) (rest := [(.int (Int32.ofNat P)), (.ref ca)]) (wd := 2) (Ls1 := #[.val (.long w), .second]) at_241 (q := 244) rfl (w88 hw) (w89 hw) (w2 hw) (w90 hw) (by decide) pn19 pd19 rfl rfl (fun m_ => by simp [entryFrame, mkF, argsToLocals, Value.category]) rfl (by decide) rfl (by decide) (by decide) (by decide) (b19 l Z a0 hw n0 h w (Q := RV (fun w_ h' => w_ = .int (nzf w) ∧ h = h')) ⟨_, rfl, rfl, rfl⟩) ?_
    rintro _ _ ⟨rfl, rfl⟩
    refine chst at_244 (q := 245) rfl c0 (by omega) (nz_ok w).2.1 ?_
    intro h128 ch128
    refine Go.iinc at_245 (q := 248) rfl rfl (w := (Int32.ofNat (P + 1))) (ofNat_succ _) (Ls' := #[.val (.int x0), .val (.long w), .second, .val (.int tc), .val (.int pr), .val (.int m), .val (.int (2 : Int32)), .val (.int fk), .val (.int ep), .val (.int big), .val (.int es), .val (.int en), .val (.int tp), .val (.int t), .val (.int il), .val (.int sg), .val (.int el), .val (.int ln), .val (.int (Int32.ofNat sn)), .val (.ref ca), .val (.int (Int32.ofNat (P + 1))), .unset, .unset, .unset, .unset, .unset, .unset]) rfl ?_
    refine Go.iload at_248 (q := 250) rfl rfl ?_
    refine Go.iconst at_250 (q := 251) rfl (x := (3 : Int32)) (by decide) ?_
    refine Go.icmp_ne at_251 (q := 280) (q' := 254) (by decide) rfl rfl (fun _ => ?_) (fun c_ => absurd c_ (by decide))
    exact K h128 (P + 1) (by simpa [intW] using ch128)
  · skip
    have hb2 : P + 3 ≤ 12 := by simpa [intW] using hb
    refine Go.iload at_211 (q := 213) rfl rfl ?_
    refine Go.iconst at_213 (q := 214) rfl (x := (1 : Int32)) (by decide) ?_
    refine Go.icmp_ne at_214 (q := 230) (q' := 217) (by decide) rfl rfl (fun _ => ?_) (fun c_ => absurd c_ (by decide))
    refine Go.iload at_230 (q := 232) rfl rfl ?_
    refine Go.iconst at_232 (q := 233) rfl (x := (2 : Int32)) (by decide) ?_
    refine Go.icmp_lt at_233 (q := 280) (q' := 236) (by decide) rfl rfl (fun c_ => absurd c_ (by decide)) (fun _ => ?_)
    refine Go.aload at_236 (q := 238) rfl rfl rfl ?_
    refine Go.iload at_238 (q := 240) rfl rfl ?_
    refine Go.lloadN at_240 (q := 241) rfl rfl ?_
    refine Go.callSV (P := fun w_ h' => w_ = .int (nzf w) ∧ h = h') (argsL := [(.long w)]) (rest := [(.int (Int32.ofNat P)), (.ref ca)]) (wd := 2) (Ls1 := #[.val (.long w), .second]) at_241 (q := 244) rfl (w88 hw) (w89 hw) (w2 hw) (w90 hw) (by decide) pn19 pd19 rfl rfl (fun m_ => by simp [entryFrame, mkF, argsToLocals, Value.category]) rfl (by decide) rfl (by decide) (by decide) (by decide) (b19 l Z a0 hw n0 h w (Q := RV (fun w_ h' => w_ = .int (nzf w) ∧ h = h')) ⟨_, rfl, rfl, rfl⟩) ?_
    rintro _ _ ⟨rfl, rfl⟩
    refine chst at_244 (q := 245) rfl c0 (by omega) (nz_ok w).2.1 ?_
    intro h132 ch132
    refine Go.iinc at_245 (q := 248) rfl rfl (w := (Int32.ofNat (P + 1))) (ofNat_succ _) (Ls' := #[.val (.int x0), .val (.long w), .second, .val (.int tc), .val (.int pr), .val (.int m), .val (.int (3 : Int32)), .val (.int fk), .val (.int ep), .val (.int big), .val (.int es), .val (.int en), .val (.int tp), .val (.int t), .val (.int il), .val (.int sg), .val (.int el), .val (.int ln), .val (.int (Int32.ofNat sn)), .val (.ref ca), .val (.int (Int32.ofNat (P + 1))), .unset, .unset, .unset, .unset, .unset, .unset]) rfl ?_
    refine Go.iload at_248 (q := 250) rfl rfl ?_
    refine Go.iconst at_250 (q := 251) rfl (x := (3 : Int32)) (by decide) ?_
    refine Go.icmp_ne at_251 (q := 280) (q' := 254) (by decide) rfl rfl (fun c_ => absurd (by decide) c_) (fun _ => ?_)
    refine Go.aload at_254 (q := 256) rfl rfl rfl ?_
    refine Go.iload at_256 (q := 258) rfl rfl ?_
    refine Go.lloadN at_258 (q := 259) rfl rfl ?_
    refine Go.iconst at_259 (q := 260) rfl (x := (1 : Int32)) (by decide) ?_
    refine Go.callSV (P := fun w_ h' => w_ = .int (dgf w (1 : Int32)) ∧ h132 = h') (argsL := [(.long w), (.int (1 : Int32))]) (rest := [(.int (Int32.ofNat (P + 1))), (.ref ca)]) (wd := 2) (Ls1 := #[.val (.long w), .second, .val (.int (1 : Int32))]) at_260 (q := 263) rfl (w77 hw) (w78 hw) (w2 hw) (w79 hw) (by decide) pn16 pd16 rfl rfl (fun m_ => by simp [entryFrame, mkF, argsToLocals, Value.category]) rfl (by decide) rfl (by decide) (by decide) (by decide) (b16 l Z a0 hw n0 h132 w (1 : Int32) (Q := RV (fun w_ h' => w_ = .int (dgf w (1 : Int32)) ∧ h132 = h')) ⟨_, rfl, rfl, rfl⟩) ?_
    rintro _ _ ⟨rfl, rfl⟩
    refine chst at_263 (q := 264) rfl ch132 (by omega) (dg_ok w _).2 ?_
    intro h134 ch134
    refine Go.iinc at_264 (q := 267) rfl rfl (w := (Int32.ofNat ((P + 1) + 1))) (ofNat_succ _) (Ls' := #[.val (.int x0), .val (.long w), .second, .val (.int tc), .val (.int pr), .val (.int m), .val (.int (3 : Int32)), .val (.int fk), .val (.int ep), .val (.int big), .val (.int es), .val (.int en), .val (.int tp), .val (.int t), .val (.int il), .val (.int sg), .val (.int el), .val (.int ln), .val (.int (Int32.ofNat sn)), .val (.ref ca), .val (.int (Int32.ofNat ((P + 1) + 1))), .unset, .unset, .unset, .unset, .unset, .unset]) rfl ?_
    refine Go.aload at_267 (q := 269) rfl rfl rfl ?_
    refine Go.iload at_269 (q := 271) rfl rfl ?_
    refine Go.lloadN at_271 (q := 272) rfl rfl ?_
    refine Go.iconst at_272 (q := 273) rfl (x := (2 : Int32)) (by decide) ?_
    refine Go.callSV (P := fun w_ h' => w_ = .int (dgf w (2 : Int32)) ∧ h134 = h') (argsL := [(.long w), (.int (2 : Int32))]) (rest := [(.int (Int32.ofNat ((P + 1) + 1))), (.ref ca)]) (wd := 2) (Ls1 := #[.val (.long w), .second, .val (.int (2 : Int32))]) at_273 (q := 276) rfl (w77 hw) (w78 hw) (w2 hw) (w79 hw) (by decide) pn16 pd16 rfl rfl (fun m_ => by simp [entryFrame, mkF, argsToLocals, Value.category]) rfl (by decide) rfl (by decide) (by decide) (by decide) (b16 l Z a0 hw n0 h134 w (2 : Int32) (Q := RV (fun w_ h' => w_ = .int (dgf w (2 : Int32)) ∧ h134 = h')) ⟨_, rfl, rfl, rfl⟩) ?_
    rintro _ _ ⟨rfl, rfl⟩
    refine chst at_276 (q := 277) rfl ch134 (by omega) (dg_ok w _).2 ?_
    intro h135 ch135
    refine Go.iinc at_277 (q := 280) rfl rfl (w := (Int32.ofNat (((P + 1) + 1) + 1))) (ofNat_succ _) (Ls' := #[.val (.int x0), .val (.long w), .second, .val (.int tc), .val (.int pr), .val (.int m), .val (.int (3 : Int32)), .val (.int fk), .val (.int ep), .val (.int big), .val (.int es), .val (.int en), .val (.int tp), .val (.int t), .val (.int il), .val (.int sg), .val (.int el), .val (.int ln), .val (.int (Int32.ofNat sn)), .val (.ref ca), .val (.int (Int32.ofNat (((P + 1) + 1) + 1))), .unset, .unset, .unset, .unset, .unset, .unset]) rfl ?_
    exact K h135 (((P + 1) + 1) + 1) (by simpa [intW] using ch135)
set_option maxRecDepth 65536 in
set_option maxHeartbeats 40000000 in
theorem lC (l : Launch) (Z : State) (a0 : Array Value) (hw : Hw a0 Z) (n0 : Nat) (h : Heap) (x0 : Int32) (w : Int64) (tc pr m ik fk ep big es en tp t il sg el ln : Int32) (sn : Nat) (ca : Addr) (kC : ClassId) (ws : List Int32) (P : Nat) (hfk : Four fk) (c0 : CH Z h n0 ca kC sn ws P) (hb : P + ((fracW fk (dgf w 3) (dgf w 4))).length ≤ 12) (K : ∀ h' P', CH Z h' n0 ca kC sn (ws ++ (fracW fk (dgf w 3) (dgf w 4))) P' →
    Go l Z x code maxLocals ret room_1 n0 (fun v _ => v = some (.int 1)) h' 1 12 334 #[.val (.int x0), .val (.long w), .second, .val (.int tc), .val (.int pr), .val (.int m), .val (.int ik), .val (.int fk), .val (.int ep), .val (.int big), .val (.int es), .val (.int en), .val (.int tp), .val (.int t), .val (.int il), .val (.int sg), .val (.int el), .val (.int ln), .val (.int (Int32.ofNat sn)), .val (.ref ca), .val (.int (Int32.ofNat P')), .unset, .unset, .unset, .unset, .unset, .unset] []) :
    Go l Z x code maxLocals ret room_1 n0 (fun v _ => v = some (.int 1)) h 1 12 280 #[.val (.int x0), .val (.long w), .second, .val (.int tc), .val (.int pr), .val (.int m), .val (.int ik), .val (.int fk), .val (.int ep), .val (.int big), .val (.int es), .val (.int en), .val (.int tp), .val (.int t), .val (.int il), .val (.int sg), .val (.int el), .val (.int ln), .val (.int (Int32.ofNat sn)), .val (.ref ca), .val (.int (Int32.ofNat P)), .unset, .unset, .unset, .unset, .unset, .unset] [] := by
  rcases hfk with rfl | rfl | rfl | rfl
  · skip
    have hb2 : P + 0 ≤ 12 := by simpa [fracW] using hb
    refine Go.iload at_280 (q := 282) rfl rfl ?_
    refine Go.iconst at_282 (q := 283) rfl (x := (1 : Int32)) (by decide) ?_
    refine Go.icmp_lt at_283 (q := 334) (q' := 286) (by decide) rfl rfl (fun _ => ?_) (fun c_ => absurd (by decide) c_)
    exact K h P (by simpa [fracW] using c0)
  · skip
    have hb2 : P + 1 ≤ 12 := by simpa [fracW] using hb
    refine Go.iload at_280 (q := 282) rfl rfl ?_
    refine Go.iconst at_282 (q := 283) rfl (x := (1 : Int32)) (by decide) ?_
    refine Go.icmp_lt at_283 (q := 334) (q' := 286) (by decide) rfl rfl (fun c_ => absurd c_ (by decide)) (fun _ => ?_)
    refine Go.aload at_286 (q := 288) rfl rfl rfl ?_
    refine Go.iload at_288 (q := 290) rfl rfl ?_
    refine Go.bipush at_290 (q := 292) rfl (x := (46 : Int32)) (by decide) ?_
    refine chst at_292 (q := 293) rfl c0 (by omega) ⟨by decide, by decide⟩ ?_
    intro h138 ch138
    refine Go.iinc at_293 (q := 296) rfl rfl (w := (Int32.ofNat (P + 1))) (ofNat_succ _) (Ls' := #[.val (.int x0), .val (.long w), .second, .val (.int tc), .val (.int pr), .val (.int m), .val (.int ik), .val (.int (1 : Int32)), .val (.int ep), .val (.int big), .val (.int es), .val (.int en), .val (.int tp), .val (.int t), .val (.int il), .val (.int sg), .val (.int el), .val (.int ln), .val (.int (Int32.ofNat sn)), .val (.ref ca), .val (.int (Int32.ofNat (P + 1))), .unset, .unset, .unset, .unset, .unset, .unset]) rfl ?_
    refine Go.iload at_296 (q := 298) rfl rfl ?_
    refine Go.iconst at_298 (q := 299) rfl (x := (2 : Int32)) (by decide) ?_
    refine Go.icmp_lt at_299 (q := 315) (q' := 302) (by decide) rfl rfl (fun _ => ?_) (fun c_ => absurd (by decide) c_)
    refine Go.iload at_315 (q := 317) rfl rfl ?_
    refine Go.iconst at_317 (q := 318) rfl (x := (3 : Int32)) (by decide) ?_
    refine Go.icmp_ne at_318 (q := 334) (q' := 321) (by decide) rfl rfl (fun _ => ?_) (fun c_ => absurd c_ (by decide))
    exact K h138 (P + 1) (by simpa [fracW] using ch138)
  · skip
    have hb2 : P + 2 ≤ 12 := by simpa [fracW] using hb
    refine Go.iload at_280 (q := 282) rfl rfl ?_
    refine Go.iconst at_282 (q := 283) rfl (x := (1 : Int32)) (by decide) ?_
    refine Go.icmp_lt at_283 (q := 334) (q' := 286) (by decide) rfl rfl (fun c_ => absurd c_ (by decide)) (fun _ => ?_)
    refine Go.aload at_286 (q := 288) rfl rfl rfl ?_
    refine Go.iload at_288 (q := 290) rfl rfl ?_
    refine Go.bipush at_290 (q := 292) rfl (x := (46 : Int32)) (by decide) ?_
    refine chst at_292 (q := 293) rfl c0 (by omega) ⟨by decide, by decide⟩ ?_
    intro h142 ch142
    refine Go.iinc at_293 (q := 296) rfl rfl (w := (Int32.ofNat (P + 1))) (ofNat_succ _) (Ls' := #[.val (.int x0), .val (.long w), .second, .val (.int tc), .val (.int pr), .val (.int m), .val (.int ik), .val (.int (2 : Int32)), .val (.int ep), .val (.int big), .val (.int es), .val (.int en), .val (.int tp), .val (.int t), .val (.int il), .val (.int sg), .val (.int el), .val (.int ln), .val (.int (Int32.ofNat sn)), .val (.ref ca), .val (.int (Int32.ofNat (P + 1))), .unset, .unset, .unset, .unset, .unset, .unset]) rfl ?_
    refine Go.iload at_296 (q := 298) rfl rfl ?_
    refine Go.iconst at_298 (q := 299) rfl (x := (2 : Int32)) (by decide) ?_
    refine Go.icmp_lt at_299 (q := 315) (q' := 302) (by decide) rfl rfl (fun c_ => absurd c_ (by decide)) (fun _ => ?_)
    refine Go.aload at_302 (q := 304) rfl rfl rfl ?_
    refine Go.iload at_304 (q := 306) rfl rfl ?_
    refine Go.lloadN at_306 (q := 307) rfl rfl ?_
    refine Go.iconst at_307 (q := 308) rfl (x := (3 : Int32)) (by decide) ?_
    refine Go.callSV (P := fun w_ h' => w_ = .int (dgf w (3 : Int32)) ∧ h142 = h') (argsL := [(.long w), (.int (3 : Int32))]) (rest := [(.int (Int32.ofNat (P + 1))), (.ref ca)]) (wd := 2) (Ls1 := #[.val (.long w), .second, .val (.int (3 : Int32))]) at_308 (q := 311) rfl (w77 hw) (w78 hw) (w2 hw) (w79 hw) (by decide) pn16 pd16 rfl rfl (fun m_ => by simp [entryFrame, mkF, argsToLocals, Value.category]) rfl (by decide) rfl (by decide) (by decide) (by decide) (b16 l Z a0 hw n0 h142 w (3 : Int32) (Q := RV (fun w_ h' => w_ = .int (dgf w (3 : Int32)) ∧ h142 = h')) ⟨_, rfl, rfl, rfl⟩) ?_
    rintro _ _ ⟨rfl, rfl⟩
    refine chst at_311 (q := 312) rfl ch142 (by omega) (dg_ok w _).2 ?_
    intro h144 ch144
    refine Go.iinc at_312 (q := 315) rfl rfl (w := (Int32.ofNat ((P + 1) + 1))) (ofNat_succ _) (Ls' := #[.val (.int x0), .val (.long w), .second, .val (.int tc), .val (.int pr), .val (.int m), .val (.int ik), .val (.int (2 : Int32)), .val (.int ep), .val (.int big), .val (.int es), .val (.int en), .val (.int tp), .val (.int t), .val (.int il), .val (.int sg), .val (.int el), .val (.int ln), .val (.int (Int32.ofNat sn)), .val (.ref ca), .val (.int (Int32.ofNat ((P + 1) + 1))), .unset, .unset, .unset, .unset, .unset, .unset]) rfl ?_
    refine Go.iload at_315 (q := 317) rfl rfl ?_
    refine Go.iconst at_317 (q := 318) rfl (x := (3 : Int32)) (by decide) ?_
    refine Go.icmp_ne at_318 (q := 334) (q' := 321) (by decide) rfl rfl (fun _ => ?_) (fun c_ => absurd c_ (by decide))
    exact K h144 ((P + 1) + 1) (by simpa [fracW] using ch144)
  · skip
    have hb2 : P + 3 ≤ 12 := by simpa [fracW] using hb
    refine Go.iload at_280 (q := 282) rfl rfl ?_
    refine Go.iconst at_282 (q := 283) rfl (x := (1 : Int32)) (by decide) ?_
    refine Go.icmp_lt at_283 (q := 334) (q' := 286) (by decide) rfl rfl (fun c_ => absurd c_ (by decide)) (fun _ => ?_)
    refine Go.aload at_286 (q := 288) rfl rfl rfl ?_
    refine Go.iload at_288 (q := 290) rfl rfl ?_
    refine Go.bipush at_290 (q := 292) rfl (x := (46 : Int32)) (by decide) ?_
    refine chst at_292 (q := 293) rfl c0 (by omega) ⟨by decide, by decide⟩ ?_
    intro h147 ch147
    refine Go.iinc at_293 (q := 296) rfl rfl (w := (Int32.ofNat (P + 1))) (ofNat_succ _) (Ls' := #[.val (.int x0), .val (.long w), .second, .val (.int tc), .val (.int pr), .val (.int m), .val (.int ik), .val (.int (3 : Int32)), .val (.int ep), .val (.int big), .val (.int es), .val (.int en), .val (.int tp), .val (.int t), .val (.int il), .val (.int sg), .val (.int el), .val (.int ln), .val (.int (Int32.ofNat sn)), .val (.ref ca), .val (.int (Int32.ofNat (P + 1))), .unset, .unset, .unset, .unset, .unset, .unset]) rfl ?_
    refine Go.iload at_296 (q := 298) rfl rfl ?_
    refine Go.iconst at_298 (q := 299) rfl (x := (2 : Int32)) (by decide) ?_
    refine Go.icmp_lt at_299 (q := 315) (q' := 302) (by decide) rfl rfl (fun c_ => absurd c_ (by decide)) (fun _ => ?_)
    refine Go.aload at_302 (q := 304) rfl rfl rfl ?_
    refine Go.iload at_304 (q := 306) rfl rfl ?_
    refine Go.lloadN at_306 (q := 307) rfl rfl ?_
    refine Go.iconst at_307 (q := 308) rfl (x := (3 : Int32)) (by decide) ?_
    refine Go.callSV (P := fun w_ h' => w_ = .int (dgf w (3 : Int32)) ∧ h147 = h') (argsL := [(.long w), (.int (3 : Int32))]) (rest := [(.int (Int32.ofNat (P + 1))), (.ref ca)]) (wd := 2) (Ls1 := #[.val (.long w), .second, .val (.int (3 : Int32))]) at_308 (q := 311) rfl (w77 hw) (w78 hw) (w2 hw) (w79 hw) (by decide) pn16 pd16 rfl rfl (fun m_ => by simp [entryFrame, mkF, argsToLocals, Value.category]) rfl (by decide) rfl (by decide) (by decide) (by decide) (b16 l Z a0 hw n0 h147 w (3 : Int32) (Q := RV (fun w_ h' => w_ = .int (dgf w (3 : Int32)) ∧ h147 = h')) ⟨_, rfl, rfl, rfl⟩) ?_
    rintro _ _ ⟨rfl, rfl⟩
    refine chst at_311 (q := 312) rfl ch147 (by omega) (dg_ok w _).2 ?_
    intro h149 ch149
    refine Go.iinc at_312 (q := 315) rfl rfl (w := (Int32.ofNat ((P + 1) + 1))) (ofNat_succ _) (Ls' := #[.val (.int x0), .val (.long w), .second, .val (.int tc), .val (.int pr), .val (.int m), .val (.int ik), .val (.int (3 : Int32)), .val (.int ep), .val (.int big), .val (.int es), .val (.int en), .val (.int tp), .val (.int t), .val (.int il), .val (.int sg), .val (.int el), .val (.int ln), .val (.int (Int32.ofNat sn)), .val (.ref ca), .val (.int (Int32.ofNat ((P + 1) + 1))), .unset, .unset, .unset, .unset, .unset, .unset]) rfl ?_
    refine Go.iload at_315 (q := 317) rfl rfl ?_
    refine Go.iconst at_317 (q := 318) rfl (x := (3 : Int32)) (by decide) ?_
    refine Go.icmp_ne at_318 (q := 334) (q' := 321) (by decide) rfl rfl (fun c_ => absurd (by decide) c_) (fun _ => ?_)
    refine Go.aload at_321 (q := 323) rfl rfl rfl ?_
    refine Go.iload at_323 (q := 325) rfl rfl ?_
    refine Go.lloadN at_325 (q := 326) rfl rfl ?_
    refine Go.iconst at_326 (q := 327) rfl (x := (4 : Int32)) (by decide) ?_
    refine Go.callSV (P := fun w_ h' => w_ = .int (dgf w (4 : Int32)) ∧ h149 = h') (argsL := [(.long w), (.int (4 : Int32))]) (rest := [(.int (Int32.ofNat ((P + 1) + 1))), (.ref ca)]) (wd := 2) (Ls1 := #[.val (.long w), .second, .val (.int (4 : Int32))]) at_327 (q := 330) rfl (w77 hw) (w78 hw) (w2 hw) (w79 hw) (by decide) pn16 pd16 rfl rfl (fun m_ => by simp [entryFrame, mkF, argsToLocals, Value.category]) rfl (by decide) rfl (by decide) (by decide) (by decide) (b16 l Z a0 hw n0 h149 w (4 : Int32) (Q := RV (fun w_ h' => w_ = .int (dgf w (4 : Int32)) ∧ h149 = h')) ⟨_, rfl, rfl, rfl⟩) ?_
    rintro _ _ ⟨rfl, rfl⟩
    refine chst at_330 (q := 331) rfl ch149 (by omega) (dg_ok w _).2 ?_
    intro h151 ch151
    refine Go.iinc at_331 (q := 334) rfl rfl (w := (Int32.ofNat (((P + 1) + 1) + 1))) (ofNat_succ _) (Ls' := #[.val (.int x0), .val (.long w), .second, .val (.int tc), .val (.int pr), .val (.int m), .val (.int ik), .val (.int (3 : Int32)), .val (.int ep), .val (.int big), .val (.int es), .val (.int en), .val (.int tp), .val (.int t), .val (.int il), .val (.int sg), .val (.int el), .val (.int ln), .val (.int (Int32.ofNat sn)), .val (.ref ca), .val (.int (Int32.ofNat (((P + 1) + 1) + 1))), .unset, .unset, .unset, .unset, .unset, .unset]) rfl ?_
    exact K h151 (((P + 1) + 1) + 1) (by simpa [fracW] using ch151)
set_option maxRecDepth 65536 in
set_option maxHeartbeats 40000000 in
theorem lE (l : Launch) (Z : State) (a0 : Array Value) (hw : Hw a0 Z) (n0 : Nat) (h : Heap) (x0 : Int32) (w : Int64) (tc pr m ik fk ep big es en tp t il sg el ln : Int32) (sn : Nat) (ca : Addr) (kC : ClassId) (ws : List Int32) (P : Nat) (htp : Two tp) (ht : RC t) (c0 : CH Z h n0 ca kC sn ws P) (hb : P + ((trW tp t)).length ≤ 12) (K : ∀ h' P', CH Z h' n0 ca kC sn (ws ++ (trW tp t)) P' →
    Go l Z x code maxLocals ret room_1 n0 (fun v _ => v = some (.int 1)) h' 1 12 450 #[.val (.int x0), .val (.long w), .second, .val (.int tc), .val (.int pr), .val (.int m), .val (.int ik), .val (.int fk), .val (.int ep), .val (.int big), .val (.int es), .val (.int en), .val (.int tp), .val (.int t), .val (.int il), .val (.int sg), .val (.int el), .val (.int ln), .val (.int (Int32.ofNat sn)), .val (.ref ca), .val (.int (Int32.ofNat P')), .unset, .unset, .unset, .unset, .unset, .unset] []) :
    Go l Z x code maxLocals ret room_1 n0 (fun v _ => v = some (.int 1)) h 1 12 434 #[.val (.int x0), .val (.long w), .second, .val (.int tc), .val (.int pr), .val (.int m), .val (.int ik), .val (.int fk), .val (.int ep), .val (.int big), .val (.int es), .val (.int en), .val (.int tp), .val (.int t), .val (.int il), .val (.int sg), .val (.int el), .val (.int ln), .val (.int (Int32.ofNat sn)), .val (.ref ca), .val (.int (Int32.ofNat P)), .unset, .unset, .unset, .unset, .unset, .unset] [] := by
  rcases htp with rfl | rfl
  · skip
    have hb2 : P + 0 ≤ 12 := by simpa [trW] using hb
    refine Go.iload at_434 (q := 436) rfl rfl ?_
    refine Go.iconst at_436 (q := 437) rfl (x := (1 : Int32)) (by decide) ?_
    refine Go.icmp_ne at_437 (q := 450) (q' := 440) (by decide) rfl rfl (fun _ => ?_) (fun c_ => absurd c_ (by decide))
    exact K h P (by simpa [trW] using c0)
  · skip
    have hb2 : P + 1 ≤ 12 := by simpa [trW] using hb
    refine Go.iload at_434 (q := 436) rfl rfl ?_
    refine Go.iconst at_436 (q := 437) rfl (x := (1 : Int32)) (by decide) ?_
    refine Go.icmp_ne at_437 (q := 450) (q' := 440) (by decide) rfl rfl (fun c_ => absurd (by decide) c_) (fun _ => ?_)
    refine Go.aload at_440 (q := 442) rfl rfl rfl ?_
    refine Go.iload at_442 (q := 444) rfl rfl ?_
    refine Go.iload at_444 (q := 446) rfl rfl ?_
    refine chst at_446 (q := 447) rfl c0 (by omega) ht ?_
    intro h154 ch154
    refine Go.iinc at_447 (q := 450) rfl rfl (w := (Int32.ofNat (P + 1))) (ofNat_succ _) (Ls' := #[.val (.int x0), .val (.long w), .second, .val (.int tc), .val (.int pr), .val (.int m), .val (.int ik), .val (.int fk), .val (.int ep), .val (.int big), .val (.int es), .val (.int en), .val (.int (1 : Int32)), .val (.int t), .val (.int il), .val (.int sg), .val (.int el), .val (.int ln), .val (.int (Int32.ofNat sn)), .val (.ref ca), .val (.int (Int32.ofNat (P + 1))), .unset, .unset, .unset, .unset, .unset, .unset]) rfl ?_
    exact K h154 (P + 1) (by simpa [trW] using ch154)
set_option maxRecDepth 65536 in
set_option maxHeartbeats 40000000 in
theorem lD1 (l : Launch) (Z : State) (a0 : Array Value) (hw : Hw a0 Z) (n0 : Nat) (h : Heap) (x0 : Int32) (w : Int64) (tc pr m ik fk ep big es en tp t il sg el ln : Int32) (sn : Nat) (ca : Addr) (kC : ClassId) (ws : List Int32) (P : Nat) (ec : Int32) (hec : RC ec) (hes : Three es) (hen : Three en) (c0 : CH Z h n0 ca kC sn ws P) (hb : P + ((expW (1 : Int32) es en ec (dgf w 5) (dgf w 6))).length ≤ 12) (K : ∀ h' P', CH Z h' n0 ca kC sn (ws ++ (expW (1 : Int32) es en ec (dgf w 5) (dgf w 6))) P' →
    Go l Z x code maxLocals ret room_1 n0 (fun v _ => v = some (.int 1)) h' 1 12 434 #[.val (.int x0), .val (.long w), .second, .val (.int tc), .val (.int pr), .val (.int m), .val (.int ik), .val (.int fk), .val (.int (1 : Int32)), .val (.int big), .val (.int es), .val (.int en), .val (.int tp), .val (.int t), .val (.int il), .val (.int sg), .val (.int el), .val (.int ln), .val (.int (Int32.ofNat sn)), .val (.ref ca), .val (.int (Int32.ofNat P')), .unset, .unset, .unset, .unset, .unset, .unset] []) :
    Go l Z x code maxLocals ret room_1 n0 (fun v _ => v = some (.int 1)) h 1 12 356 #[.val (.int x0), .val (.long w), .second, .val (.int tc), .val (.int pr), .val (.int m), .val (.int ik), .val (.int fk), .val (.int (1 : Int32)), .val (.int big), .val (.int es), .val (.int en), .val (.int tp), .val (.int t), .val (.int il), .val (.int sg), .val (.int el), .val (.int ln), .val (.int (Int32.ofNat sn)), .val (.ref ca), .val (.int (Int32.ofNat P)), .unset, .unset, .unset, .unset, .unset, .unset] [(.int ec), (.int (Int32.ofNat P)), (.ref ca)] := by
  rcases hes with rfl | rfl | rfl
  · rcases hen with rfl | rfl | rfl
    · skip
      have hb2 : P + 1 ≤ 12 := by simpa [expW, esW, enW] using hb
      refine chst at_356 (q := 357) rfl c0 (by omega) hec ?_
      intro h155 ch155
      refine Go.iinc at_357 (q := 360) rfl rfl (w := (Int32.ofNat (P + 1))) (ofNat_succ _) (Ls' := #[.val (.int x0), .val (.long w), .second, .val (.int tc), .val (.int pr), .val (.int m), .val (.int ik), .val (.int fk), .val (.int (1 : Int32)), .val (.int big), .val (.int (0 : Int32)), .val (.int (0 : Int32)), .val (.int tp), .val (.int t), .val (.int il), .val (.int sg), .val (.int el), .val (.int ln), .val (.int (Int32.ofNat sn)), .val (.ref ca), .val (.int (Int32.ofNat (P + 1))), .unset, .unset, .unset, .unset, .unset, .unset]) rfl ?_
      refine Go.iload at_360 (q := 362) rfl rfl ?_
      refine Go.iconst at_362 (q := 363) rfl (x := (1 : Int32)) (by decide) ?_
      refine Go.icmp_ne at_363 (q := 379) (q' := 366) (by decide) rfl rfl (fun _ => ?_) (fun c_ => absurd c_ (by decide))
      refine Go.iload at_379 (q := 381) rfl rfl ?_
      refine Go.iconst at_381 (q := 382) rfl (x := (2 : Int32)) (by decide) ?_
      refine Go.icmp_ne at_382 (q := 395) (q' := 385) (by decide) rfl rfl (fun _ => ?_) (fun c_ => absurd c_ (by decide))
      refine Go.iload at_395 (q := 397) rfl rfl ?_
      refine Go.iconst at_397 (q := 398) rfl (x := (1 : Int32)) (by decide) ?_
      refine Go.icmp_lt at_398 (q := 414) (q' := 401) (by decide) rfl rfl (fun _ => ?_) (fun c_ => absurd (by decide) c_)
      refine Go.iload at_414 (q := 416) rfl rfl ?_
      refine Go.iconst at_416 (q := 417) rfl (x := (2 : Int32)) (by decide) ?_
      refine Go.icmp_ne at_417 (q := 434) (q' := 420) (by decide) rfl rfl (fun _ => ?_) (fun c_ => absurd c_ (by decide))
      exact K h155 (P + 1) (by simpa [expW, esW, enW] using ch155)
    · skip
      have hb2 : P + 2 ≤ 12 := by simpa [expW, esW, enW] using hb
      refine chst at_356 (q := 357) rfl c0 (by omega) hec ?_
      intro h160 ch160
      refine Go.iinc at_357 (q := 360) rfl rfl (w := (Int32.ofNat (P + 1))) (ofNat_succ _) (Ls' := #[.val (.int x0), .val (.long w), .second, .val (.int tc), .val (.int pr), .val (.int m), .val (.int ik), .val (.int fk), .val (.int (1 : Int32)), .val (.int big), .val (.int (0 : Int32)), .val (.int (1 : Int32)), .val (.int tp), .val (.int t), .val (.int il), .val (.int sg), .val (.int el), .val (.int ln), .val (.int (Int32.ofNat sn)), .val (.ref ca), .val (.int (Int32.ofNat (P + 1))), .unset, .unset, .unset, .unset, .unset, .unset]) rfl ?_
      refine Go.iload at_360 (q := 362) rfl rfl ?_
      refine Go.iconst at_362 (q := 363) rfl (x := (1 : Int32)) (by decide) ?_
      refine Go.icmp_ne at_363 (q := 379) (q' := 366) (by decide) rfl rfl (fun _ => ?_) (fun c_ => absurd c_ (by decide))
      refine Go.iload at_379 (q := 381) rfl rfl ?_
      refine Go.iconst at_381 (q := 382) rfl (x := (2 : Int32)) (by decide) ?_
      refine Go.icmp_ne at_382 (q := 395) (q' := 385) (by decide) rfl rfl (fun _ => ?_) (fun c_ => absurd c_ (by decide))
      refine Go.iload at_395 (q := 397) rfl rfl ?_
      refine Go.iconst at_397 (q := 398) rfl (x := (1 : Int32)) (by decide) ?_
      refine Go.icmp_lt at_398 (q := 414) (q' := 401) (by decide) rfl rfl (fun c_ => absurd c_ (by decide)) (fun _ => ?_)
      refine Go.aload at_401 (q := 403) rfl rfl rfl ?_
      refine Go.iload at_403 (q := 405) rfl rfl ?_
      refine Go.lloadN at_405 (q := 406) rfl rfl ?_
      refine Go.iconst at_406 (q := 407) rfl (x := (5 : Int32)) (by decide) ?_
      refine Go.callSV (P := fun w_ h' => w_ = .int (dgf w (5 : Int32)) ∧ h160 = h') (argsL := [(.long w), (.int (5 : Int32))]) (rest := [(.int (Int32.ofNat (P + 1))), (.ref ca)]) (wd := 2) (Ls1 := #[.val (.long w), .second, .val (.int (5 : Int32))]) at_407 (q := 410) rfl (w77 hw) (w78 hw) (w2 hw) (w79 hw) (by decide) pn16 pd16 rfl rfl (fun m_ => by simp [entryFrame, mkF, argsToLocals, Value.category]) rfl (by decide) rfl (by decide) (by decide) (by decide) (b16 l Z a0 hw n0 h160 w (5 : Int32) (Q := RV (fun w_ h' => w_ = .int (dgf w (5 : Int32)) ∧ h160 = h')) ⟨_, rfl, rfl, rfl⟩) ?_
      rintro _ _ ⟨rfl, rfl⟩
      refine chst at_410 (q := 411) rfl ch160 (by omega) (dg_ok w _).2 ?_
      intro h164 ch164
      refine Go.iinc at_411 (q := 414) rfl rfl (w := (Int32.ofNat ((P + 1) + 1))) (ofNat_succ _) (Ls' := #[.val (.int x0), .val (.long w), .second, .val (.int tc), .val (.int pr), .val (.int m), .val (.int ik), .val (.int fk), .val (.int (1 : Int32)), .val (.int big), .val (.int (0 : Int32)), .val (.int (1 : Int32)), .val (.int tp), .val (.int t), .val (.int il), .val (.int sg), .val (.int el), .val (.int ln), .val (.int (Int32.ofNat sn)), .val (.ref ca), .val (.int (Int32.ofNat ((P + 1) + 1))), .unset, .unset, .unset, .unset, .unset, .unset]) rfl ?_
      refine Go.iload at_414 (q := 416) rfl rfl ?_
      refine Go.iconst at_416 (q := 417) rfl (x := (2 : Int32)) (by decide) ?_
      refine Go.icmp_ne at_417 (q := 434) (q' := 420) (by decide) rfl rfl (fun _ => ?_) (fun c_ => absurd c_ (by decide))
      exact K h164 ((P + 1) + 1) (by simpa [expW, esW, enW] using ch164)
    · skip
      have hb2 : P + 3 ≤ 12 := by simpa [expW, esW, enW] using hb
      refine chst at_356 (q := 357) rfl c0 (by omega) hec ?_
      intro h166 ch166
      refine Go.iinc at_357 (q := 360) rfl rfl (w := (Int32.ofNat (P + 1))) (ofNat_succ _) (Ls' := #[.val (.int x0), .val (.long w), .second, .val (.int tc), .val (.int pr), .val (.int m), .val (.int ik), .val (.int fk), .val (.int (1 : Int32)), .val (.int big), .val (.int (0 : Int32)), .val (.int (2 : Int32)), .val (.int tp), .val (.int t), .val (.int il), .val (.int sg), .val (.int el), .val (.int ln), .val (.int (Int32.ofNat sn)), .val (.ref ca), .val (.int (Int32.ofNat (P + 1))), .unset, .unset, .unset, .unset, .unset, .unset]) rfl ?_
      refine Go.iload at_360 (q := 362) rfl rfl ?_
      refine Go.iconst at_362 (q := 363) rfl (x := (1 : Int32)) (by decide) ?_
      refine Go.icmp_ne at_363 (q := 379) (q' := 366) (by decide) rfl rfl (fun _ => ?_) (fun c_ => absurd c_ (by decide))
      refine Go.iload at_379 (q := 381) rfl rfl ?_
      refine Go.iconst at_381 (q := 382) rfl (x := (2 : Int32)) (by decide) ?_
      refine Go.icmp_ne at_382 (q := 395) (q' := 385) (by decide) rfl rfl (fun _ => ?_) (fun c_ => absurd c_ (by decide))
      refine Go.iload at_395 (q := 397) rfl rfl ?_
      refine Go.iconst at_397 (q := 398) rfl (x := (1 : Int32)) (by decide) ?_
      refine Go.icmp_lt at_398 (q := 414) (q' := 401) (by decide) rfl rfl (fun c_ => absurd c_ (by decide)) (fun _ => ?_)
      refine Go.aload at_401 (q := 403) rfl rfl rfl ?_
      refine Go.iload at_403 (q := 405) rfl rfl ?_
      refine Go.lloadN at_405 (q := 406) rfl rfl ?_
      refine Go.iconst at_406 (q := 407) rfl (x := (5 : Int32)) (by decide) ?_
      refine Go.callSV (P := fun w_ h' => w_ = .int (dgf w (5 : Int32)) ∧ h166 = h') (argsL := [(.long w), (.int (5 : Int32))]) (rest := [(.int (Int32.ofNat (P + 1))), (.ref ca)]) (wd := 2) (Ls1 := #[.val (.long w), .second, .val (.int (5 : Int32))]) at_407 (q := 410) rfl (w77 hw) (w78 hw) (w2 hw) (w79 hw) (by decide) pn16 pd16 rfl rfl (fun m_ => by simp [entryFrame, mkF, argsToLocals, Value.category]) rfl (by decide) rfl (by decide) (by decide) (by decide) (b16 l Z a0 hw n0 h166 w (5 : Int32) (Q := RV (fun w_ h' => w_ = .int (dgf w (5 : Int32)) ∧ h166 = h')) ⟨_, rfl, rfl, rfl⟩) ?_
      rintro _ _ ⟨rfl, rfl⟩
      refine chst at_410 (q := 411) rfl ch166 (by omega) (dg_ok w _).2 ?_
      intro h170 ch170
      refine Go.iinc at_411 (q := 414) rfl rfl (w := (Int32.ofNat ((P + 1) + 1))) (ofNat_succ _) (Ls' := #[.val (.int x0), .val (.long w), .second, .val (.int tc), .val (.int pr), .val (.int m), .val (.int ik), .val (.int fk), .val (.int (1 : Int32)), .val (.int big), .val (.int (0 : Int32)), .val (.int (2 : Int32)), .val (.int tp), .val (.int t), .val (.int il), .val (.int sg), .val (.int el), .val (.int ln), .val (.int (Int32.ofNat sn)), .val (.ref ca), .val (.int (Int32.ofNat ((P + 1) + 1))), .unset, .unset, .unset, .unset, .unset, .unset]) rfl ?_
      refine Go.iload at_414 (q := 416) rfl rfl ?_
      refine Go.iconst at_416 (q := 417) rfl (x := (2 : Int32)) (by decide) ?_
      refine Go.icmp_ne at_417 (q := 434) (q' := 420) (by decide) rfl rfl (fun c_ => absurd (by decide) c_) (fun _ => ?_)
      refine Go.aload at_420 (q := 422) rfl rfl rfl ?_
      refine Go.iload at_422 (q := 424) rfl rfl ?_
      refine Go.lloadN at_424 (q := 425) rfl rfl ?_
      refine Go.bipush at_425 (q := 427) rfl (x := (6 : Int32)) (by decide) ?_
      refine Go.callSV (P := fun w_ h' => w_ = .int (dgf w (6 : Int32)) ∧ h170 = h') (argsL := [(.long w), (.int (6 : Int32))]) (rest := [(.int (Int32.ofNat ((P + 1) + 1))), (.ref ca)]) (wd := 2) (Ls1 := #[.val (.long w), .second, .val (.int (6 : Int32))]) at_427 (q := 430) rfl (w77 hw) (w78 hw) (w2 hw) (w79 hw) (by decide) pn16 pd16 rfl rfl (fun m_ => by simp [entryFrame, mkF, argsToLocals, Value.category]) rfl (by decide) rfl (by decide) (by decide) (by decide) (b16 l Z a0 hw n0 h170 w (6 : Int32) (Q := RV (fun w_ h' => w_ = .int (dgf w (6 : Int32)) ∧ h170 = h')) ⟨_, rfl, rfl, rfl⟩) ?_
      rintro _ _ ⟨rfl, rfl⟩
      refine chst at_430 (q := 431) rfl ch170 (by omega) (dg_ok w _).2 ?_
      intro h172 ch172
      refine Go.iinc at_431 (q := 434) rfl rfl (w := (Int32.ofNat (((P + 1) + 1) + 1))) (ofNat_succ _) (Ls' := #[.val (.int x0), .val (.long w), .second, .val (.int tc), .val (.int pr), .val (.int m), .val (.int ik), .val (.int fk), .val (.int (1 : Int32)), .val (.int big), .val (.int (0 : Int32)), .val (.int (2 : Int32)), .val (.int tp), .val (.int t), .val (.int il), .val (.int sg), .val (.int el), .val (.int ln), .val (.int (Int32.ofNat sn)), .val (.ref ca), .val (.int (Int32.ofNat (((P + 1) + 1) + 1))), .unset, .unset, .unset, .unset, .unset, .unset]) rfl ?_
      exact K h172 (((P + 1) + 1) + 1) (by simpa [expW, esW, enW] using ch172)
  · rcases hen with rfl | rfl | rfl
    · skip
      have hb2 : P + 2 ≤ 12 := by simpa [expW, esW, enW] using hb
      refine chst at_356 (q := 357) rfl c0 (by omega) hec ?_
      intro h173 ch173
      refine Go.iinc at_357 (q := 360) rfl rfl (w := (Int32.ofNat (P + 1))) (ofNat_succ _) (Ls' := #[.val (.int x0), .val (.long w), .second, .val (.int tc), .val (.int pr), .val (.int m), .val (.int ik), .val (.int fk), .val (.int (1 : Int32)), .val (.int big), .val (.int (1 : Int32)), .val (.int (0 : Int32)), .val (.int tp), .val (.int t), .val (.int il), .val (.int sg), .val (.int el), .val (.int ln), .val (.int (Int32.ofNat sn)), .val (.ref ca), .val (.int (Int32.ofNat (P + 1))), .unset, .unset, .unset, .unset, .unset, .unset]) rfl ?_
      refine Go.iload at_360 (q := 362) rfl rfl ?_
      refine Go.iconst at_362 (q := 363) rfl (x := (1 : Int32)) (by decide) ?_
      refine Go.icmp_ne at_363 (q := 379) (q' := 366) (by decide) rfl rfl (fun c_ => absurd (by decide) c_) (fun _ => ?_)
      refine Go.aload at_366 (q := 368) rfl rfl rfl ?_
      refine Go.iload at_368 (q := 370) rfl rfl ?_
      refine Go.bipush at_370 (q := 372) rfl (x := (43 : Int32)) (by decide) ?_
      refine chst at_372 (q := 373) rfl ch173 (by omega) ⟨by decide, by decide⟩ ?_
      intro h175 ch175
      refine Go.iinc at_373 (q := 376) rfl rfl (w := (Int32.ofNat ((P + 1) + 1))) (ofNat_succ _) (Ls' := #[.val (.int x0), .val (.long w), .second, .val (.int tc), .val (.int pr), .val (.int m), .val (.int ik), .val (.int fk), .val (.int (1 : Int32)), .val (.int big), .val (.int (1 : Int32)), .val (.int (0 : Int32)), .val (.int tp), .val (.int t), .val (.int il), .val (.int sg), .val (.int el), .val (.int ln), .val (.int (Int32.ofNat sn)), .val (.ref ca), .val (.int (Int32.ofNat ((P + 1) + 1))), .unset, .unset, .unset, .unset, .unset, .unset]) rfl ?_
      refine Go.goto at_376 (q := 395) (by decide) rfl ?_
      refine Go.iload at_395 (q := 397) rfl rfl ?_
      refine Go.iconst at_397 (q := 398) rfl (x := (1 : Int32)) (by decide) ?_
      refine Go.icmp_lt at_398 (q := 414) (q' := 401) (by decide) rfl rfl (fun _ => ?_) (fun c_ => absurd (by decide) c_)
      refine Go.iload at_414 (q := 416) rfl rfl ?_
      refine Go.iconst at_416 (q := 417) rfl (x := (2 : Int32)) (by decide) ?_
      refine Go.icmp_ne at_417 (q := 434) (q' := 420) (by decide) rfl rfl (fun _ => ?_) (fun c_ => absurd c_ (by decide))
      exact K h175 ((P + 1) + 1) (by simpa [expW, esW, enW] using ch175)
    · skip
      have hb2 : P + 3 ≤ 12 := by simpa [expW, esW, enW] using hb
      refine chst at_356 (q := 357) rfl c0 (by omega) hec ?_
      intro h178 ch178
      refine Go.iinc at_357 (q := 360) rfl rfl (w := (Int32.ofNat (P + 1))) (ofNat_succ _) (Ls' := #[.val (.int x0), .val (.long w), .second, .val (.int tc), .val (.int pr), .val (.int m), .val (.int ik), .val (.int fk), .val (.int (1 : Int32)), .val (.int big), .val (.int (1 : Int32)), .val (.int (1 : Int32)), .val (.int tp), .val (.int t), .val (.int il), .val (.int sg), .val (.int el), .val (.int ln), .val (.int (Int32.ofNat sn)), .val (.ref ca), .val (.int (Int32.ofNat (P + 1))), .unset, .unset, .unset, .unset, .unset, .unset]) rfl ?_
      refine Go.iload at_360 (q := 362) rfl rfl ?_
      refine Go.iconst at_362 (q := 363) rfl (x := (1 : Int32)) (by decide) ?_
      refine Go.icmp_ne at_363 (q := 379) (q' := 366) (by decide) rfl rfl (fun c_ => absurd (by decide) c_) (fun _ => ?_)
      refine Go.aload at_366 (q := 368) rfl rfl rfl ?_
      refine Go.iload at_368 (q := 370) rfl rfl ?_
      refine Go.bipush at_370 (q := 372) rfl (x := (43 : Int32)) (by decide) ?_
      refine chst at_372 (q := 373) rfl ch178 (by omega) ⟨by decide, by decide⟩ ?_
      intro h180 ch180
      refine Go.iinc at_373 (q := 376) rfl rfl (w := (Int32.ofNat ((P + 1) + 1))) (ofNat_succ _) (Ls' := #[.val (.int x0), .val (.long w), .second, .val (.int tc), .val (.int pr), .val (.int m), .val (.int ik), .val (.int fk), .val (.int (1 : Int32)), .val (.int big), .val (.int (1 : Int32)), .val (.int (1 : Int32)), .val (.int tp), .val (.int t), .val (.int il), .val (.int sg), .val (.int el), .val (.int ln), .val (.int (Int32.ofNat sn)), .val (.ref ca), .val (.int (Int32.ofNat ((P + 1) + 1))), .unset, .unset, .unset, .unset, .unset, .unset]) rfl ?_
      refine Go.goto at_376 (q := 395) (by decide) rfl ?_
      refine Go.iload at_395 (q := 397) rfl rfl ?_
      refine Go.iconst at_397 (q := 398) rfl (x := (1 : Int32)) (by decide) ?_
      refine Go.icmp_lt at_398 (q := 414) (q' := 401) (by decide) rfl rfl (fun c_ => absurd c_ (by decide)) (fun _ => ?_)
      refine Go.aload at_401 (q := 403) rfl rfl rfl ?_
      refine Go.iload at_403 (q := 405) rfl rfl ?_
      refine Go.lloadN at_405 (q := 406) rfl rfl ?_
      refine Go.iconst at_406 (q := 407) rfl (x := (5 : Int32)) (by decide) ?_
      refine Go.callSV (P := fun w_ h' => w_ = .int (dgf w (5 : Int32)) ∧ h180 = h') (argsL := [(.long w), (.int (5 : Int32))]) (rest := [(.int (Int32.ofNat ((P + 1) + 1))), (.ref ca)]) (wd := 2) (Ls1 := #[.val (.long w), .second, .val (.int (5 : Int32))]) at_407 (q := 410) rfl (w77 hw) (w78 hw) (w2 hw) (w79 hw) (by decide) pn16 pd16 rfl rfl (fun m_ => by simp [entryFrame, mkF, argsToLocals, Value.category]) rfl (by decide) rfl (by decide) (by decide) (by decide) (b16 l Z a0 hw n0 h180 w (5 : Int32) (Q := RV (fun w_ h' => w_ = .int (dgf w (5 : Int32)) ∧ h180 = h')) ⟨_, rfl, rfl, rfl⟩) ?_
      rintro _ _ ⟨rfl, rfl⟩
      refine chst at_410 (q := 411) rfl ch180 (by omega) (dg_ok w _).2 ?_
      intro h182 ch182
      refine Go.iinc at_411 (q := 414) rfl rfl (w := (Int32.ofNat (((P + 1) + 1) + 1))) (ofNat_succ _) (Ls' := #[.val (.int x0), .val (.long w), .second, .val (.int tc), .val (.int pr), .val (.int m), .val (.int ik), .val (.int fk), .val (.int (1 : Int32)), .val (.int big), .val (.int (1 : Int32)), .val (.int (1 : Int32)), .val (.int tp), .val (.int t), .val (.int il), .val (.int sg), .val (.int el), .val (.int ln), .val (.int (Int32.ofNat sn)), .val (.ref ca), .val (.int (Int32.ofNat (((P + 1) + 1) + 1))), .unset, .unset, .unset, .unset, .unset, .unset]) rfl ?_
      refine Go.iload at_414 (q := 416) rfl rfl ?_
      refine Go.iconst at_416 (q := 417) rfl (x := (2 : Int32)) (by decide) ?_
      refine Go.icmp_ne at_417 (q := 434) (q' := 420) (by decide) rfl rfl (fun _ => ?_) (fun c_ => absurd c_ (by decide))
      exact K h182 (((P + 1) + 1) + 1) (by simpa [expW, esW, enW] using ch182)
    · skip
      have hb2 : P + 4 ≤ 12 := by simpa [expW, esW, enW] using hb
      refine chst at_356 (q := 357) rfl c0 (by omega) hec ?_
      intro h184 ch184
      refine Go.iinc at_357 (q := 360) rfl rfl (w := (Int32.ofNat (P + 1))) (ofNat_succ _) (Ls' := #[.val (.int x0), .val (.long w), .second, .val (.int tc), .val (.int pr), .val (.int m), .val (.int ik), .val (.int fk), .val (.int (1 : Int32)), .val (.int big), .val (.int (1 : Int32)), .val (.int (2 : Int32)), .val (.int tp), .val (.int t), .val (.int il), .val (.int sg), .val (.int el), .val (.int ln), .val (.int (Int32.ofNat sn)), .val (.ref ca), .val (.int (Int32.ofNat (P + 1))), .unset, .unset, .unset, .unset, .unset, .unset]) rfl ?_
      refine Go.iload at_360 (q := 362) rfl rfl ?_
      refine Go.iconst at_362 (q := 363) rfl (x := (1 : Int32)) (by decide) ?_
      refine Go.icmp_ne at_363 (q := 379) (q' := 366) (by decide) rfl rfl (fun c_ => absurd (by decide) c_) (fun _ => ?_)
      refine Go.aload at_366 (q := 368) rfl rfl rfl ?_
      refine Go.iload at_368 (q := 370) rfl rfl ?_
      refine Go.bipush at_370 (q := 372) rfl (x := (43 : Int32)) (by decide) ?_
      refine chst at_372 (q := 373) rfl ch184 (by omega) ⟨by decide, by decide⟩ ?_
      intro h186 ch186
      refine Go.iinc at_373 (q := 376) rfl rfl (w := (Int32.ofNat ((P + 1) + 1))) (ofNat_succ _) (Ls' := #[.val (.int x0), .val (.long w), .second, .val (.int tc), .val (.int pr), .val (.int m), .val (.int ik), .val (.int fk), .val (.int (1 : Int32)), .val (.int big), .val (.int (1 : Int32)), .val (.int (2 : Int32)), .val (.int tp), .val (.int t), .val (.int il), .val (.int sg), .val (.int el), .val (.int ln), .val (.int (Int32.ofNat sn)), .val (.ref ca), .val (.int (Int32.ofNat ((P + 1) + 1))), .unset, .unset, .unset, .unset, .unset, .unset]) rfl ?_
      refine Go.goto at_376 (q := 395) (by decide) rfl ?_
      refine Go.iload at_395 (q := 397) rfl rfl ?_
      refine Go.iconst at_397 (q := 398) rfl (x := (1 : Int32)) (by decide) ?_
      refine Go.icmp_lt at_398 (q := 414) (q' := 401) (by decide) rfl rfl (fun c_ => absurd c_ (by decide)) (fun _ => ?_)
      refine Go.aload at_401 (q := 403) rfl rfl rfl ?_
      refine Go.iload at_403 (q := 405) rfl rfl ?_
      refine Go.lloadN at_405 (q := 406) rfl rfl ?_
      refine Go.iconst at_406 (q := 407) rfl (x := (5 : Int32)) (by decide) ?_
      refine Go.callSV (P := fun w_ h' => w_ = .int (dgf w (5 : Int32)) ∧ h186 = h') (argsL := [(.long w), (.int (5 : Int32))]) (rest := [(.int (Int32.ofNat ((P + 1) + 1))), (.ref ca)]) (wd := 2) (Ls1 := #[.val (.long w), .second, .val (.int (5 : Int32))]) at_407 (q := 410) rfl (w77 hw) (w78 hw) (w2 hw) (w79 hw) (by decide) pn16 pd16 rfl rfl (fun m_ => by simp [entryFrame, mkF, argsToLocals, Value.category]) rfl (by decide) rfl (by decide) (by decide) (by decide) (b16 l Z a0 hw n0 h186 w (5 : Int32) (Q := RV (fun w_ h' => w_ = .int (dgf w (5 : Int32)) ∧ h186 = h')) ⟨_, rfl, rfl, rfl⟩) ?_
      rintro _ _ ⟨rfl, rfl⟩
      refine chst at_410 (q := 411) rfl ch186 (by omega) (dg_ok w _).2 ?_
      intro h188 ch188
      refine Go.iinc at_411 (q := 414) rfl rfl (w := (Int32.ofNat (((P + 1) + 1) + 1))) (ofNat_succ _) (Ls' := #[.val (.int x0), .val (.long w), .second, .val (.int tc), .val (.int pr), .val (.int m), .val (.int ik), .val (.int fk), .val (.int (1 : Int32)), .val (.int big), .val (.int (1 : Int32)), .val (.int (2 : Int32)), .val (.int tp), .val (.int t), .val (.int il), .val (.int sg), .val (.int el), .val (.int ln), .val (.int (Int32.ofNat sn)), .val (.ref ca), .val (.int (Int32.ofNat (((P + 1) + 1) + 1))), .unset, .unset, .unset, .unset, .unset, .unset]) rfl ?_
      refine Go.iload at_414 (q := 416) rfl rfl ?_
      refine Go.iconst at_416 (q := 417) rfl (x := (2 : Int32)) (by decide) ?_
      refine Go.icmp_ne at_417 (q := 434) (q' := 420) (by decide) rfl rfl (fun c_ => absurd (by decide) c_) (fun _ => ?_)
      refine Go.aload at_420 (q := 422) rfl rfl rfl ?_
      refine Go.iload at_422 (q := 424) rfl rfl ?_
      refine Go.lloadN at_424 (q := 425) rfl rfl ?_
      refine Go.bipush at_425 (q := 427) rfl (x := (6 : Int32)) (by decide) ?_
      refine Go.callSV (P := fun w_ h' => w_ = .int (dgf w (6 : Int32)) ∧ h188 = h') (argsL := [(.long w), (.int (6 : Int32))]) (rest := [(.int (Int32.ofNat (((P + 1) + 1) + 1))), (.ref ca)]) (wd := 2) (Ls1 := #[.val (.long w), .second, .val (.int (6 : Int32))]) at_427 (q := 430) rfl (w77 hw) (w78 hw) (w2 hw) (w79 hw) (by decide) pn16 pd16 rfl rfl (fun m_ => by simp [entryFrame, mkF, argsToLocals, Value.category]) rfl (by decide) rfl (by decide) (by decide) (by decide) (b16 l Z a0 hw n0 h188 w (6 : Int32) (Q := RV (fun w_ h' => w_ = .int (dgf w (6 : Int32)) ∧ h188 = h')) ⟨_, rfl, rfl, rfl⟩) ?_
      rintro _ _ ⟨rfl, rfl⟩
      refine chst at_430 (q := 431) rfl ch188 (by omega) (dg_ok w _).2 ?_
      intro h190 ch190
      refine Go.iinc at_431 (q := 434) rfl rfl (w := (Int32.ofNat ((((P + 1) + 1) + 1) + 1))) (ofNat_succ _) (Ls' := #[.val (.int x0), .val (.long w), .second, .val (.int tc), .val (.int pr), .val (.int m), .val (.int ik), .val (.int fk), .val (.int (1 : Int32)), .val (.int big), .val (.int (1 : Int32)), .val (.int (2 : Int32)), .val (.int tp), .val (.int t), .val (.int il), .val (.int sg), .val (.int el), .val (.int ln), .val (.int (Int32.ofNat sn)), .val (.ref ca), .val (.int (Int32.ofNat ((((P + 1) + 1) + 1) + 1))), .unset, .unset, .unset, .unset, .unset, .unset]) rfl ?_
      exact K h190 ((((P + 1) + 1) + 1) + 1) (by simpa [expW, esW, enW] using ch190)
  · rcases hen with rfl | rfl | rfl
    · skip
      have hb2 : P + 2 ≤ 12 := by simpa [expW, esW, enW] using hb
      refine chst at_356 (q := 357) rfl c0 (by omega) hec ?_
      intro h191 ch191
      refine Go.iinc at_357 (q := 360) rfl rfl (w := (Int32.ofNat (P + 1))) (ofNat_succ _) (Ls' := #[.val (.int x0), .val (.long w), .second, .val (.int tc), .val (.int pr), .val (.int m), .val (.int ik), .val (.int fk), .val (.int (1 : Int32)), .val (.int big), .val (.int (2 : Int32)), .val (.int (0 : Int32)), .val (.int tp), .val (.int t), .val (.int il), .val (.int sg), .val (.int el), .val (.int ln), .val (.int (Int32.ofNat sn)), .val (.ref ca), .val (.int (Int32.ofNat (P + 1))), .unset, .unset, .unset, .unset, .unset, .unset]) rfl ?_
      refine Go.iload at_360 (q := 362) rfl rfl ?_
      refine Go.iconst at_362 (q := 363) rfl (x := (1 : Int32)) (by decide) ?_
      refine Go.icmp_ne at_363 (q := 379) (q' := 366) (by decide) rfl rfl (fun _ => ?_) (fun c_ => absurd c_ (by decide))
      refine Go.iload at_379 (q := 381) rfl rfl ?_
      refine Go.iconst at_381 (q := 382) rfl (x := (2 : Int32)) (by decide) ?_
      refine Go.icmp_ne at_382 (q := 395) (q' := 385) (by decide) rfl rfl (fun c_ => absurd (by decide) c_) (fun _ => ?_)
      refine Go.aload at_385 (q := 387) rfl rfl rfl ?_
      refine Go.iload at_387 (q := 389) rfl rfl ?_
      refine Go.bipush at_389 (q := 391) rfl (x := (45 : Int32)) (by decide) ?_
      refine chst at_391 (q := 392) rfl ch191 (by omega) ⟨by decide, by decide⟩ ?_
      intro h194 ch194
      refine Go.iinc at_392 (q := 395) rfl rfl (w := (Int32.ofNat ((P + 1) + 1))) (ofNat_succ _) (Ls' := #[.val (.int x0), .val (.long w), .second, .val (.int tc), .val (.int pr), .val (.int m), .val (.int ik), .val (.int fk), .val (.int (1 : Int32)), .val (.int big), .val (.int (2 : Int32)), .val (.int (0 : Int32)), .val (.int tp), .val (.int t), .val (.int il), .val (.int sg), .val (.int el), .val (.int ln), .val (.int (Int32.ofNat sn)), .val (.ref ca), .val (.int (Int32.ofNat ((P + 1) + 1))), .unset, .unset, .unset, .unset, .unset, .unset]) rfl ?_
      refine Go.iload at_395 (q := 397) rfl rfl ?_
      refine Go.iconst at_397 (q := 398) rfl (x := (1 : Int32)) (by decide) ?_
      refine Go.icmp_lt at_398 (q := 414) (q' := 401) (by decide) rfl rfl (fun _ => ?_) (fun c_ => absurd (by decide) c_)
      refine Go.iload at_414 (q := 416) rfl rfl ?_
      refine Go.iconst at_416 (q := 417) rfl (x := (2 : Int32)) (by decide) ?_
      refine Go.icmp_ne at_417 (q := 434) (q' := 420) (by decide) rfl rfl (fun _ => ?_) (fun c_ => absurd c_ (by decide))
      exact K h194 ((P + 1) + 1) (by simpa [expW, esW, enW] using ch194)
    · skip
      have hb2 : P + 3 ≤ 12 := by simpa [expW, esW, enW] using hb
      refine chst at_356 (q := 357) rfl c0 (by omega) hec ?_
      intro h197 ch197
      refine Go.iinc at_357 (q := 360) rfl rfl (w := (Int32.ofNat (P + 1))) (ofNat_succ _) (Ls' := #[.val (.int x0), .val (.long w), .second, .val (.int tc), .val (.int pr), .val (.int m), .val (.int ik), .val (.int fk), .val (.int (1 : Int32)), .val (.int big), .val (.int (2 : Int32)), .val (.int (1 : Int32)), .val (.int tp), .val (.int t), .val (.int il), .val (.int sg), .val (.int el), .val (.int ln), .val (.int (Int32.ofNat sn)), .val (.ref ca), .val (.int (Int32.ofNat (P + 1))), .unset, .unset, .unset, .unset, .unset, .unset]) rfl ?_
      refine Go.iload at_360 (q := 362) rfl rfl ?_
      refine Go.iconst at_362 (q := 363) rfl (x := (1 : Int32)) (by decide) ?_
      refine Go.icmp_ne at_363 (q := 379) (q' := 366) (by decide) rfl rfl (fun _ => ?_) (fun c_ => absurd c_ (by decide))
      refine Go.iload at_379 (q := 381) rfl rfl ?_
      refine Go.iconst at_381 (q := 382) rfl (x := (2 : Int32)) (by decide) ?_
      refine Go.icmp_ne at_382 (q := 395) (q' := 385) (by decide) rfl rfl (fun c_ => absurd (by decide) c_) (fun _ => ?_)
      refine Go.aload at_385 (q := 387) rfl rfl rfl ?_
      refine Go.iload at_387 (q := 389) rfl rfl ?_
      refine Go.bipush at_389 (q := 391) rfl (x := (45 : Int32)) (by decide) ?_
      refine chst at_391 (q := 392) rfl ch197 (by omega) ⟨by decide, by decide⟩ ?_
      intro h200 ch200
      refine Go.iinc at_392 (q := 395) rfl rfl (w := (Int32.ofNat ((P + 1) + 1))) (ofNat_succ _) (Ls' := #[.val (.int x0), .val (.long w), .second, .val (.int tc), .val (.int pr), .val (.int m), .val (.int ik), .val (.int fk), .val (.int (1 : Int32)), .val (.int big), .val (.int (2 : Int32)), .val (.int (1 : Int32)), .val (.int tp), .val (.int t), .val (.int il), .val (.int sg), .val (.int el), .val (.int ln), .val (.int (Int32.ofNat sn)), .val (.ref ca), .val (.int (Int32.ofNat ((P + 1) + 1))), .unset, .unset, .unset, .unset, .unset, .unset]) rfl ?_
      refine Go.iload at_395 (q := 397) rfl rfl ?_
      refine Go.iconst at_397 (q := 398) rfl (x := (1 : Int32)) (by decide) ?_
      refine Go.icmp_lt at_398 (q := 414) (q' := 401) (by decide) rfl rfl (fun c_ => absurd c_ (by decide)) (fun _ => ?_)
      refine Go.aload at_401 (q := 403) rfl rfl rfl ?_
      refine Go.iload at_403 (q := 405) rfl rfl ?_
      refine Go.lloadN at_405 (q := 406) rfl rfl ?_
      refine Go.iconst at_406 (q := 407) rfl (x := (5 : Int32)) (by decide) ?_
      refine Go.callSV (P := fun w_ h' => w_ = .int (dgf w (5 : Int32)) ∧ h200 = h') (argsL := [(.long w), (.int (5 : Int32))]) (rest := [(.int (Int32.ofNat ((P + 1) + 1))), (.ref ca)]) (wd := 2) (Ls1 := #[.val (.long w), .second, .val (.int (5 : Int32))]) at_407 (q := 410) rfl (w77 hw) (w78 hw) (w2 hw) (w79 hw) (by decide) pn16 pd16 rfl rfl (fun m_ => by simp [entryFrame, mkF, argsToLocals, Value.category]) rfl (by decide) rfl (by decide) (by decide) (by decide) (b16 l Z a0 hw n0 h200 w (5 : Int32) (Q := RV (fun w_ h' => w_ = .int (dgf w (5 : Int32)) ∧ h200 = h')) ⟨_, rfl, rfl, rfl⟩) ?_
      rintro _ _ ⟨rfl, rfl⟩
      refine chst at_410 (q := 411) rfl ch200 (by omega) (dg_ok w _).2 ?_
      intro h202 ch202
      refine Go.iinc at_411 (q := 414) rfl rfl (w := (Int32.ofNat (((P + 1) + 1) + 1))) (ofNat_succ _) (Ls' := #[.val (.int x0), .val (.long w), .second, .val (.int tc), .val (.int pr), .val (.int m), .val (.int ik), .val (.int fk), .val (.int (1 : Int32)), .val (.int big), .val (.int (2 : Int32)), .val (.int (1 : Int32)), .val (.int tp), .val (.int t), .val (.int il), .val (.int sg), .val (.int el), .val (.int ln), .val (.int (Int32.ofNat sn)), .val (.ref ca), .val (.int (Int32.ofNat (((P + 1) + 1) + 1))), .unset, .unset, .unset, .unset, .unset, .unset]) rfl ?_
      refine Go.iload at_414 (q := 416) rfl rfl ?_
      refine Go.iconst at_416 (q := 417) rfl (x := (2 : Int32)) (by decide) ?_
      refine Go.icmp_ne at_417 (q := 434) (q' := 420) (by decide) rfl rfl (fun _ => ?_) (fun c_ => absurd c_ (by decide))
      exact K h202 (((P + 1) + 1) + 1) (by simpa [expW, esW, enW] using ch202)
    · skip
      have hb2 : P + 4 ≤ 12 := by simpa [expW, esW, enW] using hb
      refine chst at_356 (q := 357) rfl c0 (by omega) hec ?_
      intro h204 ch204
      refine Go.iinc at_357 (q := 360) rfl rfl (w := (Int32.ofNat (P + 1))) (ofNat_succ _) (Ls' := #[.val (.int x0), .val (.long w), .second, .val (.int tc), .val (.int pr), .val (.int m), .val (.int ik), .val (.int fk), .val (.int (1 : Int32)), .val (.int big), .val (.int (2 : Int32)), .val (.int (2 : Int32)), .val (.int tp), .val (.int t), .val (.int il), .val (.int sg), .val (.int el), .val (.int ln), .val (.int (Int32.ofNat sn)), .val (.ref ca), .val (.int (Int32.ofNat (P + 1))), .unset, .unset, .unset, .unset, .unset, .unset]) rfl ?_
      refine Go.iload at_360 (q := 362) rfl rfl ?_
      refine Go.iconst at_362 (q := 363) rfl (x := (1 : Int32)) (by decide) ?_
      refine Go.icmp_ne at_363 (q := 379) (q' := 366) (by decide) rfl rfl (fun _ => ?_) (fun c_ => absurd c_ (by decide))
      refine Go.iload at_379 (q := 381) rfl rfl ?_
      refine Go.iconst at_381 (q := 382) rfl (x := (2 : Int32)) (by decide) ?_
      refine Go.icmp_ne at_382 (q := 395) (q' := 385) (by decide) rfl rfl (fun c_ => absurd (by decide) c_) (fun _ => ?_)
      refine Go.aload at_385 (q := 387) rfl rfl rfl ?_
      refine Go.iload at_387 (q := 389) rfl rfl ?_
      refine Go.bipush at_389 (q := 391) rfl (x := (45 : Int32)) (by decide) ?_
      refine chst at_391 (q := 392) rfl ch204 (by omega) ⟨by decide, by decide⟩ ?_
      intro h207 ch207
      refine Go.iinc at_392 (q := 395) rfl rfl (w := (Int32.ofNat ((P + 1) + 1))) (ofNat_succ _) (Ls' := #[.val (.int x0), .val (.long w), .second, .val (.int tc), .val (.int pr), .val (.int m), .val (.int ik), .val (.int fk), .val (.int (1 : Int32)), .val (.int big), .val (.int (2 : Int32)), .val (.int (2 : Int32)), .val (.int tp), .val (.int t), .val (.int il), .val (.int sg), .val (.int el), .val (.int ln), .val (.int (Int32.ofNat sn)), .val (.ref ca), .val (.int (Int32.ofNat ((P + 1) + 1))), .unset, .unset, .unset, .unset, .unset, .unset]) rfl ?_
      refine Go.iload at_395 (q := 397) rfl rfl ?_
      refine Go.iconst at_397 (q := 398) rfl (x := (1 : Int32)) (by decide) ?_
      refine Go.icmp_lt at_398 (q := 414) (q' := 401) (by decide) rfl rfl (fun c_ => absurd c_ (by decide)) (fun _ => ?_)
      refine Go.aload at_401 (q := 403) rfl rfl rfl ?_
      refine Go.iload at_403 (q := 405) rfl rfl ?_
      refine Go.lloadN at_405 (q := 406) rfl rfl ?_
      refine Go.iconst at_406 (q := 407) rfl (x := (5 : Int32)) (by decide) ?_
      refine Go.callSV (P := fun w_ h' => w_ = .int (dgf w (5 : Int32)) ∧ h207 = h') (argsL := [(.long w), (.int (5 : Int32))]) (rest := [(.int (Int32.ofNat ((P + 1) + 1))), (.ref ca)]) (wd := 2) (Ls1 := #[.val (.long w), .second, .val (.int (5 : Int32))]) at_407 (q := 410) rfl (w77 hw) (w78 hw) (w2 hw) (w79 hw) (by decide) pn16 pd16 rfl rfl (fun m_ => by simp [entryFrame, mkF, argsToLocals, Value.category]) rfl (by decide) rfl (by decide) (by decide) (by decide) (b16 l Z a0 hw n0 h207 w (5 : Int32) (Q := RV (fun w_ h' => w_ = .int (dgf w (5 : Int32)) ∧ h207 = h')) ⟨_, rfl, rfl, rfl⟩) ?_
      rintro _ _ ⟨rfl, rfl⟩
      refine chst at_410 (q := 411) rfl ch207 (by omega) (dg_ok w _).2 ?_
      intro h209 ch209
      refine Go.iinc at_411 (q := 414) rfl rfl (w := (Int32.ofNat (((P + 1) + 1) + 1))) (ofNat_succ _) (Ls' := #[.val (.int x0), .val (.long w), .second, .val (.int tc), .val (.int pr), .val (.int m), .val (.int ik), .val (.int fk), .val (.int (1 : Int32)), .val (.int big), .val (.int (2 : Int32)), .val (.int (2 : Int32)), .val (.int tp), .val (.int t), .val (.int il), .val (.int sg), .val (.int el), .val (.int ln), .val (.int (Int32.ofNat sn)), .val (.ref ca), .val (.int (Int32.ofNat (((P + 1) + 1) + 1))), .unset, .unset, .unset, .unset, .unset, .unset]) rfl ?_
      refine Go.iload at_414 (q := 416) rfl rfl ?_
      refine Go.iconst at_416 (q := 417) rfl (x := (2 : Int32)) (by decide) ?_
      refine Go.icmp_ne at_417 (q := 434) (q' := 420) (by decide) rfl rfl (fun c_ => absurd (by decide) c_) (fun _ => ?_)
      refine Go.aload at_420 (q := 422) rfl rfl rfl ?_
      refine Go.iload at_422 (q := 424) rfl rfl ?_
      refine Go.lloadN at_424 (q := 425) rfl rfl ?_
      refine Go.bipush at_425 (q := 427) rfl (x := (6 : Int32)) (by decide) ?_
      refine Go.callSV (P := fun w_ h' => w_ = .int (dgf w (6 : Int32)) ∧ h209 = h') (argsL := [(.long w), (.int (6 : Int32))]) (rest := [(.int (Int32.ofNat (((P + 1) + 1) + 1))), (.ref ca)]) (wd := 2) (Ls1 := #[.val (.long w), .second, .val (.int (6 : Int32))]) at_427 (q := 430) rfl (w77 hw) (w78 hw) (w2 hw) (w79 hw) (by decide) pn16 pd16 rfl rfl (fun m_ => by simp [entryFrame, mkF, argsToLocals, Value.category]) rfl (by decide) rfl (by decide) (by decide) (by decide) (b16 l Z a0 hw n0 h209 w (6 : Int32) (Q := RV (fun w_ h' => w_ = .int (dgf w (6 : Int32)) ∧ h209 = h')) ⟨_, rfl, rfl, rfl⟩) ?_
      rintro _ _ ⟨rfl, rfl⟩
      refine chst at_430 (q := 431) rfl ch209 (by omega) (dg_ok w _).2 ?_
      intro h211 ch211
      refine Go.iinc at_431 (q := 434) rfl rfl (w := (Int32.ofNat ((((P + 1) + 1) + 1) + 1))) (ofNat_succ _) (Ls' := #[.val (.int x0), .val (.long w), .second, .val (.int tc), .val (.int pr), .val (.int m), .val (.int ik), .val (.int fk), .val (.int (1 : Int32)), .val (.int big), .val (.int (2 : Int32)), .val (.int (2 : Int32)), .val (.int tp), .val (.int t), .val (.int il), .val (.int sg), .val (.int el), .val (.int ln), .val (.int (Int32.ofNat sn)), .val (.ref ca), .val (.int (Int32.ofNat ((((P + 1) + 1) + 1) + 1))), .unset, .unset, .unset, .unset, .unset, .unset]) rfl ?_
      exact K h211 ((((P + 1) + 1) + 1) + 1) (by simpa [expW, esW, enW] using ch211)
set_option maxRecDepth 65536 in
set_option maxHeartbeats 40000000 in
theorem lD (l : Launch) (Z : State) (a0 : Array Value) (hw : Hw a0 Z) (n0 : Nat) (h : Heap) (x0 : Int32) (w : Int64) (tc pr m ik fk ep big es en tp t il sg el ln : Int32) (sn : Nat) (ca : Addr) (kC : ClassId) (ws : List Int32) (P : Nat) (ec : Int32) (hbig : ec = EC big) (hep : Two ep) (hes : Three es) (hen : Three en) (c0 : CH Z h n0 ca kC sn ws P) (hb : P + ((expW ep es en ec (dgf w 5) (dgf w 6))).length ≤ 12) (K : ∀ h' P', CH Z h' n0 ca kC sn (ws ++ (expW ep es en ec (dgf w 5) (dgf w 6))) P' →
    Go l Z x code maxLocals ret room_1 n0 (fun v _ => v = some (.int 1)) h' 1 12 434 #[.val (.int x0), .val (.long w), .second, .val (.int tc), .val (.int pr), .val (.int m), .val (.int ik), .val (.int fk), .val (.int ep), .val (.int big), .val (.int es), .val (.int en), .val (.int tp), .val (.int t), .val (.int il), .val (.int sg), .val (.int el), .val (.int ln), .val (.int (Int32.ofNat sn)), .val (.ref ca), .val (.int (Int32.ofNat P')), .unset, .unset, .unset, .unset, .unset, .unset] []) :
    Go l Z x code maxLocals ret room_1 n0 (fun v _ => v = some (.int 1)) h 1 12 334 #[.val (.int x0), .val (.long w), .second, .val (.int tc), .val (.int pr), .val (.int m), .val (.int ik), .val (.int fk), .val (.int ep), .val (.int big), .val (.int es), .val (.int en), .val (.int tp), .val (.int t), .val (.int il), .val (.int sg), .val (.int el), .val (.int ln), .val (.int (Int32.ofNat sn)), .val (.ref ca), .val (.int (Int32.ofNat P)), .unset, .unset, .unset, .unset, .unset, .unset] [] := by
  rcases hep with rfl | rfl
  · skip
    have hb2 : P + 0 ≤ 12 := by simpa [expW] using hb
    refine Go.iload at_334 (q := 336) rfl rfl ?_
    refine Go.iconst at_336 (q := 337) rfl (x := (1 : Int32)) (by decide) ?_
    refine Go.icmp_ne at_337 (q := 434) (q' := 340) (by decide) rfl rfl (fun _ => ?_) (fun c_ => absurd c_ (by decide))
    exact K h P (by simpa [expW] using c0)
  · skip
    refine Go.iload at_334 (q := 336) rfl rfl ?_
    refine Go.iconst at_336 (q := 337) rfl (x := (1 : Int32)) (by decide) ?_
    refine Go.icmp_ne at_337 (q := 434) (q' := 340) (by decide) rfl rfl (fun c_ => absurd (by decide) c_) (fun _ => ?_)
    refine Go.aload at_340 (q := 342) rfl rfl rfl ?_
    refine Go.iload at_342 (q := 344) rfl rfl ?_
    refine Go.iload at_344 (q := 346) rfl rfl ?_
    refine Go.if_ne at_346 (q := 354) (q' := 349) (by decide) rfl rfl (fun c214 => ?_) (fun c214 => ?_)
    · skip
      refine Go.bipush at_354 (q := 356) rfl (x := (69 : Int32)) (by decide) ?_
      exact lD1 l Z a0 hw n0 h x0 w tc pr m ik fk (1 : Int32) big es en tp t il sg el ln sn ca kC ws P (69 : Int32) ⟨by decide, by decide⟩ hes hen c0 (by rw [show ec = (69 : Int32) by rw [hbig]; exact if_neg c214] at hb; exact hb) (by rw [show ec = (69 : Int32) by rw [hbig]; exact if_neg c214] at K; exact K)
    · skip
      refine Go.bipush at_349 (q := 351) rfl (x := (101 : Int32)) (by decide) ?_
      refine Go.goto at_351 (q := 356) (by decide) rfl ?_
      exact lD1 l Z a0 hw n0 h x0 w tc pr m ik fk (1 : Int32) big es en tp t il sg el ln sn ca kC ws P (101 : Int32) ⟨by decide, by decide⟩ hes hen c0 (by rw [show ec = (101 : Int32) by rw [hbig]; exact if_pos c214] at hb; exact hb) (by rw [show ec = (101 : Int32) by rw [hbig]; exact if_pos c214] at K; exact K)
theorem w_len {x0 : Int32} {w : Int64} {m ik fk ep big es en tp t : Int32} {u : List Int32} (hu : u = WW m ik (nzf w) (dgf w 1) (dgf w 2) fk (dgf w 3) (dgf w 4) ep es en (EC big) (dgf w 5) (dgf w 6) tp t) : u.length = (sgnW m).length + (intW ik (nzf w) (dgf w 1) (dgf w 2)).length + (fracW fk (dgf w 3) (dgf w 4)).length + (expW ep es en (EC big) (dgf w 5) (dgf w 6)).length + (trW tp t).length := by
  subst hu
  unfold WW; simp only [List.length_append]; omega
theorem w_exp {w : Int64} {m ik fk ep big es en tp t td : Int32} (hm : Two m) (hik : Four ik) (hfk : Four fk) (hep : Two ep) (hes : Three es) (hen : Three en) (htp : Two tp) (ht : RC t) (ht0 : ik = 0 → dgt t = 0) (htd : td = if tp = 1 then dgt t else 0) : pos (scan (WW m ik (nzf w) (dgf w 1) (dgf w 2) fk (dgf w 3) (dgf w 4) ep es en (EC big) (dgf w 5) (dgf w 6) tp t)) = expd (pos (WW m ik (nzf w) (dgf w 1) (dgf w 2) fk (dgf w 3) (dgf w 4) ep es en (EC big) (dgf w 5) (dgf w 6) tp t)) m ik fk ep en (intL ik) (sgnL es) td :=
  plain hm hik hfk hep hes hen htp (dig_of (nz_ok w).1) (nz_ok w).2.2 (dig_of (dg_ok w _).1) (dig_of (dg_ok w _).1) (dig_of (dg_ok w _).1) (dig_of (dg_ok w _).1) (dig_of (dg_ok w _).1) (dig_of (dg_ok w _).1) (ec_or big) ht0 htd
set_option maxRecDepth 65536 in
set_option maxHeartbeats 40000000 in
theorem law195 (l : Launch) (Z : State) (a0 : Array Value) (hw : Hw a0 Z) (n0 : Nat) (h : Heap) (x0 : Int32) (w : Int64) (tc pr m ik fk ep big es en tp t il sg el ln : Int32) (sn : Nat) (ca : Addr) (kC : ClassId) (u : List Int32) (cz : Int32) (sf : Value) (F : Facts Z cz sf) (hm : Two m) (hik : Four ik) (hfk : Four fk) (hep : Two ep) (hes : Three es) (hen : Three en) (htp : Two tp) (ht : RC t) (ht0 : ik = 0 → dgt t = 0) (hu : u = WW m ik (nzf w) (dgf w 1) (dgf w 2) fk (dgf w 3) (dgf w 4) ep es en (EC big) (dgf w 5) (dgf w 6) tp t) (hl : u.length ≤ 12) (hsn : sn = 12 - u.length) (hil : il = intL ik) (hsg : sg = sgnL es) (c0 : CH Z h n0 ca kC sn [] sn) :
    Go l Z x code maxLocals ret room_1 n0 (fun v _ => v = some (.int 1)) h 1 12 195 #[.val (.int x0), .val (.long w), .second, .val (.int tc), .val (.int pr), .val (.int m), .val (.int ik), .val (.int fk), .val (.int ep), .val (.int big), .val (.int es), .val (.int en), .val (.int tp), .val (.int t), .val (.int il), .val (.int sg), .val (.int el), .val (.int ln), .val (.int (Int32.ofNat sn)), .val (.ref ca), .val (.int (Int32.ofNat sn)), .unset, .unset, .unset, .unset, .unset, .unset] [] := by
  have hlen := w_len (x0 := x0) hu
  have hs : sn + (sgnW m).length + (intW ik (nzf w) (dgf w 1) (dgf w 2)).length + (fracW fk (dgf w 3) (dgf w 4)).length + (expW ep es en (EC big) (dgf w 5) (dgf w 6)).length + (trW tp t).length = 12 := by omega
  refine lA l Z a0 hw n0 h x0 w tc pr m ik fk ep big es en tp t il sg el ln sn ca kC [] sn hm c0 (by omega) ?_
  intro h1 P1 c1
  have e1 := c1.len
  simp only [List.length_append, List.length_nil] at e1
  refine lB l Z a0 hw n0 h1 x0 w tc pr m ik fk ep big es en tp t il sg el ln sn ca kC _ P1 hik c1 (by omega) ?_
  intro h2 P2 c2
  have e2 := c2.len
  simp only [List.length_append, List.length_nil] at e2
  refine lC l Z a0 hw n0 h2 x0 w tc pr m ik fk ep big es en tp t il sg el ln sn ca kC _ P2 hfk c2 (by omega) ?_
  intro h3 P3 c3
  have e3 := c3.len
  simp only [List.length_append, List.length_nil] at e3
  refine lD l Z a0 hw n0 h3 x0 w tc pr m ik fk ep big es en tp t il sg el ln sn ca kC _ P3 (EC big) rfl hep hes hen c3 (by omega) ?_
  intro h4 P4 c4
  have e4 := c4.len
  simp only [List.length_append, List.length_nil] at e4
  refine lE l Z a0 hw n0 h4 x0 w tc pr m ik fk ep big es en tp t il sg el ln sn ca kC _ P4 htp ht c4 (by omega) ?_
  intro h5 P5 c5
  have e5 := c5.len
  simp only [List.length_append, List.length_nil] at e5
  obtain rfl : P5 = 12 := by omega
  have c6 : CH Z h5 n0 ca kC sn u 12 := by
    rw [hu]; unfold WW
    simpa only [List.append_assoc, List.nil_append] using c5
  clear hs e1 e2 e3 e4 e5 c1 c2 c3 c4 c5 c0
  subst hsn
  refine law450 l Z a0 hw n0 h5 x0 w tc pr m ik fk ep big es en tp t il sg el ln u ca kC cz sf F hl c6 ?_
  intro td htd
  subst hu hil hsg
  exact w_exp hm hik hfk hep hes hen htp ht ht0 htd
set_option maxRecDepth 65536 in
set_option maxHeartbeats 40000000 in
theorem law166 (l : Launch) (Z : State) (a0 : Array Value) (hw : Hw a0 Z) (n0 : Nat) (h : Heap) (O : Old Z n0 h) (x0 : Int32) (w : Int64) (tc pr m ik fk ep big es en tp t il sg el ln : Int32) (sn : Nat) (u : List Int32) (cz : Int32) (sf : Value) (F : Facts Z cz sf) (hm : Two m) (hik : Four ik) (hfk : Four fk) (hep : Two ep) (hes : Three es) (hen : Three en) (htp : Two tp) (ht : RC t) (ht0 : ik = 0 → dgt t = 0) (hu : u = WW m ik (nzf w) (dgf w 1) (dgf w 2) fk (dgf w 3) (dgf w 4) ep es en (EC big) (dgf w 5) (dgf w 6) tp t) (hl : u.length ≤ 12) (hsn : sn = 12 - u.length) (hil : il = intL ik) (hsg : sg = sgnL es) :
    Go l Z x code maxLocals ret room_1 n0 (fun v _ => v = some (.int 1)) h 0 0 166 #[.val (.int x0), .val (.long w), .second, .val (.int tc), .val (.int pr), .val (.int m), .val (.int ik), .val (.int fk), .val (.int ep), .val (.int big), .val (.int es), .val (.int en), .val (.int tp), .val (.int t), .val (.int il), .val (.int sg), .val (.int el), .val (.int ln), .val (.int (Int32.ofNat sn)), .unset, .unset, .unset, .unset, .unset, .unset, .unset, .unset] [] := by
  refine Go.bipush at_166 (q := 168) rfl (x := (12 : Int32)) (by decide) ?_
  refine Go.newarray (cap := 12) at_168 (q := 170) rfl (w4 hw) (by decide) (by decide) (by decide) (by decide) (by decide) ?_
  intro h1 ca kC e1 X1 A1
  have nc : n0 ≤ ca := new_le (O.1 ▸ O.2.1) e1
  have c0 : CH Z h1 n0 ca kC sn [] sn := ⟨O.ext X1, nc, rfl, fun _ => 0, by rw [LN_zero]; exact A1, rg0, fun i c q => by simp at q⟩
  refine Go.astore at_170 (q := 172) rfl rfl (Ls' := #[.val (.int x0), .val (.long w), .second, .val (.int tc), .val (.int pr), .val (.int m), .val (.int ik), .val (.int fk), .val (.int ep), .val (.int big), .val (.int es), .val (.int en), .val (.int tp), .val (.int t), .val (.int il), .val (.int sg), .val (.int el), .val (.int ln), .val (.int (Int32.ofNat sn)), .val (.ref ca), .unset, .unset, .unset, .unset, .unset, .unset, .unset]) rfl ?_
  refine Go.iload at_172 (q := 174) rfl rfl ?_
  refine Go.if_le at_174 (q := 191) (q' := 177) (by decide) rfl rfl (fun c215 => ?_) (fun c215 => ?_)
  · skip
    refine Go.iload at_191 (q := 193) rfl rfl ?_
    refine Go.istore at_193 (q := 195) rfl (Ls' := #[.val (.int x0), .val (.long w), .second, .val (.int tc), .val (.int pr), .val (.int m), .val (.int ik), .val (.int fk), .val (.int ep), .val (.int big), .val (.int es), .val (.int en), .val (.int tp), .val (.int t), .val (.int il), .val (.int sg), .val (.int el), .val (.int ln), .val (.int (Int32.ofNat sn)), .val (.ref ca), .val (.int (Int32.ofNat sn)), .unset, .unset, .unset, .unset, .unset, .unset]) rfl ?_
    exact law195 l Z a0 hw n0 h1 x0 w tc pr m ik fk ep big es en tp t il sg el ln sn ca kC u cz sf F hm hik hfk hep hes hen htp ht ht0 hu hl hsn hil hsg c0
  · skip
    refine Go.aload at_177 (q := 179) rfl rfl rfl ?_
    refine Go.iload at_179 (q := 181) rfl rfl ?_
    refine Go.iconst at_181 (q := 182) rfl (x := (1 : Int32)) (by decide) ?_
    refine Go.isub at_182 (q := 183) rfl ?_
    refine Go.iload at_183 (q := 185) rfl rfl ?_
    refine Go.sipush at_185 (q := 188) rfl (x := (255 : Int32)) (by decide) ?_
    refine Go.iand at_188 (q := 189) rfl ?_
    refine Go.i2c at_189 (q := 190) rfl ?_
    refine chpre at_190 (q := 191) rfl c0 (pre_ix ⟨sn, by omega⟩ c215) (ch255 pr).1 ?_
    intro h2 c2
    refine Go.iload at_191 (q := 193) rfl rfl ?_
    refine Go.istore at_193 (q := 195) rfl (Ls' := #[.val (.int x0), .val (.long w), .second, .val (.int tc), .val (.int pr), .val (.int m), .val (.int ik), .val (.int fk), .val (.int ep), .val (.int big), .val (.int es), .val (.int en), .val (.int tp), .val (.int t), .val (.int il), .val (.int sg), .val (.int el), .val (.int ln), .val (.int (Int32.ofNat sn)), .val (.ref ca), .val (.int (Int32.ofNat sn)), .unset, .unset, .unset, .unset, .unset, .unset]) rfl ?_
    exact law195 l Z a0 hw n0 h2 x0 w tc pr m ik fk ep big es en tp t il sg el ln sn ca kC u cz sf F hm hik hfk hep hes hen htp ht ht0 hu hl hsn hil hsg c2
set_option maxRecDepth 65536 in
set_option maxHeartbeats 40000000 in
theorem law143 (l : Launch) (Z : State) (a0 : Array Value) (hw : Hw a0 Z) (n0 : Nat) (h : Heap) (O : Old Z n0 h) (x0 : Int32) (w : Int64) (tc pr m ik fk ep big es en tp t il sg el : Int32) (cz : Int32) (sf : Value) (F : Facts Z cz sf) (hm : Two m) (hik : Four ik) (hfk : Four fk) (hep : Two ep) (hes : Three es) (hen : Three en) (htp : Two tp) (ht : RC t) (ht0 : ik = 0 → dgt t = 0) (hil : il = intL ik) (hsg : sg = sgnL es) (hel : el = expL ep sg en) :
    Go l Z x code maxLocals ret room_1 n0 (fun v _ => v = some (.int 1)) h 0 0 143 #[.val (.int x0), .val (.long w), .second, .val (.int tc), .val (.int pr), .val (.int m), .val (.int ik), .val (.int fk), .val (.int ep), .val (.int big), .val (.int es), .val (.int en), .val (.int tp), .val (.int t), .val (.int il), .val (.int sg), .val (.int el), .unset, .unset, .unset, .unset, .unset, .unset, .unset, .unset, .unset, .unset] [] := by
  refine Go.iload at_143 (q := 145) rfl rfl ?_
  refine Go.iload at_145 (q := 147) rfl rfl ?_
  refine Go.iadd at_147 (q := 148) rfl ?_
  refine Go.iload at_148 (q := 150) rfl rfl ?_
  refine Go.iadd at_150 (q := 151) rfl ?_
  refine Go.iload at_151 (q := 153) rfl rfl ?_
  refine Go.iadd at_153 (q := 154) rfl ?_
  refine Go.iload at_154 (q := 156) rfl rfl ?_
  refine Go.iadd at_156 (q := 157) rfl ?_
  refine Go.istore at_157 (q := 159) rfl (Ls' := #[.val (.int x0), .val (.long w), .second, .val (.int tc), .val (.int pr), .val (.int m), .val (.int ik), .val (.int fk), .val (.int ep), .val (.int big), .val (.int es), .val (.int en), .val (.int tp), .val (.int t), .val (.int il), .val (.int sg), .val (.int el), .val (.int ((((m + il) + fk) + el) + tp)), .unset, .unset, .unset, .unset, .unset, .unset, .unset, .unset, .unset]) rfl ?_
  refine Go.bipush at_159 (q := 161) rfl (x := (12 : Int32)) (by decide) ?_
  refine Go.iload at_161 (q := 163) rfl rfl ?_
  refine Go.isub at_163 (q := 164) rfl ?_
  refine Go.istore at_164 (q := 166) rfl (Ls' := #[.val (.int x0), .val (.long w), .second, .val (.int tc), .val (.int pr), .val (.int m), .val (.int ik), .val (.int fk), .val (.int ep), .val (.int big), .val (.int es), .val (.int en), .val (.int tp), .val (.int t), .val (.int il), .val (.int sg), .val (.int el), .val (.int ((((m + il) + fk) + el) + tp)), .val (.int ((12 : Int32) - ((((m + il) + fk) + el) + tp))), .unset, .unset, .unset, .unset, .unset, .unset, .unset, .unset]) rfl ?_
  subst hel hsg hil
  rw [(len_ww (nzf w) (dgf w 1) (dgf w 2) (dgf w 3) (dgf w 4) (EC big) (dgf w 5) (dgf w 6) t hm hik hfk hep hes hen htp).2]
  exact law166 l Z a0 hw n0 h O x0 w tc pr m ik fk ep big es en tp t _ _ _ _ _ _ cz sf F hm hik hfk hep hes hen htp ht ht0 rfl (len_ww (nzf w) (dgf w 1) (dgf w 2) (dgf w 3) (dgf w 4) (EC big) (dgf w 5) (dgf w 6) t hm hik hfk hep hes hen htp).1 rfl rfl rfl
set_option maxRecDepth 65536 in
set_option maxHeartbeats 40000000 in
theorem law125 (l : Launch) (Z : State) (a0 : Array Value) (hw : Hw a0 Z) (n0 : Nat) (h : Heap) (O : Old Z n0 h) (x0 : Int32) (w : Int64) (tc pr m ik fk ep big es en tp t il sg : Int32) (cz : Int32) (sf : Value) (F : Facts Z cz sf) (hm : Two m) (hik : Four ik) (hfk : Four fk) (hep : Two ep) (hes : Three es) (hen : Three en) (htp : Two tp) (ht : RC t) (ht0 : ik = 0 → dgt t = 0) (hil : il = intL ik) (hsg : sg = sgnL es) :
    Go l Z x code maxLocals ret room_1 n0 (fun v _ => v = some (.int 1)) h 0 0 125 #[.val (.int x0), .val (.long w), .second, .val (.int tc), .val (.int pr), .val (.int m), .val (.int ik), .val (.int fk), .val (.int ep), .val (.int big), .val (.int es), .val (.int en), .val (.int tp), .val (.int t), .val (.int il), .val (.int sg), .unset, .unset, .unset, .unset, .unset, .unset, .unset, .unset, .unset, .unset, .unset] [] := by
  refine Go.iload at_125 (q := 127) rfl rfl ?_
  refine Go.if_ne at_127 (q := 134) (q' := 130) (by decide) rfl rfl (fun c216 => ?_) (fun c216 => ?_)
  · skip
    refine Go.iconst at_134 (q := 135) rfl (x := (1 : Int32)) (by decide) ?_
    refine Go.iload at_135 (q := 137) rfl rfl ?_
    refine Go.iadd at_137 (q := 138) rfl ?_
    refine Go.iload at_138 (q := 140) rfl rfl ?_
    refine Go.iadd at_140 (q := 141) rfl ?_
    refine Go.istore at_141 (q := 143) rfl (Ls' := #[.val (.int x0), .val (.long w), .second, .val (.int tc), .val (.int pr), .val (.int m), .val (.int ik), .val (.int fk), .val (.int ep), .val (.int big), .val (.int es), .val (.int en), .val (.int tp), .val (.int t), .val (.int il), .val (.int sg), .val (.int (((1 : Int32) + sg) + en)), .unset, .unset, .unset, .unset, .unset, .unset, .unset, .unset, .unset, .unset]) rfl ?_
    exact law143 l Z a0 hw n0 h O x0 w tc pr m ik fk ep big es en tp t il sg _ cz sf F hm hik hfk hep hes hen htp ht ht0 hil hsg (if_neg c216).symm
  · skip
    refine Go.iconst at_130 (q := 131) rfl (x := (0 : Int32)) (by decide) ?_
    refine Go.goto at_131 (q := 141) (by decide) rfl ?_
    refine Go.istore at_141 (q := 143) rfl (Ls' := #[.val (.int x0), .val (.long w), .second, .val (.int tc), .val (.int pr), .val (.int m), .val (.int ik), .val (.int fk), .val (.int ep), .val (.int big), .val (.int es), .val (.int en), .val (.int tp), .val (.int t), .val (.int il), .val (.int sg), .val (.int (0 : Int32)), .unset, .unset, .unset, .unset, .unset, .unset, .unset, .unset, .unset, .unset]) rfl ?_
    exact law143 l Z a0 hw n0 h O x0 w tc pr m ik fk ep big es en tp t il sg _ cz sf F hm hik hfk hep hes hen htp ht ht0 hil hsg (if_pos c216).symm
set_option maxRecDepth 65536 in
set_option maxHeartbeats 40000000 in
theorem law113 (l : Launch) (Z : State) (a0 : Array Value) (hw : Hw a0 Z) (n0 : Nat) (h : Heap) (O : Old Z n0 h) (x0 : Int32) (w : Int64) (tc pr m ik fk ep big es en tp t il : Int32) (cz : Int32) (sf : Value) (F : Facts Z cz sf) (hm : Two m) (hik : Four ik) (hfk : Four fk) (hep : Two ep) (hes : Three es) (hen : Three en) (htp : Two tp) (ht : RC t) (ht0 : ik = 0 → dgt t = 0) (hil : il = intL ik) :
    Go l Z x code maxLocals ret room_1 n0 (fun v _ => v = some (.int 1)) h 0 0 113 #[.val (.int x0), .val (.long w), .second, .val (.int tc), .val (.int pr), .val (.int m), .val (.int ik), .val (.int fk), .val (.int ep), .val (.int big), .val (.int es), .val (.int en), .val (.int tp), .val (.int t), .val (.int il), .unset, .unset, .unset, .unset, .unset, .unset, .unset, .unset, .unset, .unset, .unset, .unset] [] := by
  refine Go.iload at_113 (q := 115) rfl rfl ?_
  refine Go.if_ne at_115 (q := 122) (q' := 118) (by decide) rfl rfl (fun c217 => ?_) (fun c217 => ?_)
  · skip
    refine Go.iconst at_122 (q := 123) rfl (x := (1 : Int32)) (by decide) ?_
    refine Go.istore at_123 (q := 125) rfl (Ls' := #[.val (.int x0), .val (.long w), .second, .val (.int tc), .val (.int pr), .val (.int m), .val (.int ik), .val (.int fk), .val (.int ep), .val (.int big), .val (.int es), .val (.int en), .val (.int tp), .val (.int t), .val (.int il), .val (.int (1 : Int32)), .unset, .unset, .unset, .unset, .unset, .unset, .unset, .unset, .unset, .unset, .unset]) rfl ?_
    exact law125 l Z a0 hw n0 h O x0 w tc pr m ik fk ep big es en tp t il _ cz sf F hm hik hfk hep hes hen htp ht ht0 hil (if_neg c217).symm
  · skip
    refine Go.iconst at_118 (q := 119) rfl (x := (0 : Int32)) (by decide) ?_
    refine Go.goto at_119 (q := 123) (by decide) rfl ?_
    refine Go.istore at_123 (q := 125) rfl (Ls' := #[.val (.int x0), .val (.long w), .second, .val (.int tc), .val (.int pr), .val (.int m), .val (.int ik), .val (.int fk), .val (.int ep), .val (.int big), .val (.int es), .val (.int en), .val (.int tp), .val (.int t), .val (.int il), .val (.int (0 : Int32)), .unset, .unset, .unset, .unset, .unset, .unset, .unset, .unset, .unset, .unset, .unset]) rfl ?_
    exact law125 l Z a0 hw n0 h O x0 w tc pr m ik fk ep big es en tp t il _ cz sf F hm hik hfk hep hes hen htp ht ht0 hil (if_pos c217).symm
set_option maxRecDepth 65536 in
set_option maxHeartbeats 40000000 in
theorem law91 (l : Launch) (Z : State) (a0 : Array Value) (hw : Hw a0 Z) (n0 : Nat) (h : Heap) (O : Old Z n0 h) (x0 : Int32) (w : Int64) (tc pr m ik fk ep big es en tp t : Int32) (cz : Int32) (sf : Value) (F : Facts Z cz sf) (hm : Two m) (hik : Four ik) (hfk : Four fk) (hep : Two ep) (hes : Three es) (hen : Three en) (htp : Two tp) (ht : RC t) (ht0 : ik = 0 → dgt t = 0) :
    Go l Z x code maxLocals ret room_1 n0 (fun v _ => v = some (.int 1)) h 0 0 91 #[.val (.int x0), .val (.long w), .second, .val (.int tc), .val (.int pr), .val (.int m), .val (.int ik), .val (.int fk), .val (.int ep), .val (.int big), .val (.int es), .val (.int en), .val (.int tp), .val (.int t), .unset, .unset, .unset, .unset, .unset, .unset, .unset, .unset, .unset, .unset, .unset, .unset, .unset] [] := by
  refine Go.iload at_91 (q := 93) rfl rfl ?_
  refine Go.if_ne at_93 (q := 100) (q' := 96) (by decide) rfl rfl (fun c218 => ?_) (fun c218 => ?_)
  · skip
    refine Go.iload at_100 (q := 102) rfl rfl ?_
    refine Go.iconst at_102 (q := 103) rfl (x := (3 : Int32)) (by decide) ?_
    refine Go.icmp_ne at_103 (q := 110) (q' := 106) (by decide) rfl rfl (fun c219 => ?_) (fun c219 => ?_)
    · skip
      refine Go.iconst at_110 (q := 111) rfl (x := (1 : Int32)) (by decide) ?_
      refine Go.istore at_111 (q := 113) rfl (Ls' := #[.val (.int x0), .val (.long w), .second, .val (.int tc), .val (.int pr), .val (.int m), .val (.int ik), .val (.int fk), .val (.int ep), .val (.int big), .val (.int es), .val (.int en), .val (.int tp), .val (.int t), .val (.int (1 : Int32)), .unset, .unset, .unset, .unset, .unset, .unset, .unset, .unset, .unset, .unset, .unset, .unset]) rfl ?_
      exact law113 l Z a0 hw n0 h O x0 w tc pr m ik fk ep big es en tp t _ cz sf F hm hik hfk hep hes hen htp ht ht0 ((if_neg c218).trans (if_neg c219)).symm
    · skip
      refine Go.iconst at_106 (q := 107) rfl (x := (3 : Int32)) (by decide) ?_
      refine Go.goto at_107 (q := 111) (by decide) rfl ?_
      refine Go.istore at_111 (q := 113) rfl (Ls' := #[.val (.int x0), .val (.long w), .second, .val (.int tc), .val (.int pr), .val (.int m), .val (.int ik), .val (.int fk), .val (.int ep), .val (.int big), .val (.int es), .val (.int en), .val (.int tp), .val (.int t), .val (.int (3 : Int32)), .unset, .unset, .unset, .unset, .unset, .unset, .unset, .unset, .unset, .unset, .unset, .unset]) rfl ?_
      exact law113 l Z a0 hw n0 h O x0 w tc pr m ik fk ep big es en tp t _ cz sf F hm hik hfk hep hes hen htp ht ht0 ((if_neg c218).trans (if_pos c219)).symm
  · skip
    refine Go.iconst at_96 (q := 97) rfl (x := (0 : Int32)) (by decide) ?_
    refine Go.goto at_97 (q := 111) (by decide) rfl ?_
    refine Go.istore at_111 (q := 113) rfl (Ls' := #[.val (.int x0), .val (.long w), .second, .val (.int tc), .val (.int pr), .val (.int m), .val (.int ik), .val (.int fk), .val (.int ep), .val (.int big), .val (.int es), .val (.int en), .val (.int tp), .val (.int t), .val (.int (0 : Int32)), .unset, .unset, .unset, .unset, .unset, .unset, .unset, .unset, .unset, .unset, .unset, .unset]) rfl ?_
    exact law113 l Z a0 hw n0 h O x0 w tc pr m ik fk ep big es en tp t _ cz sf F hm hik hfk hep hes hen htp ht ht0 (if_pos c218).symm
set_option maxRecDepth 65536 in
set_option maxHeartbeats 40000000 in
theorem b0 (l : Launch) (Z : State) (a0 : Array Value) (hw : Hw a0 Z) (n0 : Nat) (h : Heap) (O : Old Z n0 h) (x0 : Int32) (w : Int64) (tc pr : Int32) (cz : Int32) (sf : Value) (F : Facts Z cz sf) :
    Go l Z x code maxLocals ret room_1 n0 (fun v _ => v = some (.int 1)) h 0 0 0 #[.val (.int x0), .val (.long w), .second, .val (.int tc), .val (.int pr), .unset, .unset, .unset, .unset, .unset, .unset, .unset, .unset, .unset, .unset, .unset, .unset, .unset, .unset, .unset, .unset, .unset, .unset, .unset, .unset, .unset, .unset] [] := by
  refine Go.iloadN at_0 (q := 1) rfl rfl ?_
  refine Go.iconst at_1 (q := 2) rfl (x := (1 : Int32)) (by decide) ?_
  refine Go.iand at_2 (q := 3) rfl ?_
  refine Go.istore at_3 (q := 5) rfl (Ls' := #[.val (.int x0), .val (.long w), .second, .val (.int tc), .val (.int pr), .val (.int (x0 &&& (1 : Int32))), .unset, .unset, .unset, .unset, .unset, .unset, .unset, .unset, .unset, .unset, .unset, .unset, .unset, .unset, .unset, .unset, .unset, .unset, .unset, .unset, .unset]) rfl ?_
  refine Go.iloadN at_5 (q := 6) rfl rfl ?_
  refine Go.iconst at_6 (q := 7) rfl (x := (1 : Int32)) (by decide) ?_
  refine Go.iushr at_7 (q := 8) rfl ?_
  refine Go.iconst at_8 (q := 9) rfl (x := (3 : Int32)) (by decide) ?_
  refine Go.iand at_9 (q := 10) rfl ?_
  refine Go.istore at_10 (q := 12) rfl (Ls' := #[.val (.int x0), .val (.long w), .second, .val (.int tc), .val (.int pr), .val (.int (x0 &&& (1 : Int32))), .val (.int ((XT.ushr x0 (1 : Int32)) &&& (3 : Int32))), .unset, .unset, .unset, .unset, .unset, .unset, .unset, .unset, .unset, .unset, .unset, .unset, .unset, .unset, .unset, .unset, .unset, .unset, .unset, .unset]) rfl ?_
  refine Go.iloadN at_12 (q := 13) rfl rfl ?_
  refine Go.iconst at_13 (q := 14) rfl (x := (3 : Int32)) (by decide) ?_
  refine Go.iushr at_14 (q := 15) rfl ?_
  refine Go.iconst at_15 (q := 16) rfl (x := (3 : Int32)) (by decide) ?_
  refine Go.iand at_16 (q := 17) rfl ?_
  refine Go.istore at_17 (q := 19) rfl (Ls' := #[.val (.int x0), .val (.long w), .second, .val (.int tc), .val (.int pr), .val (.int (x0 &&& (1 : Int32))), .val (.int ((XT.ushr x0 (1 : Int32)) &&& (3 : Int32))), .val (.int ((XT.ushr x0 (3 : Int32)) &&& (3 : Int32))), .unset, .unset, .unset, .unset, .unset, .unset, .unset, .unset, .unset, .unset, .unset, .unset, .unset, .unset, .unset, .unset, .unset, .unset, .unset]) rfl ?_
  refine Go.iloadN at_19 (q := 20) rfl rfl ?_
  refine Go.iconst at_20 (q := 21) rfl (x := (5 : Int32)) (by decide) ?_
  refine Go.iushr at_21 (q := 22) rfl ?_
  refine Go.iconst at_22 (q := 23) rfl (x := (1 : Int32)) (by decide) ?_
  refine Go.iand at_23 (q := 24) rfl ?_
  refine Go.istore at_24 (q := 26) rfl (Ls' := #[.val (.int x0), .val (.long w), .second, .val (.int tc), .val (.int pr), .val (.int (x0 &&& (1 : Int32))), .val (.int ((XT.ushr x0 (1 : Int32)) &&& (3 : Int32))), .val (.int ((XT.ushr x0 (3 : Int32)) &&& (3 : Int32))), .val (.int ((XT.ushr x0 (5 : Int32)) &&& (1 : Int32))), .unset, .unset, .unset, .unset, .unset, .unset, .unset, .unset, .unset, .unset, .unset, .unset, .unset, .unset, .unset, .unset, .unset, .unset]) rfl ?_
  refine Go.iloadN at_26 (q := 27) rfl rfl ?_
  refine Go.bipush at_27 (q := 29) rfl (x := (6 : Int32)) (by decide) ?_
  refine Go.iushr at_29 (q := 30) rfl ?_
  refine Go.iconst at_30 (q := 31) rfl (x := (1 : Int32)) (by decide) ?_
  refine Go.iand at_31 (q := 32) rfl ?_
  refine Go.istore at_32 (q := 34) rfl (Ls' := #[.val (.int x0), .val (.long w), .second, .val (.int tc), .val (.int pr), .val (.int (x0 &&& (1 : Int32))), .val (.int ((XT.ushr x0 (1 : Int32)) &&& (3 : Int32))), .val (.int ((XT.ushr x0 (3 : Int32)) &&& (3 : Int32))), .val (.int ((XT.ushr x0 (5 : Int32)) &&& (1 : Int32))), .val (.int ((XT.ushr x0 (6 : Int32)) &&& (1 : Int32))), .unset, .unset, .unset, .unset, .unset, .unset, .unset, .unset, .unset, .unset, .unset, .unset, .unset, .unset, .unset, .unset, .unset]) rfl ?_
  refine Go.iloadN at_34 (q := 35) rfl rfl ?_
  refine Go.bipush at_35 (q := 37) rfl (x := (7 : Int32)) (by decide) ?_
  refine Go.iushr at_37 (q := 38) rfl ?_
  refine Go.iconst at_38 (q := 39) rfl (x := (3 : Int32)) (by decide) ?_
  refine Go.iand at_39 (q := 40) rfl ?_
  refine Go.iconst at_40 (q := 41) rfl (x := (3 : Int32)) (by decide) ?_
  refine Go.irem at_41 (q := 42) rfl (by decide) ?_
  refine Go.istore at_42 (q := 44) rfl (Ls' := #[.val (.int x0), .val (.long w), .second, .val (.int tc), .val (.int pr), .val (.int (x0 &&& (1 : Int32))), .val (.int ((XT.ushr x0 (1 : Int32)) &&& (3 : Int32))), .val (.int ((XT.ushr x0 (3 : Int32)) &&& (3 : Int32))), .val (.int ((XT.ushr x0 (5 : Int32)) &&& (1 : Int32))), .val (.int ((XT.ushr x0 (6 : Int32)) &&& (1 : Int32))), .val (.int (((XT.ushr x0 (7 : Int32)) &&& (3 : Int32)) % (3 : Int32))), .unset, .unset, .unset, .unset, .unset, .unset, .unset, .unset, .unset, .unset, .unset, .unset, .unset, .unset, .unset, .unset]) rfl ?_
  refine Go.iloadN at_44 (q := 45) rfl rfl ?_
  refine Go.bipush at_45 (q := 47) rfl (x := (9 : Int32)) (by decide) ?_
  refine Go.iushr at_47 (q := 48) rfl ?_
  refine Go.iconst at_48 (q := 49) rfl (x := (3 : Int32)) (by decide) ?_
  refine Go.iand at_49 (q := 50) rfl ?_
  refine Go.iconst at_50 (q := 51) rfl (x := (3 : Int32)) (by decide) ?_
  refine Go.irem at_51 (q := 52) rfl (by decide) ?_
  refine Go.istore at_52 (q := 54) rfl (Ls' := #[.val (.int x0), .val (.long w), .second, .val (.int tc), .val (.int pr), .val (.int (x0 &&& (1 : Int32))), .val (.int ((XT.ushr x0 (1 : Int32)) &&& (3 : Int32))), .val (.int ((XT.ushr x0 (3 : Int32)) &&& (3 : Int32))), .val (.int ((XT.ushr x0 (5 : Int32)) &&& (1 : Int32))), .val (.int ((XT.ushr x0 (6 : Int32)) &&& (1 : Int32))), .val (.int (((XT.ushr x0 (7 : Int32)) &&& (3 : Int32)) % (3 : Int32))), .val (.int (((XT.ushr x0 (9 : Int32)) &&& (3 : Int32)) % (3 : Int32))), .unset, .unset, .unset, .unset, .unset, .unset, .unset, .unset, .unset, .unset, .unset, .unset, .unset, .unset, .unset]) rfl ?_
  refine Go.iloadN at_54 (q := 55) rfl rfl ?_
  refine Go.bipush at_55 (q := 57) rfl (x := (11 : Int32)) (by decide) ?_
  refine Go.iushr at_57 (q := 58) rfl ?_
  refine Go.iconst at_58 (q := 59) rfl (x := (1 : Int32)) (by decide) ?_
  refine Go.iand at_59 (q := 60) rfl ?_
  refine Go.istore at_60 (q := 62) rfl (Ls' := #[.val (.int x0), .val (.long w), .second, .val (.int tc), .val (.int pr), .val (.int (x0 &&& (1 : Int32))), .val (.int ((XT.ushr x0 (1 : Int32)) &&& (3 : Int32))), .val (.int ((XT.ushr x0 (3 : Int32)) &&& (3 : Int32))), .val (.int ((XT.ushr x0 (5 : Int32)) &&& (1 : Int32))), .val (.int ((XT.ushr x0 (6 : Int32)) &&& (1 : Int32))), .val (.int (((XT.ushr x0 (7 : Int32)) &&& (3 : Int32)) % (3 : Int32))), .val (.int (((XT.ushr x0 (9 : Int32)) &&& (3 : Int32)) % (3 : Int32))), .val (.int ((XT.ushr x0 (11 : Int32)) &&& (1 : Int32))), .unset, .unset, .unset, .unset, .unset, .unset, .unset, .unset, .unset, .unset, .unset, .unset, .unset, .unset]) rfl ?_
  refine Go.iloadN at_62 (q := 63) rfl rfl ?_
  refine Go.sipush at_63 (q := 66) rfl (x := (255 : Int32)) (by decide) ?_
  refine Go.iand at_66 (q := 67) rfl ?_
  refine Go.i2c at_67 (q := 68) rfl ?_
  refine Go.istore at_68 (q := 70) rfl (Ls' := #[.val (.int x0), .val (.long w), .second, .val (.int tc), .val (.int pr), .val (.int (x0 &&& (1 : Int32))), .val (.int ((XT.ushr x0 (1 : Int32)) &&& (3 : Int32))), .val (.int ((XT.ushr x0 (3 : Int32)) &&& (3 : Int32))), .val (.int ((XT.ushr x0 (5 : Int32)) &&& (1 : Int32))), .val (.int ((XT.ushr x0 (6 : Int32)) &&& (1 : Int32))), .val (.int (((XT.ushr x0 (7 : Int32)) &&& (3 : Int32)) % (3 : Int32))), .val (.int (((XT.ushr x0 (9 : Int32)) &&& (3 : Int32)) % (3 : Int32))), .val (.int ((XT.ushr x0 (11 : Int32)) &&& (1 : Int32))), .val (.int (tc &&& (255 : Int32)).toUInt32.toUInt16.toUInt32.toInt32), .unset, .unset, .unset, .unset, .unset, .unset, .unset, .unset, .unset, .unset, .unset, .unset, .unset]) rfl ?_
  refine Go.iload at_70 (q := 72) rfl rfl ?_
  refine Go.if_ne at_72 (q := 91) (q' := 75) (by decide) rfl rfl (fun c220 => ?_) (fun c220 => ?_)
  · skip
    exact law91 l Z a0 hw n0 h O x0 w tc pr (x0 &&& (1 : Int32)) ((XT.ushr x0 (1 : Int32)) &&& (3 : Int32)) ((XT.ushr x0 (3 : Int32)) &&& (3 : Int32)) ((XT.ushr x0 (5 : Int32)) &&& (1 : Int32)) ((XT.ushr x0 (6 : Int32)) &&& (1 : Int32)) (((XT.ushr x0 (7 : Int32)) &&& (3 : Int32)) % (3 : Int32)) (((XT.ushr x0 (9 : Int32)) &&& (3 : Int32)) % (3 : Int32)) ((XT.ushr x0 (11 : Int32)) &&& (1 : Int32)) (tc &&& (255 : Int32)).toUInt32.toUInt16.toUInt32.toInt32 cz sf F (two_of _) (four_of _) (four_of _) (two_of _) (three_of _) (three_of _) (two_of _) (ch255 _).1 (fun e => absurd e c220)
  · skip
    refine Go.iload at_75 (q := 77) rfl rfl ?_
    refine Go.callSV (P := fun w_ h' => w_ = .int (dgl (tc &&& (255 : Int32)).toUInt32.toUInt16.toUInt32.toInt32) ∧ h = h') (argsL := [(.int (tc &&& (255 : Int32)).toUInt32.toUInt16.toUInt32.toInt32)]) (rest := []) (wd := 0) (Ls1 := #[.val (.int (tc &&& (255 : Int32)).toUInt32.toUInt16.toUInt32.toInt32)]) at_77 (q := 80) rfl (w0 hw) (w1 hw) (w2 hw) (w3 hw) (by decide) pn1 pd1 rfl rfl (fun m_ => by simp [entryFrame, mkF, argsToLocals, Value.category]) rfl (by decide) rfl (by decide) (by decide) (by decide) (b1 l Z a0 hw n0 h (tc &&& (255 : Int32)).toUInt32.toUInt16.toUInt32.toInt32 (Q := RV (fun w_ h' => w_ = .int (dgl (tc &&& (255 : Int32)).toUInt32.toUInt16.toUInt32.toInt32) ∧ h = h')) ⟨_, rfl, rfl, rfl⟩) ?_
    rintro _ _ ⟨rfl, rfl⟩
    refine Go.if_eq at_80 (q := 91) (q' := 83) (by decide) rfl rfl (fun c221 => ?_) (fun c221 => ?_)
    · skip
      exact law91 l Z a0 hw n0 h O x0 w tc pr (x0 &&& (1 : Int32)) ((XT.ushr x0 (1 : Int32)) &&& (3 : Int32)) ((XT.ushr x0 (3 : Int32)) &&& (3 : Int32)) ((XT.ushr x0 (5 : Int32)) &&& (1 : Int32)) ((XT.ushr x0 (6 : Int32)) &&& (1 : Int32)) (((XT.ushr x0 (7 : Int32)) &&& (3 : Int32)) % (3 : Int32)) (((XT.ushr x0 (9 : Int32)) &&& (3 : Int32)) % (3 : Int32)) ((XT.ushr x0 (11 : Int32)) &&& (1 : Int32)) (tc &&& (255 : Int32)).toUInt32.toUInt16.toUInt32.toInt32 cz sf F (two_of _) (four_of _) (four_of _) (two_of _) (three_of _) (three_of _) (two_of _) (ch255 _).1 (fun _ => c221)
    · skip
      refine Go.iload at_83 (q := 85) rfl rfl ?_
      refine Go.bipush at_85 (q := 87) rfl (x := (10 : Int32)) (by decide) ?_
      refine Go.iadd at_87 (q := 88) rfl ?_
      refine Go.i2c at_88 (q := 89) rfl ?_
      refine Go.istore at_89 (q := 91) rfl (Ls' := #[.val (.int x0), .val (.long w), .second, .val (.int tc), .val (.int pr), .val (.int (x0 &&& (1 : Int32))), .val (.int ((XT.ushr x0 (1 : Int32)) &&& (3 : Int32))), .val (.int ((XT.ushr x0 (3 : Int32)) &&& (3 : Int32))), .val (.int ((XT.ushr x0 (5 : Int32)) &&& (1 : Int32))), .val (.int ((XT.ushr x0 (6 : Int32)) &&& (1 : Int32))), .val (.int (((XT.ushr x0 (7 : Int32)) &&& (3 : Int32)) % (3 : Int32))), .val (.int (((XT.ushr x0 (9 : Int32)) &&& (3 : Int32)) % (3 : Int32))), .val (.int ((XT.ushr x0 (11 : Int32)) &&& (1 : Int32))), .val (.int ((tc &&& (255 : Int32)).toUInt32.toUInt16.toUInt32.toInt32 + (10 : Int32)).toUInt32.toUInt16.toUInt32.toInt32), .unset, .unset, .unset, .unset, .unset, .unset, .unset, .unset, .unset, .unset, .unset, .unset, .unset]) rfl ?_
      exact law91 l Z a0 hw n0 h O x0 w tc pr (x0 &&& (1 : Int32)) ((XT.ushr x0 (1 : Int32)) &&& (3 : Int32)) ((XT.ushr x0 (3 : Int32)) &&& (3 : Int32)) ((XT.ushr x0 (5 : Int32)) &&& (1 : Int32)) ((XT.ushr x0 (6 : Int32)) &&& (1 : Int32)) (((XT.ushr x0 (7 : Int32)) &&& (3 : Int32)) % (3 : Int32)) (((XT.ushr x0 (9 : Int32)) &&& (3 : Int32)) % (3 : Int32)) ((XT.ushr x0 (11 : Int32)) &&& (1 : Int32)) ((tc &&& (255 : Int32)).toUInt32.toUInt16.toUInt32.toInt32 + (10 : Int32)).toUInt32.toUInt16.toUInt32.toInt32 cz sf F (two_of _) (four_of _) (four_of _) (two_of _) (three_of _) (three_of _) (two_of _) ((ch255 _).2 ((dgt_01 _).resolve_left c221)).1 (fun _ => ((ch255 _).2 ((dgt_01 _).resolve_left c221)).2)
set_option maxRecDepth 65536 in
set_option maxHeartbeats 40000000 in
theorem comes_1 {Post : Tables → Env → Array Value → State → Outcome → State → Prop} (hpost : ∀ tb e args s v u, (limb_1_1.after args s (.returned v) u = true ∧ limb_1_2.after args s (.returned v) u = true ∧ True) → FrameEnd s (.returned v) u (Jvm.fieldLocs frame_1_writes args s ++ Jvm.arrayLocs frame_1_arrays args s ++ Jvm.staticLocs frame_1_statics s) 16 128 → Post tb e args s (.returned v) u) :
    ArmFor flags0 classFile x code maxLocals ret World_1 tables_1 room_1 Calls_1 rest_1 Pre_1 Post := by
  intro l hfl _ _ p e ha hc hk s m args below hf hA hF happ hP
  obtain ⟨hcalls, hrest, hpre⟩ := hP
  obtain ⟨-, -, -, hnamed, -, -, -, hat⟩ := (Spec.applies_iff hf).mp happ
  obtain ⟨hg, hn⟩ := and_e (Jvm.Cond.before_iff.mp (show (Jvm.Cond.and given_1 narrow_1).before args s = true from hpre))
  obtain ⟨g0, hg⟩ := and_e hg
  obtain ⟨g1, hg⟩ := and_e hg
  obtain ⟨g2, hg⟩ := and_e hg
  obtain ⟨g3, hg⟩ := and_e hg
  have g4 := hg
  obtain ⟨v0, v1, v2, v3, rfl⟩ : ∃ v0 v1 v2 v3 : Value, args = #[v0, v1, v2, v3] := by
    have hs : args.size = 4 := by simpa [Jvm.Cond.value, given_1] using g0
    obtain ⟨L⟩ := args
    match L, hs with
    | [v0, v1, v2, v3], _ => exact ⟨v0, v1, v2, v3, rfl⟩
  have hw : Hw _ s := fun d (hd : d ∈ tables_1) => atoms_spec (ws := Jvm.Cond.code x code maxLocals ret :: tables_1) hat d (List.mem_cons_of_mem _ hd)
  have hfit : Fit s := fun {y c} hc i hi => by
    obtain ⟨ha, rfl⟩ := Array.getElem?_eq_some_iff.mp hc
    have q := List.all_eq_true.mp ((Array.all_eq_true_iff_forall_mem.mp hF) _ (Array.getElem_mem ha)) i (List.mem_range.mpr hi)
    simpa [Array.getElem?_eq_getElem hi] using q
  obtain ⟨x0, e0⟩ := is_v g1
  obtain rfl : v0 = (.int x0) := Option.some.inj e0
  obtain ⟨x1, e1⟩ := isL_v g2
  obtain rfl : v1 = (.long x1) := Option.some.inj e1
  obtain ⟨x2, e2⟩ := is_v g3
  obtain rfl : v2 = (.int x2) := Option.some.inj e2
  obtain ⟨x3, e3⟩ := is_v g4
  obtain rfl : v3 = (.int x3) := Option.some.inj e3
  obtain ⟨hsets, hown0⟩ := atoms_of _ (rest_1_c_eq ▸ (show rest_1_c.before _ s = true from hrest))
  obtain ⟨cz, ecz⟩ := is_v (Jvm.Cond.before_iff.mp (hsets _ (List.mem_of_getElem? (i := 1) rfl)))
  have S_cs : Sta s s.heap "java/lang/String" "COMPACT_STRINGS" "Z" (.int cz) := Sta.start ecz (Or.inl (hsets _ (List.mem_of_getElem? (i := 0) rfl)))
  have N_cs : ¬ cz = 0 := fun e => by subst e; have r := not_v (Jvm.Cond.before_iff.mp (hsets _ (List.mem_of_getElem? (i := 2) rfl))); have q := eq_i ecz (Term.int_eval (0)) rfl; rw [q] at r; cases r
  obtain ⟨sf, esf, R_sf⟩ := isR_v (Jvm.Cond.before_iff.mp (hsets _ (List.mem_of_getElem? (i := 8) rfl)))
  have S_sf : Sta s s.heap "jdk/internal/util/Preconditions" "SIOOBE_FORMATTER" "Ljava/util/function/BiFunction;" sf := Sta.start esf (Or.inl (hsets _ (List.mem_of_getElem? (i := 7) rfl)))
  have G := b0 l s _ hw s.heap.size s.heap (Old.start s) x0 x1 x2 x3 cz sf (show Facts s cz sf from ⟨S_cs, N_cs, S_sf, R_sf⟩)
  obtain ⟨n, o, h1, h2, h3, _, L, rfl, ⟨N, rfl⟩, hq⟩ := (G.met pn0 (fun m => by simp [entryFrame, mkF, argsToLocals, Value.category, maxLocals]) tables_1) p e ha hc hk s m _ below hf ((Spec.applies_iff_loose hf).mp happ).1 ⟨rfl, State.Warmed39.refl s, rfl⟩ trivial
  refine ⟨n, _, h1, h2, h3, hpost _ _ _ _ _ _ ⟨Jvm.Cond.after_iff.mpr rfl, Jvm.Cond.after_iff.mpr (eq_i res_at (Term.int_eval (1)) rfl), trivial⟩ ⟨hq.1, hq.2.1, (hq.2.2.sift fun y hy => Or.inr (N y hy)).mono (by decide) (by decide)⟩⟩
theorem main_1_1 : Claimed_1_1 := comes_1 fun _ _ _ _ _ _ h hF => ⟨h.1, hF⟩
theorem main_1_2 : Claimed_1_2 := comes_1 fun _ _ _ _ _ _ h hF => ⟨h.2.1, hF⟩
end Jvm.Pilot.@@N@@
namespace Jvm.Pilot.@@N@@
open Jvm Jvm.ClassFile Sem Op Lib Jvm.Free Jvm.Stand Jvm.Pilot.@@N@@.Jvm.D
/-! MADE BY PROGRAM (witnessworld.py) out of the Statement's table words and the real class files: 20 classes; the members and pool entries that the words name. The judged class is class 1, her method 4. -/
namespace start1
open Jvm.ClassFile
def u (s : String) : CpInfo := .utf8 (stringToUtf16 s)
/-- a pool by its gaps: so many unusable entries, then the entry; so many at the end -/
def gap : Nat → List CpInfo → List CpInfo
  | 0, r => r
  | n + 1, r => .unusable :: gap n r
def poolList (es : List (Nat × CpInfo)) (last : Nat) : List CpInfo := es.foldr (fun e r => gap e.1 (e.2 :: r)) (gap last [])
def pool (es : List (Nat × CpInfo)) (last : Nat) : Array CpInfo := ⟨poolList es last⟩
def fileOf (pool : Array CpInfo) (this : Nat) (attrs : Array Attribute := #[]) (ms : Array MethodInfo := #[]) (fl : Nat := 33) (sup : Nat := 0) (ifs : Array Nat := #[]) (fds : Array FieldInfo := #[]) : ClassFile where
  minorVersion := 0
  majorVersion := 65
  constantPool := pool
  accessFlags := fl
  thisClass := this
  superClass := sup
  interfaces := ifs
  fields := fds
  methods := ms
  attributes := attrs
def plain (name : String) (sup : Option ClassId) : Class where
  name := name
  kind := .ordinary
  loader := none
  accessFlags := 33
  super := sup
  interfaces := #[]
  cf := none
  fields := #[]
  methods := #[]
  instanceTypes := #[]
  staticTypes := #[]
  resolved := #[]
  callSites := []
  init := .initialized
  statics := none
  mirror := none

def pool0 : Array CpInfo := pool [(5, u "<init>"), (0, u "()V"), (1, .class_ 10), (1, u "java/lang/Object")] 113

def k0c0 : Code := { maxStack := 0, maxLocals := 1, code := object_method_1_code, exceptionTable := #[], attributes := #[] }
def k0m0 : Method := { name := "<init>", desc := "()V", sig := { parameters := [], returnType := none }, accessFlags := 1, code := some k0c0 }
/-- java/lang/Object -/
def k0 : Class := { plain "java/lang/Object" none with
  accessFlags := 33
  interfaces := #[]
  cf := some (fileOf pool0 8 #[] #[{ accessFlags := 1, nameIndex := 5, descriptorIndex := 6, attributes := #[] }] 33 0 #[] #[])
  fields := #[]
  methods := #[k0m0]
  instanceTypes := #[]
  staticTypes := #[]
  resolved := Array.replicate 124 none
  statics := none }

def pool1 : Array CpInfo := pool [(2, .class_ 4), (1, u "java/lang/Object"), (0, u "<init>"), (0, u "()V"), (0, .long 255), (1, .long 10), (1, .long 9), (1, .methodref 14 15), (0, .class_ 16), (0, .nameAndType 17 18), (0, u "com/example/spanforge/spanforge/json/NumberTextScanJsonPinLaw"), (0, u "isDig"), (0, u "(C)Z"), (0, .methodref 14 20), (0, .nameAndType 21 22), (0, u "nz"), (0, u "(J)C"), (0, .methodref 14 24), (0, .nameAndType 25 26), (0, u "dg"), (0, u "(JI)C"), (0, .class_ 28), (0, u "java/lang/String"), (0, .methodref 27 30), (0, .nameAndType 5 31), (0, u "([C)V"), (0, .methodref 33 34), (0, .class_ 35), (0, .nameAndType 36 37), (0, u "com/example/spanforge/spanforge/json/NumberText"), (0, u "scanJson"), (0, u "(Ljava/lang/CharSequence;I)I"), (3, u "law"), (0, u "(IJII)Z")] 4

def k1m0 : Method := { name := "<init>", desc := "()V", sig := { parameters := [], returnType := none }, accessFlags := 2, code := none }
def k1c1 : Code := { maxStack := 2, maxLocals := 1, code := method_2_code, exceptionTable := #[], attributes := #[] }
def k1m1 : Method := { name := "isDig", desc := "(C)Z", sig := { parameters := [.char], returnType := some .boolean }, accessFlags := 10, code := some k1c1 }
def k1c2 : Code := { maxStack := 5, maxLocals := 3, code := method_3_code, exceptionTable := #[], attributes := #[] }
def k1m2 : Method := { name := "dg", desc := "(JI)C", sig := { parameters := [.long, .int], returnType := some .char }, accessFlags := 10, code := some k1c2 }
def k1c3 : Code := { maxStack := 5, maxLocals := 2, code := method_4_code, exceptionTable := #[], attributes := #[] }
def k1m3 : Method := { name := "nz", desc := "(J)C", sig := { parameters := [.long], returnType := some .char }, accessFlags := 10, code := some k1c3 }
def k1c4 : Code := { maxStack := 5, maxLocals := 27, code := code, exceptionTable := #[], attributes := #[] }
def k1m4 : Method := { name := "law", desc := "(IJII)Z", sig := { parameters := [.int, .long, .int, .int], returnType := some .boolean }, accessFlags := 9, code := some k1c4 }
/-- com/example/spanforge/spanforge/json/NumberTextScanJsonPinLaw -/
def k1 : Class := { plain "com/example/spanforge/spanforge/json/NumberTextScanJsonPinLaw" (some 0) with
  accessFlags := 49
  interfaces := #[]
  cf := some (fileOf pool1 14 #[] #[{ accessFlags := 2, nameIndex := 5, descriptorIndex := 6, attributes := #[] }, { accessFlags := 10, nameIndex := 17, descriptorIndex := 18, attributes := #[] }, { accessFlags := 10, nameIndex := 25, descriptorIndex := 26, attributes := #[] }, { accessFlags := 10, nameIndex := 21, descriptorIndex := 22, attributes := #[] }, { accessFlags := 9, nameIndex := 41, descriptorIndex := 42, attributes := #[] }] 49 2 #[] #[])
  fields := #[]
  methods := #[k1m0, k1m1, k1m2, k1m3, k1m4]
  instanceTypes := #[]
  staticTypes := #[]
  resolved := Array.replicate 47 none
  statics := none }

def pool2 : Array CpInfo := pool [(1, .class_ 2), (0, u "java/io/Serializable"), (0, .class_ 4), (0, u "java/lang/Object")] 2

/-- java/io/Serializable -/
def k2 : Class := { plain "java/io/Serializable" (some 0) with
  accessFlags := 1537
  interfaces := #[]
  cf := some (fileOf pool2 1 #[] #[] 1537 3 #[] #[])
  fields := #[]
  methods := #[]
  instanceTypes := #[]
  staticTypes := #[]
  resolved := Array.replicate 7 none
  statics := none }

def pool3 : Array CpInfo := pool [(1, .class_ 2), (0, u "java/lang/Comparable"), (0, .class_ 4), (0, u "java/lang/Object")] 7

/-- java/lang/Comparable -/
def k3 : Class := { plain "java/lang/Comparable" (some 0) with
  accessFlags := 1537
  interfaces := #[]
  cf := some (fileOf pool3 1 #[] #[] 1537 3 #[] #[])
  fields := #[]
  methods := #[]
  instanceTypes := #[]
  staticTypes := #[]
  resolved := Array.replicate 12 none
  statics := none }

def pool4 : Array CpInfo := pool [(2, .class_ 4), (1, u "java/lang/CharSequence"), (0, u "length"), (0, u "()I"), (38, u "charAt"), (0, u "(I)C"), (0, .class_ 48), (0, u "java/lang/CharSequence$1CodePointIterator"), (10, .class_ 60), (0, u "java/lang/CharSequence$1CharIterator"), (5, .class_ 67), (0, u "java/lang/Object")] 63

def k4m0 : Method := { name := "length", desc := "()I", sig := { parameters := [], returnType := some .int }, accessFlags := 1025, code := none }
def k4m1 : Method := { name := "charAt", desc := "(I)C", sig := { parameters := [.int], returnType := some .char }, accessFlags := 1025, code := none }
/-- java/lang/CharSequence -/
def k4 : Class := { plain "java/lang/CharSequence" (some 0) with
  accessFlags := 1537
  interfaces := #[]
  cf := some (fileOf pool4 2 #[.nestMembers #[47, 59]] #[{ accessFlags := 1025, nameIndex := 5, descriptorIndex := 6, attributes := #[] }, { accessFlags := 1025, nameIndex := 45, descriptorIndex := 46, attributes := #[] }] 1537 66 #[] #[])
  fields := #[]
  methods := #[k4m0, k4m1]
  instanceTypes := #[]
  staticTypes := #[]
  resolved := Array.replicate 131 none
  statics := none }

def pool5 : Array CpInfo := pool [(1, .class_ 2), (0, u "java/lang/constant/Constable"), (0, .class_ 4), (0, u "java/lang/Object")] 6

/-- java/lang/constant/Constable -/
def k5 : Class := { plain "java/lang/constant/Constable" (some 0) with
  accessFlags := 1537
  interfaces := #[]
  cf := some (fileOf pool5 1 #[] #[] 1537 3 #[] #[])
  fields := #[]
  methods := #[]
  instanceTypes := #[]
  staticTypes := #[]
  resolved := Array.replicate 11 none
  statics := none }

def pool6 : Array CpInfo := pool [(1, .class_ 2), (0, u "java/lang/constant/ConstantDesc"), (0, .class_ 4), (0, u "java/lang/Object")] 32

/-- java/lang/constant/ConstantDesc -/
def k6 : Class := { plain "java/lang/constant/ConstantDesc" (some 0) with
  accessFlags := 1537
  interfaces := #[]
  cf := some (fileOf pool6 1 #[] #[] 1537 3 #[] #[])
  fields := #[]
  methods := #[]
  instanceTypes := #[]
  staticTypes := #[]
  resolved := Array.replicate 37 none
  statics := none }

def pool7 : Array CpInfo := pool [(1, .methodref 2 3), (0, .class_ 4), (0, .nameAndType 5 6), (0, u "java/lang/Object"), (0, u "<init>"), (0, u "()V"), (2, .fieldref 10 11), (0, .class_ 12), (0, .nameAndType 13 14), (0, u "java/lang/String"), (0, u "value"), (0, u "[B"), (0, .fieldref 10 16), (0, .nameAndType 17 18), (0, u "coder"), (0, u "B"), (2, u "hash"), (0, u "I"), (2, u "hashIsZero"), (0, u "Z"), (0, .methodref 10 28), (0, .nameAndType 5 29), (0, u "([CIILjava/lang/Void;)V"), (8, .fieldref 10 39), (0, .nameAndType 40 26), (0, u "COMPACT_STRINGS"), (1, .class_ 44), (1, u "java/lang/StringUTF16"), (0, u "compress"), (1, .methodref 42 48), (0, .nameAndType 49 50), (0, u "coderFromArrayLen"), (0, u "([BI)B"), (56, .class_ 109), (1, u "java/lang/StringLatin1"), (32, u "()Z"), (34, .methodref 42 178), (0, .nameAndType 45 179), (0, u "([CII)[B"), (154, u "()I"), (0, .methodref 10 336), (0, .nameAndType 17 337), (0, u "()B"), (25, u "([BI)C"), (27, u "(II)V"), (35, u "(I)C"), (64, .methodref 10 493), (0, .nameAndType 494 142), (0, u "isLatin1"), (0, .methodref 107 496), (0, .nameAndType 497 363), (0, u "charAt"), (3, u "checkIndex"), (5, u "length"), (67, .class_ 576), (0, u "java/lang/CharSequence"), (22, u "CASE_INSENSITIVE_ORDER"), (0, u "Ljava/util/Comparator;"), (409, u "([C)V"), (42, .fieldref 1054 1055), (0, .class_ 1056), (0, .nameAndType 1057 1058), (0, u "jdk/internal/util/Preconditions"), (0, u "SIOOBE_FORMATTER"), (0, u "Ljava/util/function/BiFunction;"), (0, .methodref 1054 1060), (0, .nameAndType 501 1061), (0, u "(IILjava/util/function/BiFunction;)I"), (39, u "serialPersistentFields"), (0, u "[Ljava/io/ObjectStreamField;"), (0, .class_ 1104), (0, u "java/lang/String$CaseInsensitiveComparator"), (1, .class_ 1107), (0, u "java/io/Serializable"), (0, .class_ 1109), (0, u "java/lang/Comparable"), (0, .class_ 1111), (0, u "java/lang/constant/Constable"), (0, .class_ 1113), (0, u "java/lang/constant/ConstantDesc"), (2, u "serialVersionUID"), (0, u "J"), (3, u "REPL"), (0, u "C"), (2, u "LATIN1"), (1, u "UTF16")] 323

def k7m0 : Method := { name := "<init>", desc := "()V", sig := { parameters := [], returnType := none }, accessFlags := 1, code := none }
def k7c1 : Code := { maxStack := 5, maxLocals := 2, code := jdk_42_method_3_code, exceptionTable := #[], attributes := #[] }
def k7m1 : Method := { name := "<init>", desc := "([C)V", sig := { parameters := [(.array .char)], returnType := none }, accessFlags := 1, code := some k7c1 }
def k7c2 : Code := { maxStack := 2, maxLocals := 1, code := jdk_42_method_54_code, exceptionTable := #[], attributes := #[] }
def k7m2 : Method := { name := "length", desc := "()I", sig := { parameters := [], returnType := some .int }, accessFlags := 1, code := some k7c2 }
def k7c3 : Code := { maxStack := 2, maxLocals := 2, code := jdk_42_method_56_code, exceptionTable := #[], attributes := #[] }
def k7m3 : Method := { name := "charAt", desc := "(I)C", sig := { parameters := [.int], returnType := some .char }, accessFlags := 1, code := some k7c3 }
def k7c4 : Code := { maxStack := 4, maxLocals := 6, code := jdk_42_method_149_code, exceptionTable := #[], attributes := #[] }
def k7m4 : Method := { name := "<init>", desc := "([CIILjava/lang/Void;)V", sig := { parameters := [(.array .char), .int, .int, (.object "java/lang/Void")], returnType := none }, accessFlags := 2, code := some k7c4 }
def k7c5 : Code := { maxStack := 1, maxLocals := 1, code := jdk_42_method_152_code, exceptionTable := #[], attributes := #[] }
def k7m5 : Method := { name := "coder", desc := "()B", sig := { parameters := [], returnType := some .byte }, accessFlags := 0, code := some k7c5 }
def k7c6 : Code := { maxStack := 1, maxLocals := 1, code := jdk_42_method_154_code, exceptionTable := #[], attributes := #[] }
def k7m6 : Method := { name := "isLatin1", desc := "()Z", sig := { parameters := [], returnType := some .boolean }, accessFlags := 0, code := some k7c6 }
def k7c7 : Code := { maxStack := 3, maxLocals := 2, code := jdk_42_method_155_code, exceptionTable := #[], attributes := #[] }
def k7m7 : Method := { name := "checkIndex", desc := "(II)V", sig := { parameters := [.int, .int], returnType := none }, accessFlags := 8, code := some k7c7 }
/-- java/lang/String -/
def k7 : Class := { plain "java/lang/String" (some 0) with
  accessFlags := 49
  interfaces := #[2, 3, 4, 5, 6]
  cf := some (fileOf pool7 10 #[.nestMembers #[1103]] #[{ accessFlags := 1, nameIndex := 5, descriptorIndex := 6, attributes := #[] }, { accessFlags := 1, nameIndex := 5, descriptorIndex := 1010, attributes := #[] }, { accessFlags := 1, nameIndex := 507, descriptorIndex := 334, attributes := #[] }, { accessFlags := 1, nameIndex := 497, descriptorIndex := 427, attributes := #[] }, { accessFlags := 2, nameIndex := 5, descriptorIndex := 29, attributes := #[] }, { accessFlags := 0, nameIndex := 17, descriptorIndex := 337, attributes := #[] }, { accessFlags := 0, nameIndex := 494, descriptorIndex := 142, attributes := #[] }, { accessFlags := 8, nameIndex := 501, descriptorIndex := 391, attributes := #[] }] 49 2 #[1106, 1108, 575, 1110, 1112] #[{ accessFlags := 18, nameIndex := 13, descriptorIndex := 14, attributes := #[] }, { accessFlags := 18, nameIndex := 17, descriptorIndex := 18, attributes := #[] }, { accessFlags := 2, nameIndex := 21, descriptorIndex := 22, attributes := #[] }, { accessFlags := 2, nameIndex := 25, descriptorIndex := 26, attributes := #[] }, { accessFlags := 26, nameIndex := 1116, descriptorIndex := 1117, attributes := #[] }, { accessFlags := 24, nameIndex := 40, descriptorIndex := 26, attributes := #[] }, { accessFlags := 26, nameIndex := 1101, descriptorIndex := 1102, attributes := #[] }, { accessFlags := 26, nameIndex := 1121, descriptorIndex := 1122, attributes := #[] }, { accessFlags := 25, nameIndex := 599, descriptorIndex := 600, attributes := #[] }, { accessFlags := 24, nameIndex := 1125, descriptorIndex := 18, attributes := #[] }, { accessFlags := 24, nameIndex := 1127, descriptorIndex := 18, attributes := #[] }])
  fields := #[{ name := "value", type := (.array .byte), accessFlags := 18, slot := 0, constantValue := 0 }, { name := "coder", type := .byte, accessFlags := 18, slot := 1, constantValue := 0 }, { name := "hash", type := .int, accessFlags := 2, slot := 2, constantValue := 0 }, { name := "hashIsZero", type := .boolean, accessFlags := 2, slot := 3, constantValue := 0 }, { name := "serialVersionUID", type := .long, accessFlags := 26, slot := 0, constantValue := 0 }, { name := "COMPACT_STRINGS", type := .boolean, accessFlags := 24, slot := 1, constantValue := 0 }, { name := "serialPersistentFields", type := (.array (.object "java/io/ObjectStreamField")), accessFlags := 26, slot := 2, constantValue := 0 }, { name := "REPL", type := .char, accessFlags := 26, slot := 3, constantValue := 0 }, { name := "CASE_INSENSITIVE_ORDER", type := (.object "java/util/Comparator"), accessFlags := 25, slot := 4, constantValue := 0 }, { name := "LATIN1", type := .byte, accessFlags := 24, slot := 5, constantValue := 0 }, { name := "UTF16", type := .byte, accessFlags := 24, slot := 6, constantValue := 0 }]
  methods := #[k7m0, k7m1, k7m2, k7m3, k7m4, k7m5, k7m6, k7m7]
  instanceTypes := #[(.array .byte), .byte, .int, .boolean]
  staticTypes := #[.long, .boolean, (.array (.object "java/io/ObjectStreamField")), .char, (.object "java/util/Comparator"), .byte, .byte]
  resolved := Array.replicate 1451 none
  statics := some 0 }

def pool8 : Array CpInfo := pool [(6, .class_ 8), (1, u "java/lang/Object"), (0, u "<init>"), (0, u "()V"), (1, .class_ 14), (1, u "java/lang/StringUTF16"), (31, u "$assertionsDisabled"), (0, u "Z"), (13, u "HI_BYTE_SHIFT"), (0, u "I"), (2, u "LO_BYTE_SHIFT"), (49, .methodref 12 116), (0, .nameAndType 117 118), (0, u "compress"), (0, u "([CI[BII)I"), (3, u "([CII)[B"), (138, u "coderFromArrayLen"), (0, u "([BI)B"), (106, .class_ 371), (1, u "java/lang/StringUTF16$LinesSpliterator"), (58, u "MAX_LENGTH"), (196, .class_ 628), (0, u "java/lang/StringUTF16$CodePointsSpliterator"), (0, .class_ 630), (0, u "java/lang/StringUTF16$CharsSpliterator")] 4

def k8m0 : Method := { name := "<init>", desc := "()V", sig := { parameters := [], returnType := none }, accessFlags := 0, code := none }
def k8c1 : Code := { maxStack := 2, maxLocals := 2, code := jdk_52_method_15_code, exceptionTable := #[], attributes := #[] }
def k8m1 : Method := { name := "coderFromArrayLen", desc := "([BI)B", sig := { parameters := [(.array .byte), .int], returnType := some .byte }, accessFlags := 8, code := some k8c1 }
def k8c2 : Code := { maxStack := 5, maxLocals := 6, code := jdk_52_method_16_code, exceptionTable := #[], attributes := #[] }
def k8m2 : Method := { name := "compress", desc := "([CII)[B", sig := { parameters := [(.array .char), .int, .int], returnType := some (.array .byte) }, accessFlags := 9, code := some k8c2 }
def k8c3 : Code := { maxStack := 3, maxLocals := 7, code := jdk_52_method_21_code, exceptionTable := #[], attributes := #[] }
def k8m3 : Method := { name := "compress", desc := "([CI[BII)I", sig := { parameters := [(.array .char), .int, (.array .byte), .int, .int], returnType := some .int }, accessFlags := 9, code := some k8c3 }
/-- java/lang/StringUTF16 -/
def k8 : Class := { plain "java/lang/StringUTF16" (some 0) with
  accessFlags := 48
  interfaces := #[]
  cf := some (fileOf pool8 12 #[.nestMembers #[627, 629, 369]] #[{ accessFlags := 0, nameIndex := 9, descriptorIndex := 10, attributes := #[] }, { accessFlags := 8, nameIndex := 261, descriptorIndex := 262, attributes := #[] }, { accessFlags := 9, nameIndex := 117, descriptorIndex := 122, attributes := #[] }, { accessFlags := 9, nameIndex := 117, descriptorIndex := 118, attributes := #[] }] 48 6 #[] #[{ accessFlags := 26, nameIndex := 61, descriptorIndex := 62, attributes := #[] }, { accessFlags := 26, nameIndex := 65, descriptorIndex := 62, attributes := #[] }, { accessFlags := 24, nameIndex := 430, descriptorIndex := 62, attributes := #[] }, { accessFlags := 4120, nameIndex := 46, descriptorIndex := 47, attributes := #[] }])
  fields := #[{ name := "HI_BYTE_SHIFT", type := .int, accessFlags := 26, slot := 0, constantValue := 0 }, { name := "LO_BYTE_SHIFT", type := .int, accessFlags := 26, slot := 1, constantValue := 0 }, { name := "MAX_LENGTH", type := .int, accessFlags := 24, slot := 2, constantValue := 0 }, { name := "$assertionsDisabled", type := .boolean, accessFlags := 4120, slot := 3, constantValue := 0 }]
  methods := #[k8m0, k8m1, k8m2, k8m3]
  instanceTypes := #[]
  staticTypes := #[.int, .int, .int, .boolean]
  resolved := Array.replicate 635 none
  statics := none }

def pool9 : Array CpInfo := pool [(2, .class_ 4), (1, u "java/lang/Object"), (0, u "<init>"), (0, u "()V"), (0, .interfaceMethodref 8 9), (0, .class_ 10), (0, .nameAndType 11 12), (0, u "java/lang/CharSequence"), (0, u "length"), (0, u "()I"), (0, .interfaceMethodref 8 14), (0, .nameAndType 15 16), (0, u "charAt"), (0, u "(I)C"), (0, .methodref 18 19), (0, .class_ 20), (0, .nameAndType 21 22), (0, u "com/example/spanforge/spanforge/json/NumberText"), (0, u "isDigit"), (0, u "(C)Z"), (0, .methodref 18 24), (0, .nameAndType 25 26), (0, u "skipDigits"), (0, u "(Ljava/lang/CharSequence;I)I"), (145, u "EXACT_INTEGERS"), (0, u "D"), (1, u "MAX_DIGITS"), (0, u "I"), (3, u "scanJson")] 26

def k9m0 : Method := { name := "<init>", desc := "()V", sig := { parameters := [], returnType := none }, accessFlags := 2, code := none }
def k9c1 : Code := { maxStack := 3, maxLocals := 5, code := prog_5_method_2_code, exceptionTable := #[], attributes := #[] }
def k9m1 : Method := { name := "scanJson", desc := "(Ljava/lang/CharSequence;I)I", sig := { parameters := [(.object "java/lang/CharSequence"), .int], returnType := some .int }, accessFlags := 9, code := some k9c1 }
def k9c2 : Code := { maxStack := 2, maxLocals := 1, code := prog_5_method_3_code, exceptionTable := #[], attributes := #[] }
def k9m2 : Method := { name := "isDigit", desc := "(C)Z", sig := { parameters := [.char], returnType := some .boolean }, accessFlags := 10, code := some k9c2 }
def k9c3 : Code := { maxStack := 2, maxLocals := 3, code := prog_5_method_4_code, exceptionTable := #[], attributes := #[] }
def k9m3 : Method := { name := "skipDigits", desc := "(Ljava/lang/CharSequence;I)I", sig := { parameters := [(.object "java/lang/CharSequence"), .int], returnType := some .int }, accessFlags := 10, code := some k9c3 }
/-- com/example/spanforge/spanforge/json/NumberText -/
def k9 : Class := { plain "com/example/spanforge/spanforge/json/NumberText" (some 0) with
  accessFlags := 49
  interfaces := #[]
  cf := some (fileOf pool9 18 #[] #[{ accessFlags := 2, nameIndex := 5, descriptorIndex := 6, attributes := #[] }, { accessFlags := 9, nameIndex := 180, descriptorIndex := 26, attributes := #[] }, { accessFlags := 10, nameIndex := 21, descriptorIndex := 22, attributes := #[] }, { accessFlags := 10, nameIndex := 25, descriptorIndex := 26, attributes := #[] }] 49 2 #[] #[{ accessFlags := 26, nameIndex := 172, descriptorIndex := 173, attributes := #[] }, { accessFlags := 26, nameIndex := 175, descriptorIndex := 176, attributes := #[] }])
  fields := #[{ name := "EXACT_INTEGERS", type := .double, accessFlags := 26, slot := 0, constantValue := 0 }, { name := "MAX_DIGITS", type := .int, accessFlags := 26, slot := 1, constantValue := 0 }]
  methods := #[k9m0, k9m1, k9m2, k9m3]
  instanceTypes := #[]
  staticTypes := #[.double, .int]
  resolved := Array.replicate 207 none
  statics := none }

def pool10 : Array CpInfo := pool [(1, .class_ 2), (0, u "java/lang/String"), (1, .class_ 6), (1, u "java/lang/Object"), (0, u "<init>"), (0, u "()V"), (0, .methodref 1 10), (0, .nameAndType 11 12), (0, u "checkIndex"), (0, u "(II)V"), (1, .class_ 16), (1, u "java/lang/StringLatin1"), (36, u "([BI)C"), (67, u "$assertionsDisabled"), (0, u "Z"), (98, .class_ 223), (1, u "java/lang/StringLatin1$LinesSpliterator"), (28, u "charAt"), (137, .class_ 391), (0, u "java/lang/StringLatin1$CharsSpliterator")] 3

def k10m0 : Method := { name := "<init>", desc := "()V", sig := { parameters := [], returnType := none }, accessFlags := 0, code := none }
def k10c1 : Code := { maxStack := 2, maxLocals := 2, code := jdk_43_method_2_code, exceptionTable := #[], attributes := #[] }
def k10m1 : Method := { name := "charAt", desc := "([BI)C", sig := { parameters := [(.array .byte), .int], returnType := some .char }, accessFlags := 9, code := some k10c1 }
/-- java/lang/StringLatin1 -/
def k10 : Class := { plain "java/lang/StringLatin1" (some 0) with
  accessFlags := 48
  interfaces := #[]
  cf := some (fileOf pool10 14 #[.nestMembers #[390, 221]] #[{ accessFlags := 0, nameIndex := 7, descriptorIndex := 8, attributes := #[] }, { accessFlags := 9, nameIndex := 252, descriptorIndex := 53, attributes := #[] }] 48 4 #[] #[{ accessFlags := 4120, nameIndex := 121, descriptorIndex := 122, attributes := #[] }])
  fields := #[{ name := "$assertionsDisabled", type := .boolean, accessFlags := 4120, slot := 0, constantValue := 0 }]
  methods := #[k10m0, k10m1]
  instanceTypes := #[]
  staticTypes := #[.boolean]
  resolved := Array.replicate 395 none
  statics := none }

def pool11 : Array CpInfo := pool [(2, .class_ 4), (1, u "java/lang/Object"), (0, u "<init>"), (0, u "()V"), (17, .class_ 26), (1, u "jdk/internal/util/Preconditions"), (6, u "checkIndex"), (21, .class_ 56), (0, u "jdk/internal/util/Preconditions$4"), (57, .class_ 115), (0, u "jdk/internal/util/Preconditions$1"), (7, u "SIOOBE_FORMATTER"), (0, u "Ljava/util/function/BiFunction;"), (0, .class_ 126), (0, u "jdk/internal/util/Preconditions$2"), (3, u "AIOOBE_FORMATTER"), (0, .class_ 132), (0, u "jdk/internal/util/Preconditions$3"), (3, u "IOOBE_FORMATTER"), (41, u "(IILjava/util/function/BiFunction;)I")] 15

def k11m0 : Method := { name := "<init>", desc := "()V", sig := { parameters := [], returnType := none }, accessFlags := 1, code := none }
def k11c1 : Code := { maxStack := 3, maxLocals := 3, code := jdk_41_method_11_code, exceptionTable := #[], attributes := #[] }
def k11m1 : Method := { name := "checkIndex", desc := "(IILjava/util/function/BiFunction;)I", sig := { parameters := [.int, .int, (.object "java/util/function/BiFunction")], returnType := some .int }, accessFlags := 9, code := some k11c1 }
/-- jdk/internal/util/Preconditions -/
def k11 : Class := { plain "jdk/internal/util/Preconditions" (some 0) with
  accessFlags := 33
  interfaces := #[]
  cf := some (fileOf pool11 24 #[.nestMembers #[55, 131, 125, 114]] #[{ accessFlags := 1, nameIndex := 5, descriptorIndex := 6, attributes := #[] }, { accessFlags := 9, nameIndex := 33, descriptorIndex := 178, attributes := #[] }] 33 2 #[] #[{ accessFlags := 25, nameIndex := 123, descriptorIndex := 124, attributes := #[] }, { accessFlags := 25, nameIndex := 130, descriptorIndex := 124, attributes := #[] }, { accessFlags := 25, nameIndex := 136, descriptorIndex := 124, attributes := #[] }])
  fields := #[{ name := "SIOOBE_FORMATTER", type := (.object "java/util/function/BiFunction"), accessFlags := 25, slot := 0, constantValue := 0 }, { name := "AIOOBE_FORMATTER", type := (.object "java/util/function/BiFunction"), accessFlags := 25, slot := 1, constantValue := 0 }, { name := "IOOBE_FORMATTER", type := (.object "java/util/function/BiFunction"), accessFlags := 25, slot := 2, constantValue := 0 }]
  methods := #[k11m0, k11m1]
  instanceTypes := #[]
  staticTypes := #[(.object "java/util/function/BiFunction"), (.object "java/util/function/BiFunction"), (.object "java/util/function/BiFunction")]
  resolved := Array.replicate 194 none
  statics := some 1 }

def pool12 : Array CpInfo := pool [(9, u "<init>"), (6, .class_ 18), (1, u "java/lang/Object"), (0, u "()V"), (1, .class_ 23), (1, u "jdk/internal/util/ArraysSupport"), (0, u "LOG2_ARRAY_LONG_INDEX_SCALE"), (0, u "I"), (2, u "U"), (0, u "Ljdk/internal/misc/Unsafe;"), (8, u "BIG_ENDIAN"), (0, u "Z"), (8, u "LOG2_BYTE_BIT_SIZE"), (4, u "LOG2_ARRAY_INT_INDEX_SCALE"), (54, u "JLA"), (0, u "Ljdk/internal/access/JavaLangAccess;"), (11, u "LOG2_ARRAY_BOOLEAN_INDEX_SCALE"), (9, u "LOG2_ARRAY_BYTE_INDEX_SCALE"), (5, u "LOG2_ARRAY_CHAR_INDEX_SCALE"), (5, u "LOG2_ARRAY_SHORT_INDEX_SCALE"), (18, u "LOG2_ARRAY_FLOAT_INDEX_SCALE"), (24, u "LOG2_ARRAY_DOUBLE_INDEX_SCALE"), (89, u "T_BOOLEAN"), (2, u "T_CHAR"), (1, u "T_FLOAT"), (1, u "T_DOUBLE"), (1, u "T_BYTE"), (1, u "T_SHORT"), (1, u "T_INT"), (1, u "T_LONG"), (1, u "SOFT_MAX_ARRAY_LENGTH")] 83

def k12m0 : Method := { name := "<init>", desc := "()V", sig := { parameters := [], returnType := none }, accessFlags := 2, code := none }
/-- jdk/internal/util/ArraysSupport -/
def k12 : Class := { plain "jdk/internal/util/ArraysSupport" (some 0) with
  accessFlags := 33
  interfaces := #[]
  cf := some (fileOf pool12 21 #[] #[{ accessFlags := 2, nameIndex := 9, descriptorIndex := 19, attributes := #[] }] 33 16 #[] #[{ accessFlags := 24, nameIndex := 28, descriptorIndex := 29, attributes := #[] }, { accessFlags := 26, nameIndex := 38, descriptorIndex := 39, attributes := #[] }, { accessFlags := 25, nameIndex := 121, descriptorIndex := 25, attributes := #[] }, { accessFlags := 25, nameIndex := 131, descriptorIndex := 25, attributes := #[] }, { accessFlags := 25, nameIndex := 137, descriptorIndex := 25, attributes := #[] }, { accessFlags := 25, nameIndex := 143, descriptorIndex := 25, attributes := #[] }, { accessFlags := 25, nameIndex := 53, descriptorIndex := 25, attributes := #[] }, { accessFlags := 25, nameIndex := 24, descriptorIndex := 25, attributes := #[] }, { accessFlags := 25, nameIndex := 162, descriptorIndex := 25, attributes := #[] }, { accessFlags := 25, nameIndex := 187, descriptorIndex := 25, attributes := #[] }, { accessFlags := 26, nameIndex := 48, descriptorIndex := 25, attributes := #[] }, { accessFlags := 25, nameIndex := 277, descriptorIndex := 25, attributes := #[] }, { accessFlags := 25, nameIndex := 280, descriptorIndex := 25, attributes := #[] }, { accessFlags := 25, nameIndex := 282, descriptorIndex := 25, attributes := #[] }, { accessFlags := 25, nameIndex := 284, descriptorIndex := 25, attributes := #[] }, { accessFlags := 25, nameIndex := 286, descriptorIndex := 25, attributes := #[] }, { accessFlags := 25, nameIndex := 288, descriptorIndex := 25, attributes := #[] }, { accessFlags := 25, nameIndex := 290, descriptorIndex := 25, attributes := #[] }, { accessFlags := 25, nameIndex := 292, descriptorIndex := 25, attributes := #[] }, { accessFlags := 26, nameIndex := 108, descriptorIndex := 109, attributes := #[] }, { accessFlags := 25, nameIndex := 294, descriptorIndex := 25, attributes := #[] }])
  fields := #[{ name := "U", type := (.object "jdk/internal/misc/Unsafe"), accessFlags := 24, slot := 0, constantValue := 0 }, { name := "BIG_ENDIAN", type := .boolean, accessFlags := 26, slot := 1, constantValue := 0 }, { name := "LOG2_ARRAY_BOOLEAN_INDEX_SCALE", type := .int, accessFlags := 25, slot := 2, constantValue := 0 }, { name := "LOG2_ARRAY_BYTE_INDEX_SCALE", type := .int, accessFlags := 25, slot := 3, constantValue := 0 }, { name := "LOG2_ARRAY_CHAR_INDEX_SCALE", type := .int, accessFlags := 25, slot := 4, constantValue := 0 }, { name := "LOG2_ARRAY_SHORT_INDEX_SCALE", type := .int, accessFlags := 25, slot := 5, constantValue := 0 }, { name := "LOG2_ARRAY_INT_INDEX_SCALE", type := .int, accessFlags := 25, slot := 6, constantValue := 0 }, { name := "LOG2_ARRAY_LONG_INDEX_SCALE", type := .int, accessFlags := 25, slot := 7, constantValue := 0 }, { name := "LOG2_ARRAY_FLOAT_INDEX_SCALE", type := .int, accessFlags := 25, slot := 8, constantValue := 0 }, { name := "LOG2_ARRAY_DOUBLE_INDEX_SCALE", type := .int, accessFlags := 25, slot := 9, constantValue := 0 }, { name := "LOG2_BYTE_BIT_SIZE", type := .int, accessFlags := 26, slot := 10, constantValue := 0 }, { name := "T_BOOLEAN", type := .int, accessFlags := 25, slot := 11, constantValue := 0 }, { name := "T_CHAR", type := .int, accessFlags := 25, slot := 12, constantValue := 0 }, { name := "T_FLOAT", type := .int, accessFlags := 25, slot := 13, constantValue := 0 }, { name := "T_DOUBLE", type := .int, accessFlags := 25, slot := 14, constantValue := 0 }, { name := "T_BYTE", type := .int, accessFlags := 25, slot := 15, constantValue := 0 }, { name := "T_SHORT", type := .int, accessFlags := 25, slot := 16, constantValue := 0 }, { name := "T_INT", type := .int, accessFlags := 25, slot := 17, constantValue := 0 }, { name := "T_LONG", type := .int, accessFlags := 25, slot := 18, constantValue := 0 }, { name := "JLA", type := (.object "jdk/internal/access/JavaLangAccess"), accessFlags := 26, slot := 19, constantValue := 0 }, { name := "SOFT_MAX_ARRAY_LENGTH", type := .int, accessFlags := 25, slot := 20, constantValue := 0 }]
  methods := #[k12m0]
  instanceTypes := #[]
  staticTypes := #[(.object "jdk/internal/misc/Unsafe"), .boolean, .int, .int, .int, .int, .int, .int, .int, .int, .int, .int, .int, .int, .int, .int, .int, .int, .int, (.object "jdk/internal/access/JavaLangAccess"), .int]
  resolved := Array.replicate 378 none
  statics := none }

def pool13 : Array CpInfo := pool [(1, u "java/lang/Cloneable"), (0, .class_ 1), (0, u "java/lang/Object"), (0, .class_ 3)] 3

/-- java/lang/Cloneable -/
def k13 : Class := { plain "java/lang/Cloneable" (some 0) with
  accessFlags := 1537
  interfaces := #[]
  cf := some (fileOf pool13 2 #[] #[] 1537 4 #[] #[])
  fields := #[]
  methods := #[]
  instanceTypes := #[]
  staticTypes := #[]
  resolved := Array.replicate 8 none
  statics := none }

/-- the primitive byte -/
def k14 : Class := { plain "byte" none with kind := .primitive 'B', accessFlags := 0x411 }
/-- [B -/
def k15 : Class := { plain "[B" (some 0) with kind := .array 14 .byte, interfaces := #[13, 2], accessFlags := 1041 }

/-- the primitive char -/
def k16 : Class := { plain "char" none with kind := .primitive 'C', accessFlags := 0x411 }
/-- [C -/
def k17 : Class := { plain "[C" (some 0) with kind := .array 16 .char, interfaces := #[13, 2], accessFlags := 1041 }

/-- the primitive int -/
def k18 : Class := { plain "int" none with kind := .primitive 'I', accessFlags := 0x411 }
/-- [I -/
def k19 : Class := { plain "[I" (some 0) with kind := .array 18 .int, interfaces := #[13, 2], accessFlags := 1041 }

def heap : Heap := #[{ cls := 7, slots := #[.long 0, .int 1, .null, .int 0, .null, .int 0, .int 0], vm := .statics 7 },
  { cls := 11, slots := #[.null, .null, .null], vm := .statics 11 }]
def classes : Array Class := #[k0, k1, k2, k3, k4, k5, k6, k7, k8, k9, k10, k11, k12, k13, k14, k15, k16, k17, k18, k19]
def interned : List (Array UInt16 × Addr) := []
def slotsUsed : Nat := 10
def theMethod : MethodId := ⟨1, 4⟩
def args0 : Array Value := #[.int 5, .long 301, .int 7, .int 9]
def aboutOver (below : List Frame) : State where
  vm := { classes := classes, interned := interned.toArray }
  heap := heap
  slotsUsed := slotsUsed
  threads := #[{ frames := .invoking theMethod args0 :: below }]
def below0 : List Frame := [.native { method := ⟨0, 0⟩, args := #[] }]
def about1 : State := aboutOver below0
def p0 : Program := .bare "" "" ""
def e0 : Env := launch0.env 0 0 0
theorem w_frames : about1.frames = Frame.invoking theMethod args0 :: below0 := rfl
set_option maxRecDepth 65536 in
theorem w_args : argsFit about1.vm theMethod args0 = true := by decide +kernel
set_option maxRecDepth 65536 in
theorem w_heap : heapFits about1 = true := by decide +kernel
set_option maxRecDepth 65536 in
theorem w_runnable : about1.curStatus? = some .runnable := by decide +kernel
set_option maxRecDepth 65536 in
theorem w_alone : about1.alone = true := by decide +kernel
set_option maxRecDepth 65536 in
theorem w_named : about1.methodNamed? x = some theMethod := by decide +kernel
set_option maxRecDepth 65536 in
theorem w_hears : about1.hears theMethod below0 = true := by decide +kernel
set_option maxRecDepth 65536 in
theorem w_ripe : about1.ripe theMethod args0 below0 = true := by decide +kernel
theorem w_running : about1.status = .running := rfl
set_option maxRecDepth 65536 in
theorem w_room : about1.hasRoom e0.platform room_1 = true :=
  launch0.hasRoom_least _ room_1 (by decide +kernel) (by decide +kernel) (by decide +kernel) (by decide +kernel) (by decide +kernel) (by decide +kernel)
theorem allAtoms_all (ts : List Jvm.Cond) (a : Array Jvm.Value) (st : Jvm.State) : (allAtoms ts).before a st = ts.all (fun c => c.before a st) := by
  induction ts with
  | nil => rfl
  | cons c t ih =>
    show (Jvm.Cond.and c (allAtoms t)).before a st = _
    rw [Jvm.Cond.before_and, ih, List.all_cons]
def words1 : List Jvm.Cond := Jvm.Cond.code x code maxLocals ret :: tables_1
/-- a 'code' word, met by the world's own term for the bytes: nothing is compared byte by byte -/
theorem code_word {y : MethodName} {bytes : ByteArray} {mx : Nat} {rt : Option FieldType} {a : Array Value} {s : State} {m : MethodId} {meth : Method} {c : Code} (h1 : s.methodNamed? y = some m) (h2 : s.vm.method? m = some meth) (h3 : meth.code = some c) (h4 : c.code = bytes)
    (h5 : (c.maxLocals == mx && c.exceptionTable.isEmpty && decide (c.maxStack ≤ mostOperands) && decide (meth.sig.returnType = rt) && !meth.locks && decide (parseMethodDescriptor y.desc = some meth.sig)) = true) : (Jvm.Cond.code y bytes mx rt).before a s = true := by
  simp only [Bool.and_eq_true, beq_iff_eq, Bool.not_eq_true', decide_eq_true_eq] at h5
  obtain ⟨⟨⟨⟨⟨g1, g2⟩, g3⟩, g4⟩, g5⟩, g6⟩ := h5
  simp [Cond.before, Cond.holds, Cond.value, h1, h2, h3, h4, g1, g2, g3, g4, g5, g6]
def isCode : Jvm.Cond → Bool
  | .code _ _ _ _ => true
  | _ => false
theorem all_split {L : List Jvm.Cond} {P : Jvm.Cond → Bool} (h1 : L.all (fun c => isCode c || P c) = true) (h2 : ∀ c ∈ L.filter isCode, P c = true) : L.all P = true := by
  refine List.all_eq_true.mpr fun c hc => ?_
  have h := List.all_eq_true.mp h1 c hc
  rcases Bool.eq_false_or_eq_true (isCode c) with hi | hi
  · exact h2 c (List.mem_filter.mpr ⟨hc, hi⟩)
  · simpa [hi] using h
set_option maxRecDepth 65536 in
theorem w_c0 : (Jvm.Cond.code x code maxLocals ret).before args0 about1 = true := code_word (m := ⟨1, 4⟩) (meth := k1m4) (c := k1c4) (by decide +kernel) rfl rfl rfl (by decide +kernel)
set_option maxRecDepth 65536 in
theorem w_c1 : (Jvm.Cond.code ({ cls := "com/example/spanforge/spanforge/json/NumberTextScanJsonPinLaw", name := "isDig", desc := "(C)Z" } : Jvm.MethodName) method_2_code (1 : Nat) (Option.some Jvm.ClassFile.FieldType.boolean)).before args0 about1 = true := code_word (m := ⟨1, 1⟩) (meth := k1m1) (c := k1c1) (by decide +kernel) rfl rfl rfl (by decide +kernel)
set_option maxRecDepth 65536 in
theorem w_c2 : (Jvm.Cond.code ({ cls := "java/lang/String", name := "<init>", desc := "([C)V" } : Jvm.MethodName) jdk_42_method_3_code (2 : Nat) (Option.none : Option Jvm.ClassFile.FieldType)).before args0 about1 = true := code_word (m := ⟨7, 1⟩) (meth := k7m1) (c := k7c1) (by decide +kernel) rfl rfl rfl (by decide +kernel)
set_option maxRecDepth 65536 in
theorem w_c3 : (Jvm.Cond.code ({ cls := "java/lang/String", name := "<init>", desc := "([CIILjava/lang/Void;)V" } : Jvm.MethodName) jdk_42_method_149_code (6 : Nat) (Option.none : Option Jvm.ClassFile.FieldType)).before args0 about1 = true := code_word (m := ⟨7, 4⟩) (meth := k7m4) (c := k7c4) (by decide +kernel) rfl rfl rfl (by decide +kernel)
set_option maxRecDepth 65536 in
theorem w_c4 : (Jvm.Cond.code ({ cls := "java/lang/Object", name := "<init>", desc := "()V" } : Jvm.MethodName) object_method_1_code (1 : Nat) (Option.none : Option Jvm.ClassFile.FieldType)).before args0 about1 = true := code_word (m := ⟨0, 0⟩) (meth := k0m0) (c := k0c0) (by decide +kernel) rfl rfl rfl (by decide +kernel)
set_option maxRecDepth 65536 in
theorem w_c5 : (Jvm.Cond.code ({ cls := "java/lang/StringUTF16", name := "compress", desc := "([CII)[B" } : Jvm.MethodName) jdk_52_method_16_code (6 : Nat) (Option.some (Jvm.ClassFile.FieldType.array Jvm.ClassFile.FieldType.byte))).before args0 about1 = true := code_word (m := ⟨8, 2⟩) (meth := k8m2) (c := k8c2) (by decide +kernel) rfl rfl rfl (by decide +kernel)
set_option maxRecDepth 65536 in
theorem w_c6 : (Jvm.Cond.code ({ cls := "java/lang/StringUTF16", name := "compress", desc := "([CI[BII)I" } : Jvm.MethodName) jdk_52_method_21_code (7 : Nat) (Option.some Jvm.ClassFile.FieldType.int)).before args0 about1 = true := code_word (m := ⟨8, 3⟩) (meth := k8m3) (c := k8c3) (by decide +kernel) rfl rfl rfl (by decide +kernel)
set_option maxRecDepth 65536 in
theorem w_c7 : (Jvm.Cond.code ({ cls := "java/lang/StringUTF16", name := "coderFromArrayLen", desc := "([BI)B" } : Jvm.MethodName) jdk_52_method_15_code (2 : Nat) (Option.some Jvm.ClassFile.FieldType.byte)).before args0 about1 = true := code_word (m := ⟨8, 1⟩) (meth := k8m1) (c := k8c1) (by decide +kernel) rfl rfl rfl (by decide +kernel)
set_option maxRecDepth 65536 in
theorem w_c8 : (Jvm.Cond.code ({ cls := "com/example/spanforge/spanforge/json/NumberText", name := "scanJson", desc := "(Ljava/lang/CharSequence;I)I" } : Jvm.MethodName) prog_5_method_2_code (5 : Nat) (Option.some Jvm.ClassFile.FieldType.int)).before args0 about1 = true := code_word (m := ⟨9, 1⟩) (meth := k9m1) (c := k9c1) (by decide +kernel) rfl rfl rfl (by decide +kernel)
set_option maxRecDepth 65536 in
theorem w_c9 : (Jvm.Cond.code ({ cls := "java/lang/String", name := "length", desc := "()I" } : Jvm.MethodName) jdk_42_method_54_code (1 : Nat) (Option.some Jvm.ClassFile.FieldType.int)).before args0 about1 = true := code_word (m := ⟨7, 2⟩) (meth := k7m2) (c := k7c2) (by decide +kernel) rfl rfl rfl (by decide +kernel)
set_option maxRecDepth 65536 in
theorem w_c10 : (Jvm.Cond.code ({ cls := "java/lang/String", name := "coder", desc := "()B" } : Jvm.MethodName) jdk_42_method_152_code (1 : Nat) (Option.some Jvm.ClassFile.FieldType.byte)).before args0 about1 = true := code_word (m := ⟨7, 5⟩) (meth := k7m5) (c := k7c5) (by decide +kernel) rfl rfl rfl (by decide +kernel)
set_option maxRecDepth 65536 in
theorem w_c11 : (Jvm.Cond.code ({ cls := "java/lang/String", name := "charAt", desc := "(I)C" } : Jvm.MethodName) jdk_42_method_56_code (2 : Nat) (Option.some Jvm.ClassFile.FieldType.char)).before args0 about1 = true := code_word (m := ⟨7, 3⟩) (meth := k7m3) (c := k7c3) (by decide +kernel) rfl rfl rfl (by decide +kernel)
set_option maxRecDepth 65536 in
theorem w_c12 : (Jvm.Cond.code ({ cls := "java/lang/String", name := "isLatin1", desc := "()Z" } : Jvm.MethodName) jdk_42_method_154_code (1 : Nat) (Option.some Jvm.ClassFile.FieldType.boolean)).before args0 about1 = true := code_word (m := ⟨7, 6⟩) (meth := k7m6) (c := k7c6) (by decide +kernel) rfl rfl rfl (by decide +kernel)
set_option maxRecDepth 65536 in
theorem w_c13 : (Jvm.Cond.code ({ cls := "java/lang/StringLatin1", name := "charAt", desc := "([BI)C" } : Jvm.MethodName) jdk_43_method_2_code (2 : Nat) (Option.some Jvm.ClassFile.FieldType.char)).before args0 about1 = true := code_word (m := ⟨10, 1⟩) (meth := k10m1) (c := k10c1) (by decide +kernel) rfl rfl rfl (by decide +kernel)
set_option maxRecDepth 65536 in
theorem w_c14 : (Jvm.Cond.code ({ cls := "java/lang/String", name := "checkIndex", desc := "(II)V" } : Jvm.MethodName) jdk_42_method_155_code (2 : Nat) (Option.none : Option Jvm.ClassFile.FieldType)).before args0 about1 = true := code_word (m := ⟨7, 7⟩) (meth := k7m7) (c := k7c7) (by decide +kernel) rfl rfl rfl (by decide +kernel)
set_option maxRecDepth 65536 in
theorem w_c15 : (Jvm.Cond.code ({ cls := "jdk/internal/util/Preconditions", name := "checkIndex", desc := "(IILjava/util/function/BiFunction;)I" } : Jvm.MethodName) jdk_41_method_11_code (3 : Nat) (Option.some Jvm.ClassFile.FieldType.int)).before args0 about1 = true := code_word (m := ⟨11, 1⟩) (meth := k11m1) (c := k11c1) (by decide +kernel) rfl rfl rfl (by decide +kernel)
set_option maxRecDepth 65536 in
theorem w_c16 : (Jvm.Cond.code ({ cls := "com/example/spanforge/spanforge/json/NumberTextScanJsonPinLaw", name := "dg", desc := "(JI)C" } : Jvm.MethodName) method_3_code (3 : Nat) (Option.some Jvm.ClassFile.FieldType.char)).before args0 about1 = true := code_word (m := ⟨1, 2⟩) (meth := k1m2) (c := k1c2) (by decide +kernel) rfl rfl rfl (by decide +kernel)
set_option maxRecDepth 65536 in
theorem w_c17 : (Jvm.Cond.code ({ cls := "com/example/spanforge/spanforge/json/NumberText", name := "isDigit", desc := "(C)Z" } : Jvm.MethodName) prog_5_method_3_code (1 : Nat) (Option.some Jvm.ClassFile.FieldType.boolean)).before args0 about1 = true := code_word (m := ⟨9, 2⟩) (meth := k9m2) (c := k9c2) (by decide +kernel) rfl rfl rfl (by decide +kernel)
set_option maxRecDepth 65536 in
theorem w_c18 : (Jvm.Cond.code ({ cls := "com/example/spanforge/spanforge/json/NumberText", name := "skipDigits", desc := "(Ljava/lang/CharSequence;I)I" } : Jvm.MethodName) prog_5_method_4_code (3 : Nat) (Option.some Jvm.ClassFile.FieldType.int)).before args0 about1 = true := code_word (m := ⟨9, 3⟩) (meth := k9m3) (c := k9c3) (by decide +kernel) rfl rfl rfl (by decide +kernel)
set_option maxRecDepth 65536 in
theorem w_c19 : (Jvm.Cond.code ({ cls := "com/example/spanforge/spanforge/json/NumberTextScanJsonPinLaw", name := "nz", desc := "(J)C" } : Jvm.MethodName) method_4_code (2 : Nat) (Option.some Jvm.ClassFile.FieldType.char)).before args0 about1 = true := code_word (m := ⟨1, 3⟩) (meth := k1m3) (c := k1c3) (by decide +kernel) rfl rfl rfl (by decide +kernel)
def codes1 : List Jvm.Cond := [Jvm.Cond.code x code maxLocals ret, Jvm.Cond.code ({ cls := "com/example/spanforge/spanforge/json/NumberTextScanJsonPinLaw", name := "isDig", desc := "(C)Z" } : Jvm.MethodName) method_2_code (1 : Nat) (Option.some Jvm.ClassFile.FieldType.boolean), Jvm.Cond.code ({ cls := "java/lang/String", name := "<init>", desc := "([C)V" } : Jvm.MethodName) jdk_42_method_3_code (2 : Nat) (Option.none : Option Jvm.ClassFile.FieldType), Jvm.Cond.code ({ cls := "java/lang/String", name := "<init>", desc := "([CIILjava/lang/Void;)V" } : Jvm.MethodName) jdk_42_method_149_code (6 : Nat) (Option.none : Option Jvm.ClassFile.FieldType), Jvm.Cond.code ({ cls := "java/lang/Object", name := "<init>", desc := "()V" } : Jvm.MethodName) object_method_1_code (1 : Nat) (Option.none : Option Jvm.ClassFile.FieldType), Jvm.Cond.code ({ cls := "java/lang/StringUTF16", name := "compress", desc := "([CII)[B" } : Jvm.MethodName) jdk_52_method_16_code (6 : Nat) (Option.some (Jvm.ClassFile.FieldType.array Jvm.ClassFile.FieldType.byte)), Jvm.Cond.code ({ cls := "java/lang/StringUTF16", name := "compress", desc := "([CI[BII)I" } : Jvm.MethodName) jdk_52_method_21_code (7 : Nat) (Option.some Jvm.ClassFile.FieldType.int), Jvm.Cond.code ({ cls := "java/lang/StringUTF16", name := "coderFromArrayLen", desc := "([BI)B" } : Jvm.MethodName) jdk_52_method_15_code (2 : Nat) (Option.some Jvm.ClassFile.FieldType.byte), Jvm.Cond.code ({ cls := "com/example/spanforge/spanforge/json/NumberText", name := "scanJson", desc := "(Ljava/lang/CharSequence;I)I" } : Jvm.MethodName) prog_5_method_2_code (5 : Nat) (Option.some Jvm.ClassFile.FieldType.int), Jvm.Cond.code ({ cls := "java/lang/String", name := "length", desc := "()I" } : Jvm.MethodName) jdk_42_method_54_code (1 : Nat) (Option.some Jvm.ClassFile.FieldType.int), Jvm.Cond.code ({ cls := "java/lang/String", name := "coder", desc := "()B" } : Jvm.MethodName) jdk_42_method_152_code (1 : Nat) (Option.some Jvm.ClassFile.FieldType.byte), Jvm.Cond.code ({ cls := "java/lang/String", name := "charAt", desc := "(I)C" } : Jvm.MethodName) jdk_42_method_56_code (2 : Nat) (Option.some Jvm.ClassFile.FieldType.char), Jvm.Cond.code ({ cls := "java/lang/String", name := "isLatin1", desc := "()Z" } : Jvm.MethodName) jdk_42_method_154_code (1 : Nat) (Option.some Jvm.ClassFile.FieldType.boolean), Jvm.Cond.code ({ cls := "java/lang/StringLatin1", name := "charAt", desc := "([BI)C" } : Jvm.MethodName) jdk_43_method_2_code (2 : Nat) (Option.some Jvm.ClassFile.FieldType.char), Jvm.Cond.code ({ cls := "java/lang/String", name := "checkIndex", desc := "(II)V" } : Jvm.MethodName) jdk_42_method_155_code (2 : Nat) (Option.none : Option Jvm.ClassFile.FieldType), Jvm.Cond.code ({ cls := "jdk/internal/util/Preconditions", name := "checkIndex", desc := "(IILjava/util/function/BiFunction;)I" } : Jvm.MethodName) jdk_41_method_11_code (3 : Nat) (Option.some Jvm.ClassFile.FieldType.int), Jvm.Cond.code ({ cls := "com/example/spanforge/spanforge/json/NumberTextScanJsonPinLaw", name := "dg", desc := "(JI)C" } : Jvm.MethodName) method_3_code (3 : Nat) (Option.some Jvm.ClassFile.FieldType.char), Jvm.Cond.code ({ cls := "com/example/spanforge/spanforge/json/NumberText", name := "isDigit", desc := "(C)Z" } : Jvm.MethodName) prog_5_method_3_code (1 : Nat) (Option.some Jvm.ClassFile.FieldType.boolean), Jvm.Cond.code ({ cls := "com/example/spanforge/spanforge/json/NumberText", name := "skipDigits", desc := "(Ljava/lang/CharSequence;I)I" } : Jvm.MethodName) prog_5_method_4_code (3 : Nat) (Option.some Jvm.ClassFile.FieldType.int), Jvm.Cond.code ({ cls := "com/example/spanforge/spanforge/json/NumberTextScanJsonPinLaw", name := "nz", desc := "(J)C" } : Jvm.MethodName) method_4_code (2 : Nat) (Option.some Jvm.ClassFile.FieldType.char)]
set_option maxRecDepth 65536 in
theorem codes_eq : words1.filter isCode = codes1 := rfl
theorem w_codes : ∀ c ∈ words1.filter isCode, c.before args0 about1 = true := by
  rw [codes_eq]
  intro c hc
  simp only [codes1, List.mem_cons, List.not_mem_nil, or_false] at hc
  rcases hc with rfl | rfl | rfl | rfl | rfl | rfl | rfl | rfl | rfl | rfl | rfl | rfl | rfl | rfl | rfl | rfl | rfl | rfl | rfl | rfl
  · exact w_c0
  · exact w_c1
  · exact w_c2
  · exact w_c3
  · exact w_c4
  · exact w_c5
  · exact w_c6
  · exact w_c7
  · exact w_c8
  · exact w_c9
  · exact w_c10
  · exact w_c11
  · exact w_c12
  · exact w_c13
  · exact w_c14
  · exact w_c15
  · exact w_c16
  · exact w_c17
  · exact w_c18
  · exact w_c19
set_option maxRecDepth 65536 in
theorem w_t1 : (words1.take 24).all (fun c => isCode c || c.before args0 about1) = true := by decide +kernel
set_option maxRecDepth 65536 in
theorem w_t2 : ((words1.drop 24).take 24).all (fun c => isCode c || c.before args0 about1) = true := by decide +kernel
set_option maxRecDepth 65536 in
theorem w_t3 : (((words1.drop 24).drop 24).take 24).all (fun c => isCode c || c.before args0 about1) = true := by decide +kernel
set_option maxRecDepth 65536 in
theorem w_t4 : (((words1.drop 24).drop 24).drop 24).all (fun c => isCode c || c.before args0 about1) = true := by decide +kernel
theorem w_tables : (allAtoms (Jvm.Cond.code x code maxLocals ret :: tables_1)).before args0 about1 = true := by
  rw [allAtoms_all]
  show words1.all (fun c => c.before args0 about1) = true
  refine all_split ?_ w_codes
  rw [← List.take_append_drop 24 words1, List.all_append, w_t1, ← List.take_append_drop 24 (words1.drop 24), List.all_append, w_t2, ← List.take_append_drop 24 ((words1.drop 24).drop 24), List.all_append, w_t3, w_t4]
  rfl
set_option maxRecDepth 65536 in
theorem w_rest : rest_1_c.before args0 about1 = true := by decide +kernel
set_option maxRecDepth 65536 in
theorem w_case : (Jvm.Cond.and given_1 narrow_1).before args0 about1 = true := by decide +kernel
theorem w_applies : (headSpec (Jvm.Cond.code x code maxLocals ret :: tables_1) room_1).applies x e0.platform about1 = true :=
  (Spec.applies_iff w_frames).mpr ⟨w_running, w_runnable, w_alone, w_named, w_hears, w_ripe, w_room, w_tables⟩
theorem atStart : AtStart classFile x code maxLocals ret World_1 tables_1 room_1 Calls_1 rest_1 Pre_1 launch0 p0 e0 about1 theMethod args0 below0 :=
  ⟨lists_1, trivial, launch0.admits_env _ _ _, launch0.least_env, fairChoices_fair.cas, fairChoices_fair.clock, w_frames, w_args, w_heap, w_applies, trivial, w_rest, w_case⟩
end start1
theorem witness_1 : WitnessClaimed_1 := ⟨start1.p0, start1.e0, start1.about1, start1.theMethod, start1.args0, start1.below0, start1.atStart⟩
end Jvm.Pilot.@@N@@
