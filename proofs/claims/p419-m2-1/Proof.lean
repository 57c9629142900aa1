import JvmDerived
import JvmDerived.Pilot.@@N@@Statement
import JvmDerived.Pilot.@@N@@Code
set_option linter.unusedVariables false
set_option linter.unusedSimpArgs false
namespace Jvm.OwnKit
open Jvm Jvm.ClassFile Sem Op Lib Jvm.Free Jvm.Stand Jvm.LawKit Jvm.RoadKit
/-- the run from here ends in a return that answers Q, having written new cells alone -/
def Ends (p : Program) (e : Env) (below : List Frame) (s : State) (n0 : Nat) (Q : Option Value → Heap → Prop) (k n : Nat) (T : State) (g : JFrame) : Prop :=
  ∃ s₂ o, Steps p.tables e below (T.setTop g) s₂ ∧ s₂.status = .running ∧ Ended s₂ below o ∧ ∃ v L, o = .returned v ∧ (Fr n0 L ∧ Q v s₂.heap) ∧ FrameEnd s o s₂ L k n
theorem Ends.step {p : Program} {e : Env} {below : List Frame} {s : State} {n0 : Nat} {Q : Option Value → Heap → Prop} {k n : Nat} {T T' : State} {g g' : JFrame} (K : Ends p e below s n0 Q k n T' g') (f : ∀ t, Steps p.tables e below (T'.setTop g') t → Steps p.tables e below (T.setTop g) t) : Ends p e below s n0 Q k n T g := by
  obtain ⟨s2, o, h, r⟩ := K
  exact ⟨s2, o, f _ h, r⟩
/-- what is the same through a whole body -/
def Cx (Z : State) (mn : MethodName) (code : ByteArray) (maxL : Nat) (ret : Option FieldType) (p : Program) (s : State) (m : MethodId) (meth : Method) (c : Code) : Prop :=
  p.tables.exec = Jvm.exec ∧ Z.Warmed39 s.vm ∧ c.code = code ∧ c.maxLocals = maxL ∧ s.vm.findClass mn.cls = some m.cls ∧ meth.sig.returnType = ret ∧ meth.locks = false ∧ meth.name = mn.name
/-- from this pc, these locals and this stack, over the heap h, at most k cells and n slots made so far, the body ends as Q says -/
def Go (l : Launch) (Z : State) (mn : MethodName) (code : ByteArray) (maxL : Nat) (ret : Option FieldType) (R : Room) (n0 : Nat) (Q : Option Value → Heap → Prop) (h : Heap) (k n : Nat) (pc : Nat) (Ls : Array Slot) (st : List Value) : Prop :=
  ∀ (p : Program) (e : Env) (s : State) (m : MethodId) (args : Array Value) (below : List Frame) (meth : Method) (c : Code) (T : State) (locs : List Loc) (k' n' : Nat),
    Cx Z mn code maxL ret p s m meth c → Stand p l e R s m args below meth c T locs k' n' → k' ≤ k → n' ≤ n → Fr n0 locs → T.heap = h → Ends p e below s n0 Q R.cells R.slots T (mkF m pc Ls st)
/-- the answer of a body that returns a value | nothing -/
def RV (P : Value → Heap → Prop) : Option Value → Heap → Prop := fun v h => ∃ w, v = some w ∧ P w h
def RN (P : Heap → Prop) : Option Value → Heap → Prop := fun v h => v = none ∧ P h
section Laws
variable {l : Launch} {Z : State} {mn : MethodName} {code : ByteArray} {maxL : Nat} {ret : Option FieldType} {R : Room} {n0 : Nat} {Q : Option Value → Heap → Prop} {h : Heap} {k n pc q : Nat} {Ls Ls' : Array Slot} {st st' : List Value} {a0 : Array Value}
theorem Go.plain (K : Go l Z mn code maxL ret R n0 Q h k n q Ls' st') (f : ∀ (p : Program) (e : Env) (s : State) (m : MethodId) (args : Array Value) (below : List Frame) (meth : Method) (c : Code) (T : State) (locs : List Loc) (k' n' : Nat), p.tables.exec = Jvm.exec → c.code = code → Stand p l e R s m args below meth c T locs k' n' → ∀ t, Steps p.tables e below (T.setTop (mkF m q Ls' st')) t → Steps p.tables e below (T.setTop (mkF m pc Ls st)) t) : Go l Z mn code maxL ret R n0 Q h k n pc Ls st :=
  fun p e s m args below meth c T locs k' n' C X hk hn N eT => (K p e s m args below meth c T locs k' n' C X hk hn N eT).step (f p e s m args below meth c T locs k' n' C.1 C.2.2.1 X)
theorem Go.mono {k1 n1 : Nat} (K : Go l Z mn code maxL ret R n0 Q h k n pc Ls st) (h1 : k1 ≤ k) (h2 : n1 ≤ n) : Go l Z mn code maxL ret R n0 Q h k1 n1 pc Ls st :=
  fun p e s m args below meth c T locs k' n' C X hk hn N eT => K p e s m args below meth c T locs k' n' C X (Nat.le_trans hk h1) (Nat.le_trans hn h2) N eT
theorem Go.imp {Q' : Option Value → Heap → Prop} (K : Go l Z mn code maxL ret R n0 Q h k n pc Ls st) (f : ∀ v h, Q v h → Q' v h) : Go l Z mn code maxL ret R n0 Q' h k n pc Ls st :=
  fun p e s m args below meth c T locs k' n' C X hk hn N eT => by
    obtain ⟨s2, o, h1, h2, h3, v, L, h4, h5, h6⟩ := K p e s m args below meth c T locs k' n' C X hk hn N eT
    exact ⟨s2, o, h1, h2, h3, v, L, h4, ⟨h5.1, f _ _ h5.2⟩, h6⟩
theorem Go.met {as : Array Value} (pn : plainFor mn = true) (hef : ∀ m, entryFrame m as maxL = mkF m 0 Ls []) (G : Go l Z mn code maxL ret R n0 Q h 0 0 0 Ls []) (ws : List Jvm.Cond) :
    MetFree l mn (head1 (Jvm.Cond.code mn code maxL ret :: ws) R) (fun a U => a = as ∧ Z.Warmed39 U.vm ∧ U.heap = h) (fun _ _ _ _ _ => True) (fun _ U o U' => ∃ v L, o = .returned v ∧ (Fr n0 L ∧ Q v U'.heap) ∧ FrameEnd U o U' L R.cells R.slots) := by
  refine MetFree.of_bodySF pn hisR ?_
  intro p e s m args below meth c s₁ Bd hml0 hP hK
  obtain ⟨rfl, hZ, hh⟩ := hP
  have e0 : s₁.heap = h := by rw [← hh, Bd.state]; rfl
  rw [hef]
  exact G p e s m _ below meth c s₁ [] 0 0 ⟨Bd.exec, hZ, Bd.bytes, hml0, findClass_of_methodNamed Bd.named, Bd.returns, BodyLoose.notSynchronized Bd, (name_of_methodNamed Bd.named Bd.method).1⟩ (Stand.of_body Bd) (Nat.le_refl _) (Nat.le_refl _) (Fr.nil n0) e0

theorem Go.iloadN {i : Fin 4} {v : Int32} (hd : decode code pc = .ok (.iload_n i, 1)) (hq : q = pc + 1) (hl : Ls[i.val]? = some (.val (.int v))) (K : Go l Z mn code maxL ret R n0 Q h k n q Ls (.int v :: st)) : Go l Z mn code maxL ret R n0 Q h k n pc Ls (st) := by
  subst hq
  exact K.plain fun p e s m args below meth c T locs k' n' hx hby X t r => XS.iloadN X.here hx rfl (hb hby hd) hl r
theorem Go.iload {i : Nat} {v : Int32} (hd : decode code pc = .ok (.iload i, 2)) (hq : q = pc + 2) (hl : Ls[i]? = some (.val (.int v))) (K : Go l Z mn code maxL ret R n0 Q h k n q Ls (.int v :: st)) : Go l Z mn code maxL ret R n0 Q h k n pc Ls (st) := by
  subst hq
  exact K.plain fun p e s m args below meth c T locs k' n' hx hby X t r => XS.iload X.here hx rfl (hb hby hd) hl r
theorem Go.lloadN {i : Fin 4} {v : Int64} (hd : decode code pc = .ok (.lload_n i, 1)) (hq : q = pc + 1) (hl : Ls[i.val]? = some (.val (.long v))) (K : Go l Z mn code maxL ret R n0 Q h k n q Ls (.long v :: st)) : Go l Z mn code maxL ret R n0 Q h k n pc Ls (st) := by
  subst hq
  exact K.plain fun p e s m args below meth c T locs k' n' hx hby X t r => XT.lloadN X.here hx rfl (hb hby hd) hl r
theorem Go.lload {i : Nat} {v : Int64} (hd : decode code pc = .ok (.lload i, 2)) (hq : q = pc + 2) (hl : Ls[i]? = some (.val (.long v))) (K : Go l Z mn code maxL ret R n0 Q h k n q Ls (.long v :: st)) : Go l Z mn code maxL ret R n0 Q h k n pc Ls (st) := by
  subst hq
  exact K.plain fun p e s m args below meth c T locs k' n' hx hby X t r => XT.lload X.here hx rfl (hb hby hd) hl r
theorem Go.aloadN {i : Fin 4} {v : Value} (hd : decode code pc = .ok (.aload_n i, 1)) (hq : q = pc + 1) (hl : Ls[i.val]? = some (.val v)) (hv : v.isRef = true) (K : Go l Z mn code maxL ret R n0 Q h k n q Ls (v :: st)) : Go l Z mn code maxL ret R n0 Q h k n pc Ls (st) := by
  subst hq
  exact K.plain fun p e s m args below meth c T locs k' n' hx hby X t r => XS.aloadN X.here hx rfl (hb hby hd) hl hv r
theorem Go.aload {i : Nat} {v : Value} (hd : decode code pc = .ok (.aload i, 2)) (hq : q = pc + 2) (hl : Ls[i]? = some (.val v)) (hv : v.isRef = true) (K : Go l Z mn code maxL ret R n0 Q h k n q Ls (v :: st)) : Go l Z mn code maxL ret R n0 Q h k n pc Ls (st) := by
  subst hq
  exact K.plain fun p e s m args below meth c T locs k' n' hx hby X t r => XS.aload X.here hx rfl (hb hby hd) hl hv r
theorem Go.istoreN {i : Fin 4} {v : Int32} (hd : decode code pc = .ok (.istore_n i, 1)) (hq : q = pc + 1) (hl : storeLocals Ls i.val (.int v) = some Ls') (K : Go l Z mn code maxL ret R n0 Q h k n q Ls' (st)) : Go l Z mn code maxL ret R n0 Q h k n pc Ls (.int v :: st) := by
  subst hq
  exact K.plain fun p e s m args below meth c T locs k' n' hx hby X t r => XS.istoreN X.here hx rfl (hb hby hd) rfl hl r
theorem Go.istore {i : Nat} {v : Int32} (hd : decode code pc = .ok (.istore i, 2)) (hq : q = pc + 2) (hl : storeLocals Ls i (.int v) = some Ls') (K : Go l Z mn code maxL ret R n0 Q h k n q Ls' (st)) : Go l Z mn code maxL ret R n0 Q h k n pc Ls (.int v :: st) := by
  subst hq
  exact K.plain fun p e s m args below meth c T locs k' n' hx hby X t r => XS.istore X.here hx rfl (hb hby hd) rfl hl r
theorem Go.lstoreN {i : Fin 4} {v : Int64} (hd : decode code pc = .ok (.lstore_n i, 1)) (hq : q = pc + 1) (hl : storeLocals Ls i.val (.long v) = some Ls') (K : Go l Z mn code maxL ret R n0 Q h k n q Ls' (st)) : Go l Z mn code maxL ret R n0 Q h k n pc Ls (.long v :: st) := by
  subst hq
  exact K.plain fun p e s m args below meth c T locs k' n' hx hby X t r => XT.lstoreN X.here hx rfl (hb hby hd) rfl hl r
theorem Go.lstore {i : Nat} {v : Int64} (hd : decode code pc = .ok (.lstore i, 2)) (hq : q = pc + 2) (hl : storeLocals Ls i (.long v) = some Ls') (K : Go l Z mn code maxL ret R n0 Q h k n q Ls' (st)) : Go l Z mn code maxL ret R n0 Q h k n pc Ls (.long v :: st) := by
  subst hq
  exact K.plain fun p e s m args below meth c T locs k' n' hx hby X t r => XT.lstore X.here hx rfl (hb hby hd) rfl hl r
theorem Go.astoreN {i : Fin 4} {v : Value} (hd : decode code pc = .ok (.astore_n i, 1)) (hq : q = pc + 1) (hv : v.isRef = true) (hl : storeLocals Ls i.val v = some Ls') (K : Go l Z mn code maxL ret R n0 Q h k n q Ls' (st)) : Go l Z mn code maxL ret R n0 Q h k n pc Ls (v :: st) := by
  subst hq
  exact K.plain fun p e s m args below meth c T locs k' n' hx hby X t r => XS.astoreN X.here hx rfl (hb hby hd) rfl hv hl r
theorem Go.astore {i : Nat} {v : Value} (hd : decode code pc = .ok (.astore i, 2)) (hq : q = pc + 2) (hv : v.isRef = true) (hl : storeLocals Ls i v = some Ls') (K : Go l Z mn code maxL ret R n0 Q h k n q Ls' (st)) : Go l Z mn code maxL ret R n0 Q h k n pc Ls (v :: st) := by
  subst hq
  exact K.plain fun p e s m args below meth c T locs k' n' hx hby X t r => XS.astore X.here hx rfl (hb hby hd) rfl hv hl r
theorem Go.iconst {i : Int} {x : Int32} (hd : decode code pc = .ok (.iconst i, 1)) (hq : q = pc + 1) (hi : Int32.ofInt i = x) (K : Go l Z mn code maxL ret R n0 Q h k n q Ls (.int x :: st)) : Go l Z mn code maxL ret R n0 Q h k n pc Ls (st) := by
  subst hq
  exact K.plain fun p e s m args below meth c T locs k' n' hx hby X t r => XS.iconst X.here hx rfl (hb hby hd) (by rw [hi]; exact r)
theorem Go.bipush {i : Int} {x : Int32} (hd : decode code pc = .ok (.bipush i, 2)) (hq : q = pc + 2) (hi : (Int8.ofInt i).toInt32 = x) (K : Go l Z mn code maxL ret R n0 Q h k n q Ls (.int x :: st)) : Go l Z mn code maxL ret R n0 Q h k n pc Ls (st) := by
  subst hq
  exact K.plain fun p e s m args below meth c T locs k' n' hx hby X t r => XS.bipush X.here hx rfl (hb hby hd) (by rw [hi]; exact r)
theorem Go.sipush {i : Int} {x : Int32} (hd : decode code pc = .ok (.sipush i, 3)) (hq : q = pc + 3) (hi : (Int16.ofInt i).toInt32 = x) (K : Go l Z mn code maxL ret R n0 Q h k n q Ls (.int x :: st)) : Go l Z mn code maxL ret R n0 Q h k n pc Ls (st) := by
  subst hq
  exact K.plain fun p e s m args below meth c T locs k' n' hx hby X t r => XS.sipush X.here hx rfl (hb hby hd) (by rw [hi]; exact r)
theorem Go.lconst {i : Fin 2} {x : Int64} (hd : decode code pc = .ok (.lconst i, 1)) (hq : q = pc + 1) (hi : Int64.ofNat i = x) (K : Go l Z mn code maxL ret R n0 Q h k n q Ls (.long x :: st)) : Go l Z mn code maxL ret R n0 Q h k n pc Ls (st) := by
  subst hq
  exact K.plain fun p e s m args below meth c T locs k' n' hx hby X t r => XT.lconst X.here hx rfl (hb hby hd) (by rw [hi]; exact r)
theorem Go.aconstNull (hd : decode code pc = .ok (.aconst_null, 1)) (hq : q = pc + 1) (K : Go l Z mn code maxL ret R n0 Q h k n q Ls (.null :: st)) : Go l Z mn code maxL ret R n0 Q h k n pc Ls (st) := by
  subst hq
  exact K.plain fun p e s m args below meth c T locs k' n' hx hby X t r => XS.aconstNull X.here hx rfl (hb hby hd) r
theorem Go.iadd {x y : Int32} (hd : decode code pc = .ok (.iadd, 1)) (hq : q = pc + 1) (K : Go l Z mn code maxL ret R n0 Q h k n q Ls (.int (x + y) :: st)) : Go l Z mn code maxL ret R n0 Q h k n pc Ls (.int y :: .int x :: st) := by
  subst hq
  exact K.plain fun p e s m args below meth c T locs k' n' hx hby X t r => XS.iadd X.here hx rfl (hb hby hd) rfl r
theorem Go.isub {x y : Int32} (hd : decode code pc = .ok (.isub, 1)) (hq : q = pc + 1) (K : Go l Z mn code maxL ret R n0 Q h k n q Ls (.int (x - y) :: st)) : Go l Z mn code maxL ret R n0 Q h k n pc Ls (.int y :: .int x :: st) := by
  subst hq
  exact K.plain fun p e s m args below meth c T locs k' n' hx hby X t r => XS.isub X.here hx rfl (hb hby hd) rfl r
theorem Go.iand {x y : Int32} (hd : decode code pc = .ok (.iand, 1)) (hq : q = pc + 1) (K : Go l Z mn code maxL ret R n0 Q h k n q Ls (.int (x &&& y) :: st)) : Go l Z mn code maxL ret R n0 Q h k n pc Ls (.int y :: .int x :: st) := by
  subst hq
  exact K.plain fun p e s m args below meth c T locs k' n' hx hby X t r => XS.iand X.here hx rfl (hb hby hd) rfl r
theorem Go.imul {x y : Int32} (hd : decode code pc = .ok (.imul, 1)) (hq : q = pc + 1) (K : Go l Z mn code maxL ret R n0 Q h k n q Ls (.int (x * y) :: st)) : Go l Z mn code maxL ret R n0 Q h k n pc Ls (.int y :: .int x :: st) := by
  subst hq
  exact K.plain fun p e s m args below meth c T locs k' n' hx hby X t r => XS.imul X.here hx rfl (hb hby hd) rfl r
theorem Go.ixor {x y : Int32} (hd : decode code pc = .ok (.ixor, 1)) (hq : q = pc + 1) (K : Go l Z mn code maxL ret R n0 Q h k n q Ls (.int (x ^^^ y) :: st)) : Go l Z mn code maxL ret R n0 Q h k n pc Ls (.int y :: .int x :: st) := by
  subst hq
  exact K.plain fun p e s m args below meth c T locs k' n' hx hby X t r => XT.ixor X.here hx rfl (hb hby hd) rfl r
theorem Go.ior {x y : Int32} (hd : decode code pc = .ok (.ior, 1)) (hq : q = pc + 1) (K : Go l Z mn code maxL ret R n0 Q h k n q Ls (.int (x ||| y) :: st)) : Go l Z mn code maxL ret R n0 Q h k n pc Ls (.int y :: .int x :: st) := by
  subst hq
  exact K.plain fun p e s m args below meth c T locs k' n' hx hby X t r => XT.ior X.here hx rfl (hb hby hd) rfl r
theorem Go.ishl {x y : Int32} (hd : decode code pc = .ok (.ishl, 1)) (hq : q = pc + 1) (K : Go l Z mn code maxL ret R n0 Q h k n q Ls (.int (x <<< (y &&& 31)) :: st)) : Go l Z mn code maxL ret R n0 Q h k n pc Ls (.int y :: .int x :: st) := by
  subst hq
  exact K.plain fun p e s m args below meth c T locs k' n' hx hby X t r => XT.ishl X.here hx rfl (hb hby hd) rfl r
theorem Go.ishr {x y : Int32} (hd : decode code pc = .ok (.ishr, 1)) (hq : q = pc + 1) (K : Go l Z mn code maxL ret R n0 Q h k n q Ls (.int (x >>> (y &&& 31)) :: st)) : Go l Z mn code maxL ret R n0 Q h k n pc Ls (.int y :: .int x :: st) := by
  subst hq
  exact K.plain fun p e s m args below meth c T locs k' n' hx hby X t r => XT.ishr X.here hx rfl (hb hby hd) rfl r
theorem Go.iushr {x y : Int32} (hd : decode code pc = .ok (.iushr, 1)) (hq : q = pc + 1) (K : Go l Z mn code maxL ret R n0 Q h k n q Ls (.int (XT.ushr x y) :: st)) : Go l Z mn code maxL ret R n0 Q h k n pc Ls (.int y :: .int x :: st) := by
  subst hq
  exact K.plain fun p e s m args below meth c T locs k' n' hx hby X t r => XT.iushr X.here hx rfl (hb hby hd) rfl r
theorem Go.ladd {x y : Int64} (hd : decode code pc = .ok (.ladd, 1)) (hq : q = pc + 1) (K : Go l Z mn code maxL ret R n0 Q h k n q Ls (.long (x + y) :: st)) : Go l Z mn code maxL ret R n0 Q h k n pc Ls (.long y :: .long x :: st) := by
  subst hq
  exact K.plain fun p e s m args below meth c T locs k' n' hx hby X t r => XT.ladd X.here hx rfl (hb hby hd) rfl r
theorem Go.lsub {x y : Int64} (hd : decode code pc = .ok (.lsub, 1)) (hq : q = pc + 1) (K : Go l Z mn code maxL ret R n0 Q h k n q Ls (.long (x - y) :: st)) : Go l Z mn code maxL ret R n0 Q h k n pc Ls (.long y :: .long x :: st) := by
  subst hq
  exact K.plain fun p e s m args below meth c T locs k' n' hx hby X t r => XT.lsub X.here hx rfl (hb hby hd) rfl r
theorem Go.lmul {x y : Int64} (hd : decode code pc = .ok (.lmul, 1)) (hq : q = pc + 1) (K : Go l Z mn code maxL ret R n0 Q h k n q Ls (.long (x * y) :: st)) : Go l Z mn code maxL ret R n0 Q h k n pc Ls (.long y :: .long x :: st) := by
  subst hq
  exact K.plain fun p e s m args below meth c T locs k' n' hx hby X t r => XT.lmul X.here hx rfl (hb hby hd) rfl r
theorem Go.land {x y : Int64} (hd : decode code pc = .ok (.land, 1)) (hq : q = pc + 1) (K : Go l Z mn code maxL ret R n0 Q h k n q Ls (.long (x &&& y) :: st)) : Go l Z mn code maxL ret R n0 Q h k n pc Ls (.long y :: .long x :: st) := by
  subst hq
  exact K.plain fun p e s m args below meth c T locs k' n' hx hby X t r => XT.land X.here hx rfl (hb hby hd) rfl r
theorem Go.lor {x y : Int64} (hd : decode code pc = .ok (.lor, 1)) (hq : q = pc + 1) (K : Go l Z mn code maxL ret R n0 Q h k n q Ls (.long (x ||| y) :: st)) : Go l Z mn code maxL ret R n0 Q h k n pc Ls (.long y :: .long x :: st) := by
  subst hq
  exact K.plain fun p e s m args below meth c T locs k' n' hx hby X t r => XT.lor X.here hx rfl (hb hby hd) rfl r
theorem Go.lxor {x y : Int64} (hd : decode code pc = .ok (.lxor, 1)) (hq : q = pc + 1) (K : Go l Z mn code maxL ret R n0 Q h k n q Ls (.long (x ^^^ y) :: st)) : Go l Z mn code maxL ret R n0 Q h k n pc Ls (.long y :: .long x :: st) := by
  subst hq
  exact K.plain fun p e s m args below meth c T locs k' n' hx hby X t r => XT.lxor X.here hx rfl (hb hby hd) rfl r
theorem Go.lshl {x : Int64} {y : Int32} (hd : decode code pc = .ok (.lshl, 1)) (hq : q = pc + 1) (K : Go l Z mn code maxL ret R n0 Q h k n q Ls (.long (x <<< (y.toInt64 &&& 63)) :: st)) : Go l Z mn code maxL ret R n0 Q h k n pc Ls (.int y :: .long x :: st) := by
  subst hq
  exact K.plain fun p e s m args below meth c T locs k' n' hx hby X t r => XT.lshl X.here hx rfl (hb hby hd) rfl r
theorem Go.lshr {x : Int64} {y : Int32} (hd : decode code pc = .ok (.lshr, 1)) (hq : q = pc + 1) (K : Go l Z mn code maxL ret R n0 Q h k n q Ls (.long (x >>> (y.toInt64 &&& 63)) :: st)) : Go l Z mn code maxL ret R n0 Q h k n pc Ls (.int y :: .long x :: st) := by
  subst hq
  exact K.plain fun p e s m args below meth c T locs k' n' hx hby X t r => XT.lshr X.here hx rfl (hb hby hd) rfl r
theorem Go.lushr {x : Int64} {y : Int32} (hd : decode code pc = .ok (.lushr, 1)) (hq : q = pc + 1) (K : Go l Z mn code maxL ret R n0 Q h k n q Ls (.long (XT.ushrL x y) :: st)) : Go l Z mn code maxL ret R n0 Q h k n pc Ls (.int y :: .long x :: st) := by
  subst hq
  exact K.plain fun p e s m args below meth c T locs k' n' hx hby X t r => XT.lushr X.here hx rfl (hb hby hd) rfl r
theorem Go.idiv {x y : Int32} (hd : decode code pc = .ok (.idiv, 1)) (hq : q = pc + 1) (hy : y ≠ 0) (K : Go l Z mn code maxL ret R n0 Q h k n q Ls (.int (x / y) :: st)) : Go l Z mn code maxL ret R n0 Q h k n pc Ls (.int y :: .int x :: st) := by
  subst hq
  exact K.plain fun p e s m args below meth c T locs k' n' hx hby X t r => XS.idiv X.here hx rfl (hb hby hd) rfl hy r
theorem Go.irem {x y : Int32} (hd : decode code pc = .ok (.irem, 1)) (hq : q = pc + 1) (hy : y ≠ 0) (K : Go l Z mn code maxL ret R n0 Q h k n q Ls (.int (x % y) :: st)) : Go l Z mn code maxL ret R n0 Q h k n pc Ls (.int y :: .int x :: st) := by
  subst hq
  exact K.plain fun p e s m args below meth c T locs k' n' hx hby X t r => XS.irem X.here hx rfl (hb hby hd) rfl hy (by rw [irem_eq_mod]; exact r)
theorem Go.lrem {x y : Int64} (hd : decode code pc = .ok (.lrem, 1)) (hq : q = pc + 1) (hy : y ≠ 0) (K : Go l Z mn code maxL ret R n0 Q h k n q Ls (.long (x % y) :: st)) : Go l Z mn code maxL ret R n0 Q h k n pc Ls (.long y :: .long x :: st) := by
  subst hq
  exact K.plain fun p e s m args below meth c T locs k' n' hx hby X t r => XT.lrem X.here hx rfl (hb hby hd) rfl hy (by rw [lrem_mod]; exact r)
theorem Go.ineg {x : Int32} (hd : decode code pc = .ok (.ineg, 1)) (hq : q = pc + 1) (K : Go l Z mn code maxL ret R n0 Q h k n q Ls (.int (-x) :: st)) : Go l Z mn code maxL ret R n0 Q h k n pc Ls (.int x :: st) := by
  subst hq
  exact K.plain fun p e s m args below meth c T locs k' n' hx hby X t r => XS.ineg X.here hx rfl (hb hby hd) rfl r
theorem Go.lneg {x : Int64} (hd : decode code pc = .ok (.lneg, 1)) (hq : q = pc + 1) (K : Go l Z mn code maxL ret R n0 Q h k n q Ls (.long (-x) :: st)) : Go l Z mn code maxL ret R n0 Q h k n pc Ls (.long x :: st) := by
  subst hq
  exact K.plain fun p e s m args below meth c T locs k' n' hx hby X t r => XT.lneg X.here hx rfl (hb hby hd) rfl r
theorem Go.i2l {x : Int32} (hd : decode code pc = .ok (.i2l, 1)) (hq : q = pc + 1) (K : Go l Z mn code maxL ret R n0 Q h k n q Ls (.long x.toInt64 :: st)) : Go l Z mn code maxL ret R n0 Q h k n pc Ls (.int x :: st) := by
  subst hq
  exact K.plain fun p e s m args below meth c T locs k' n' hx hby X t r => XT.i2l X.here hx rfl (hb hby hd) rfl r
theorem Go.l2i {x : Int64} (hd : decode code pc = .ok (.l2i, 1)) (hq : q = pc + 1) (K : Go l Z mn code maxL ret R n0 Q h k n q Ls (.int x.toInt32 :: st)) : Go l Z mn code maxL ret R n0 Q h k n pc Ls (.long x :: st) := by
  subst hq
  exact K.plain fun p e s m args below meth c T locs k' n' hx hby X t r => XT.l2i X.here hx rfl (hb hby hd) rfl r
theorem Go.i2b {x : Int32} (hd : decode code pc = .ok (.i2b, 1)) (hq : q = pc + 1) (K : Go l Z mn code maxL ret R n0 Q h k n q Ls (.int x.toInt8.toInt32 :: st)) : Go l Z mn code maxL ret R n0 Q h k n pc Ls (.int x :: st) := by
  subst hq
  exact K.plain fun p e s m args below meth c T locs k' n' hx hby X t r => XT.i2b X.here hx rfl (hb hby hd) rfl r
theorem Go.i2s {x : Int32} (hd : decode code pc = .ok (.i2s, 1)) (hq : q = pc + 1) (K : Go l Z mn code maxL ret R n0 Q h k n q Ls (.int x.toInt16.toInt32 :: st)) : Go l Z mn code maxL ret R n0 Q h k n pc Ls (.int x :: st) := by
  subst hq
  exact K.plain fun p e s m args below meth c T locs k' n' hx hby X t r => XT.i2s X.here hx rfl (hb hby hd) rfl r
theorem Go.i2c {x : Int32} (hd : decode code pc = .ok (.i2c, 1)) (hq : q = pc + 1) (K : Go l Z mn code maxL ret R n0 Q h k n q Ls (.int x.toUInt32.toUInt16.toUInt32.toInt32 :: st)) : Go l Z mn code maxL ret R n0 Q h k n pc Ls (.int x :: st) := by
  subst hq
  exact K.plain fun p e s m args below meth c T locs k' n' hx hby X t r => XT.i2c X.here hx rfl (hb hby hd) rfl r
theorem Go.lcmp {x y : Int64} (hd : decode code pc = .ok (.lcmp, 1)) (hq : q = pc + 1) (K : Go l Z mn code maxL ret R n0 Q h k n q Ls (.int (XT.cmpL x y) :: st)) : Go l Z mn code maxL ret R n0 Q h k n pc Ls (.long y :: .long x :: st) := by
  subst hq
  exact K.plain fun p e s m args below meth c T locs k' n' hx hby X t r => XT.lcmp X.here hx rfl (hb hby hd) rfl r
theorem Go.iinc {i : Nat} {cst : Int} {x w : Int32} (hd : decode code pc = .ok (.iinc i cst, 3)) (hq : q = pc + 3) (hl : Ls[i]? = some (.val (.int x))) (hw : x + Int32.ofInt cst = w) (hl' : storeLocals Ls i (.int w) = some Ls') (K : Go l Z mn code maxL ret R n0 Q h k n q Ls' (st)) : Go l Z mn code maxL ret R n0 Q h k n pc Ls (st) := by
  subst hq
  exact K.plain fun p e s m args below meth c T locs k' n' hx hby X t r => XS.iinc X.here hx rfl (hb hby hd) hl (by rw [hw]; exact hl') r
theorem Go.dup {v : Value} (hd : decode code pc = .ok (.dup, 1)) (hq : q = pc + 1) (hc : v.category = 1) (K : Go l Z mn code maxL ret R n0 Q h k n q Ls (v :: v :: st)) : Go l Z mn code maxL ret R n0 Q h k n pc Ls (v :: st) := by
  subst hq
  exact K.plain fun p e s m args below meth c T locs k' n' hx hby X t r => XS.dup X.here hx rfl (hb hby hd) rfl hc r
theorem Go.pop {v : Value} (hd : decode code pc = .ok (.pop, 1)) (hq : q = pc + 1) (hc : v.category = 1) (K : Go l Z mn code maxL ret R n0 Q h k n q Ls (st)) : Go l Z mn code maxL ret R n0 Q h k n pc Ls (v :: st) := by
  subst hq
  exact K.plain fun p e s m args below meth c T locs k' n' hx hby X t r => XT.pop X.here hx rfl (hb hby hd) rfl hc r
theorem Go.dupX1 {v w : Value} (hd : decode code pc = .ok (.dup_x1, 1)) (hq : q = pc + 1) (hc : v.category = 1) (hc' : w.category = 1) (K : Go l Z mn code maxL ret R n0 Q h k n q Ls (v :: w :: v :: st)) : Go l Z mn code maxL ret R n0 Q h k n pc Ls (v :: w :: st) := by
  subst hq
  exact K.plain fun p e s m args below meth c T locs k' n' hx hby X t r => XT.dupX1 X.here hx rfl (hb hby hd) rfl hc hc' r
theorem Go.dup2 {v w : Value} (hd : decode code pc = .ok (.dup2, 1)) (hq : q = pc + 1) (hc : v.category = 1) (hc' : w.category = 1) (K : Go l Z mn code maxL ret R n0 Q h k n q Ls (v :: w :: v :: w :: st)) : Go l Z mn code maxL ret R n0 Q h k n pc Ls (v :: w :: st) := by
  subst hq
  exact K.plain fun p e s m args below meth c T locs k' n' hx hby X t r => XT.dup2 X.here hx rfl (hb hby hd) rfl hc hc' r
theorem Go.dup2L {x : Int64} (hd : decode code pc = .ok (.dup2, 1)) (hq : q = pc + 1) (K : Go l Z mn code maxL ret R n0 Q h k n q Ls (.long x :: .long x :: st)) : Go l Z mn code maxL ret R n0 Q h k n pc Ls (.long x :: st) := by
  subst hq
  exact K.plain fun p e s m args below meth c T locs k' n' hx hby X t r => XT.dup2L X.here hx rfl (hb hby hd) rfl r
theorem Go.goto {o : Int} (hd : decode code pc = .ok (.goto o, 3)) (ho : 0 ≤ (pc : Int) + o) (hq : ((pc : Int) + o).toNat = q) (K : Go l Z mn code maxL ret R n0 Q h k n q Ls st) : Go l Z mn code maxL ret R n0 Q h k n pc Ls st :=
  K.plain fun p e s m args below meth c T locs k' n' hx hby X t r => XS.goto X.here hx rfl rfl (hb hby hd) ho hq r
theorem Go.icmp_eq {x y' : Int32} {o : Int} {q' : Nat} (hd : decode code pc = .ok (.if_icmp .eq o, 3)) (ho : 0 ≤ (pc : Int) + o) (hq : ((pc : Int) + o).toNat = q) (hq' : q' = pc + 3) (K1 : x = y' → Go l Z mn code maxL ret R n0 Q h k n q Ls st) (K2 : ¬ x = y' → Go l Z mn code maxL ret R n0 Q h k n q' Ls st) : Go l Z mn code maxL ret R n0 Q h k n pc Ls (.int y' :: .int x :: st) := by
  subst hq'
  by_cases hc : x = y'
  · exact (K1 hc).plain fun p e s m args below meth c T locs k' n' hx hby X t r => XS.icmpYes X.here hx rfl rfl (hb hby hd) rfl (teq hc).1 ho hq r
  · exact (K2 (hc)).plain fun p e s m args below meth c T locs k' n' hx hby X t r => XS.icmpNo X.here hx rfl (hb hby hd) rfl (feq (hc)).1 r
theorem Go.if_eq {x : Int32} {o : Int} {q' : Nat} (hd : decode code pc = .ok (.ifCond .eq o, 3)) (ho : 0 ≤ (pc : Int) + o) (hq : ((pc : Int) + o).toNat = q) (hq' : q' = pc + 3) (K1 : x = 0 → Go l Z mn code maxL ret R n0 Q h k n q Ls st) (K2 : ¬ x = 0 → Go l Z mn code maxL ret R n0 Q h k n q' Ls st) : Go l Z mn code maxL ret R n0 Q h k n pc Ls (.int x :: st) := by
  subst hq'
  by_cases hc : x = 0
  · exact (K1 hc).plain fun p e s m args below meth c T locs k' n' hx hby X t r => XS.ifYes X.here hx rfl rfl (hb hby hd) rfl ((if0 _ _).trans (teq hc).1) ho hq r
  · exact (K2 (hc)).plain fun p e s m args below meth c T locs k' n' hx hby X t r => XS.ifNo X.here hx rfl (hb hby hd) rfl ((if0 _ _).trans (feq (hc)).1) r
theorem Go.icmp_ne {x y' : Int32} {o : Int} {q' : Nat} (hd : decode code pc = .ok (.if_icmp .ne o, 3)) (ho : 0 ≤ (pc : Int) + o) (hq : ((pc : Int) + o).toNat = q) (hq' : q' = pc + 3) (K1 : ¬ x = y' → Go l Z mn code maxL ret R n0 Q h k n q Ls st) (K2 : x = y' → Go l Z mn code maxL ret R n0 Q h k n q' Ls st) : Go l Z mn code maxL ret R n0 Q h k n pc Ls (.int y' :: .int x :: st) := by
  subst hq'
  by_cases hc : ¬ x = y'
  · exact (K1 hc).plain fun p e s m args below meth c T locs k' n' hx hby X t r => XS.icmpYes X.here hx rfl rfl (hb hby hd) rfl (feq hc).2 ho hq r
  · exact (K2 (Decidable.not_not.mp hc)).plain fun p e s m args below meth c T locs k' n' hx hby X t r => XS.icmpNo X.here hx rfl (hb hby hd) rfl (teq (Decidable.not_not.mp hc)).2 r
theorem Go.if_ne {x : Int32} {o : Int} {q' : Nat} (hd : decode code pc = .ok (.ifCond .ne o, 3)) (ho : 0 ≤ (pc : Int) + o) (hq : ((pc : Int) + o).toNat = q) (hq' : q' = pc + 3) (K1 : ¬ x = 0 → Go l Z mn code maxL ret R n0 Q h k n q Ls st) (K2 : x = 0 → Go l Z mn code maxL ret R n0 Q h k n q' Ls st) : Go l Z mn code maxL ret R n0 Q h k n pc Ls (.int x :: st) := by
  subst hq'
  by_cases hc : ¬ x = 0
  · exact (K1 hc).plain fun p e s m args below meth c T locs k' n' hx hby X t r => XS.ifYes X.here hx rfl rfl (hb hby hd) rfl ((if0 _ _).trans (feq hc).2) ho hq r
  · exact (K2 (Decidable.not_not.mp hc)).plain fun p e s m args below meth c T locs k' n' hx hby X t r => XS.ifNo X.here hx rfl (hb hby hd) rfl ((if0 _ _).trans (teq (Decidable.not_not.mp hc)).2) r
theorem Go.icmp_lt {x y' : Int32} {o : Int} {q' : Nat} (hd : decode code pc = .ok (.if_icmp .lt o, 3)) (ho : 0 ≤ (pc : Int) + o) (hq : ((pc : Int) + o).toNat = q) (hq' : q' = pc + 3) (K1 : x < y' → Go l Z mn code maxL ret R n0 Q h k n q Ls st) (K2 : ¬ x < y' → Go l Z mn code maxL ret R n0 Q h k n q' Ls st) : Go l Z mn code maxL ret R n0 Q h k n pc Ls (.int y' :: .int x :: st) := by
  subst hq'
  by_cases hc : x < y'
  · exact (K1 hc).plain fun p e s m args below meth c T locs k' n' hx hby X t r => XS.icmpYes X.here hx rfl rfl (hb hby hd) rfl (tlt hc).1 ho hq r
  · exact (K2 (hc)).plain fun p e s m args below meth c T locs k' n' hx hby X t r => XS.icmpNo X.here hx rfl (hb hby hd) rfl (flt (hc)).1 r
theorem Go.if_lt {x : Int32} {o : Int} {q' : Nat} (hd : decode code pc = .ok (.ifCond .lt o, 3)) (ho : 0 ≤ (pc : Int) + o) (hq : ((pc : Int) + o).toNat = q) (hq' : q' = pc + 3) (K1 : x < 0 → Go l Z mn code maxL ret R n0 Q h k n q Ls st) (K2 : ¬ x < 0 → Go l Z mn code maxL ret R n0 Q h k n q' Ls st) : Go l Z mn code maxL ret R n0 Q h k n pc Ls (.int x :: st) := by
  subst hq'
  by_cases hc : x < 0
  · exact (K1 hc).plain fun p e s m args below meth c T locs k' n' hx hby X t r => XS.ifYes X.here hx rfl rfl (hb hby hd) rfl ((if0 _ _).trans (tlt hc).1) ho hq r
  · exact (K2 (hc)).plain fun p e s m args below meth c T locs k' n' hx hby X t r => XS.ifNo X.here hx rfl (hb hby hd) rfl ((if0 _ _).trans (flt (hc)).1) r
theorem Go.icmp_ge {x y' : Int32} {o : Int} {q' : Nat} (hd : decode code pc = .ok (.if_icmp .ge o, 3)) (ho : 0 ≤ (pc : Int) + o) (hq : ((pc : Int) + o).toNat = q) (hq' : q' = pc + 3) (K1 : ¬ x < y' → Go l Z mn code maxL ret R n0 Q h k n q Ls st) (K2 : x < y' → Go l Z mn code maxL ret R n0 Q h k n q' Ls st) : Go l Z mn code maxL ret R n0 Q h k n pc Ls (.int y' :: .int x :: st) := by
  subst hq'
  by_cases hc : ¬ x < y'
  · exact (K1 hc).plain fun p e s m args below meth c T locs k' n' hx hby X t r => XS.icmpYes X.here hx rfl rfl (hb hby hd) rfl (flt hc).2.1 ho hq r
  · exact (K2 (Decidable.not_not.mp hc)).plain fun p e s m args below meth c T locs k' n' hx hby X t r => XS.icmpNo X.here hx rfl (hb hby hd) rfl (tlt (Decidable.not_not.mp hc)).2.1 r
theorem Go.if_ge {x : Int32} {o : Int} {q' : Nat} (hd : decode code pc = .ok (.ifCond .ge o, 3)) (ho : 0 ≤ (pc : Int) + o) (hq : ((pc : Int) + o).toNat = q) (hq' : q' = pc + 3) (K1 : ¬ x < 0 → Go l Z mn code maxL ret R n0 Q h k n q Ls st) (K2 : x < 0 → Go l Z mn code maxL ret R n0 Q h k n q' Ls st) : Go l Z mn code maxL ret R n0 Q h k n pc Ls (.int x :: st) := by
  subst hq'
  by_cases hc : ¬ x < 0
  · exact (K1 hc).plain fun p e s m args below meth c T locs k' n' hx hby X t r => XS.ifYes X.here hx rfl rfl (hb hby hd) rfl ((if0 _ _).trans (flt hc).2.1) ho hq r
  · exact (K2 (Decidable.not_not.mp hc)).plain fun p e s m args below meth c T locs k' n' hx hby X t r => XS.ifNo X.here hx rfl (hb hby hd) rfl ((if0 _ _).trans (tlt (Decidable.not_not.mp hc)).2.1) r
theorem Go.icmp_gt {x y' : Int32} {o : Int} {q' : Nat} (hd : decode code pc = .ok (.if_icmp .gt o, 3)) (ho : 0 ≤ (pc : Int) + o) (hq : ((pc : Int) + o).toNat = q) (hq' : q' = pc + 3) (K1 : y' < x → Go l Z mn code maxL ret R n0 Q h k n q Ls st) (K2 : ¬ y' < x → Go l Z mn code maxL ret R n0 Q h k n q' Ls st) : Go l Z mn code maxL ret R n0 Q h k n pc Ls (.int y' :: .int x :: st) := by
  subst hq'
  by_cases hc : y' < x
  · exact (K1 hc).plain fun p e s m args below meth c T locs k' n' hx hby X t r => XS.icmpYes X.here hx rfl rfl (hb hby hd) rfl (tlt hc).2.2.1 ho hq r
  · exact (K2 (hc)).plain fun p e s m args below meth c T locs k' n' hx hby X t r => XS.icmpNo X.here hx rfl (hb hby hd) rfl (flt (hc)).2.2.1 r
theorem Go.if_gt {x : Int32} {o : Int} {q' : Nat} (hd : decode code pc = .ok (.ifCond .gt o, 3)) (ho : 0 ≤ (pc : Int) + o) (hq : ((pc : Int) + o).toNat = q) (hq' : q' = pc + 3) (K1 : 0 < x → Go l Z mn code maxL ret R n0 Q h k n q Ls st) (K2 : ¬ 0 < x → Go l Z mn code maxL ret R n0 Q h k n q' Ls st) : Go l Z mn code maxL ret R n0 Q h k n pc Ls (.int x :: st) := by
  subst hq'
  by_cases hc : 0 < x
  · exact (K1 hc).plain fun p e s m args below meth c T locs k' n' hx hby X t r => XS.ifYes X.here hx rfl rfl (hb hby hd) rfl ((if0 _ _).trans (tlt hc).2.2.1) ho hq r
  · exact (K2 (hc)).plain fun p e s m args below meth c T locs k' n' hx hby X t r => XS.ifNo X.here hx rfl (hb hby hd) rfl ((if0 _ _).trans (flt (hc)).2.2.1) r
theorem Go.icmp_le {x y' : Int32} {o : Int} {q' : Nat} (hd : decode code pc = .ok (.if_icmp .le o, 3)) (ho : 0 ≤ (pc : Int) + o) (hq : ((pc : Int) + o).toNat = q) (hq' : q' = pc + 3) (K1 : ¬ y' < x → Go l Z mn code maxL ret R n0 Q h k n q Ls st) (K2 : y' < x → Go l Z mn code maxL ret R n0 Q h k n q' Ls st) : Go l Z mn code maxL ret R n0 Q h k n pc Ls (.int y' :: .int x :: st) := by
  subst hq'
  by_cases hc : ¬ y' < x
  · exact (K1 hc).plain fun p e s m args below meth c T locs k' n' hx hby X t r => XS.icmpYes X.here hx rfl rfl (hb hby hd) rfl (flt hc).2.2.2 ho hq r
  · exact (K2 (Decidable.not_not.mp hc)).plain fun p e s m args below meth c T locs k' n' hx hby X t r => XS.icmpNo X.here hx rfl (hb hby hd) rfl (tlt (Decidable.not_not.mp hc)).2.2.2 r
theorem Go.if_le {x : Int32} {o : Int} {q' : Nat} (hd : decode code pc = .ok (.ifCond .le o, 3)) (ho : 0 ≤ (pc : Int) + o) (hq : ((pc : Int) + o).toNat = q) (hq' : q' = pc + 3) (K1 : ¬ 0 < x → Go l Z mn code maxL ret R n0 Q h k n q Ls st) (K2 : 0 < x → Go l Z mn code maxL ret R n0 Q h k n q' Ls st) : Go l Z mn code maxL ret R n0 Q h k n pc Ls (.int x :: st) := by
  subst hq'
  by_cases hc : ¬ 0 < x
  · exact (K1 hc).plain fun p e s m args below meth c T locs k' n' hx hby X t r => XS.ifYes X.here hx rfl rfl (hb hby hd) rfl ((if0 _ _).trans (flt hc).2.2.2) ho hq r
  · exact (K2 (Decidable.not_not.mp hc)).plain fun p e s m args below meth c T locs k' n' hx hby X t r => XS.ifNo X.here hx rfl (hb hby hd) rfl ((if0 _ _).trans (tlt (Decidable.not_not.mp hc)).2.2.2) r
theorem Go.ifnull {v : Value} {o : Int} {q' : Nat} (hd : decode code pc = .ok (.ifnull o, 3)) (ho : 0 ≤ (pc : Int) + o) (hq : ((pc : Int) + o).toNat = q) (hq' : q' = pc + 3) (hv : v.isRef = true) (K1 : v = .null → Go l Z mn code maxL ret R n0 Q h k n q Ls st) (K2 : ∀ a, v = .ref a → Go l Z mn code maxL ret R n0 Q h k n q' Ls st) : Go l Z mn code maxL ret R n0 Q h k n pc Ls (v :: st) := by
  subst hq'
  rcases ref_cases hv with rfl | ⟨a, rfl⟩
  · exact (K1 rfl).plain fun p e s m args below meth c T locs k' n' hx hby X t r => XS.ifnullYes X.here hx rfl rfl (hb hby hd) rfl ho hq r
  · exact (K2 a rfl).plain fun p e s m args below meth c T locs k' n' hx hby X t r => XS.ifnullNo X.here hx rfl (hb hby hd) rfl r
theorem Go.ifnonnull {v : Value} {o : Int} {q' : Nat} (hd : decode code pc = .ok (.ifnonnull o, 3)) (ho : 0 ≤ (pc : Int) + o) (hq : ((pc : Int) + o).toNat = q) (hq' : q' = pc + 3) (hv : v.isRef = true) (K1 : ∀ a, v = .ref a → Go l Z mn code maxL ret R n0 Q h k n q Ls st) (K2 : v = .null → Go l Z mn code maxL ret R n0 Q h k n q' Ls st) : Go l Z mn code maxL ret R n0 Q h k n pc Ls (v :: st) := by
  subst hq'
  rcases ref_cases hv with rfl | ⟨a, rfl⟩
  · exact (K2 rfl).plain fun p e s m args below meth c T locs k' n' hx hby X t r => XT.ifnonnullNo X.here hx rfl (hb hby hd) rfl r
  · exact (K1 a rfl).plain fun p e s m args below meth c T locs k' n' hx hby X t r => XT.ifnonnullYes X.here hx rfl rfl (hb hby hd) rfl ho hq r
theorem Go.acmp_eq {v w : Value} {o : Int} {q' : Nat} (hd : decode code pc = .ok (.if_acmp .eq o, 3)) (ho : 0 ≤ (pc : Int) + o) (hq : ((pc : Int) + o).toNat = q) (hq' : q' = pc + 3) (hv : v.isRef = true) (hw : w.isRef = true) (K1 : v = w → Go l Z mn code maxL ret R n0 Q h k n q Ls st) (K2 : ¬ v = w → Go l Z mn code maxL ret R n0 Q h k n q' Ls st) : Go l Z mn code maxL ret R n0 Q h k n pc Ls (w :: v :: st) := by
  subst hq'
  by_cases hc : v = w
  · exact (K1 hc).plain fun p e s m args below meth c T locs k' n' hx hby X t r => RoadKit.acmp X hx rfl hv hw rfl (hb hby hd) rfl (same := true) (by simp [hc]) ho (by simp [acV, hq]) r
  · exact (K2 hc).plain fun p e s m args below meth c T locs k' n' hx hby X t r => RoadKit.acmp X hx rfl hv hw rfl (hb hby hd) rfl (same := false) (by simp [hc]) ho (by simp [acV]) r
theorem Go.acmp_ne {v w : Value} {o : Int} {q' : Nat} (hd : decode code pc = .ok (.if_acmp .ne o, 3)) (ho : 0 ≤ (pc : Int) + o) (hq : ((pc : Int) + o).toNat = q) (hq' : q' = pc + 3) (hv : v.isRef = true) (hw : w.isRef = true) (K1 : ¬ v = w → Go l Z mn code maxL ret R n0 Q h k n q Ls st) (K2 : v = w → Go l Z mn code maxL ret R n0 Q h k n q' Ls st) : Go l Z mn code maxL ret R n0 Q h k n pc Ls (w :: v :: st) := by
  subst hq'
  by_cases hc : v = w
  · exact (K2 hc).plain fun p e s m args below meth c T locs k' n' hx hby X t r => RoadKit.acmp X hx rfl hv hw rfl (hb hby hd) rfl (same := true) (by simp [hc]) ho (by simp [acV]) r
  · exact (K1 hc).plain fun p e s m args below meth c T locs k' n' hx hby X t r => RoadKit.acmp X hx rfl hv hw rfl (hb hby hd) rfl (same := false) (by simp [hc]) ho (by simp [acV, hq]) r
/-! constants of the pool -/
theorem Go.ldc {i : Nat} {v : Int32} (hd : decode code pc = .ok (.ldc i, 2)) (hq : q = pc + 2) (w : (Jvm.Cond.constant mn.cls i v).before a0 Z = true) (K : Go l Z mn code maxL ret R n0 Q h k n q Ls (.int v :: st)) : Go l Z mn code maxL ret R n0 Q h k n pc Ls st := by
  subst hq
  exact fun p e s m args below meth c T locs k' n' C X hk hn N eT => (K p e s m args below meth c T locs k' n' C X hk hn N eT).step fun t r => X.ldcI C.1 C.2.2.2.2.1 (mvT C.2.1 w) rfl (hb C.2.2.1 hd) r
theorem Go.ldcW {i : Nat} {v : Int32} (hd : decode code pc = .ok (.ldc_w i, 3)) (hq : q = pc + 3) (w : (Jvm.Cond.constant mn.cls i v).before a0 Z = true) (K : Go l Z mn code maxL ret R n0 Q h k n q Ls (.int v :: st)) : Go l Z mn code maxL ret R n0 Q h k n pc Ls st := by
  subst hq
  exact fun p e s m args below meth c T locs k' n' C X hk hn N eT => (K p e s m args below meth c T locs k' n' C X hk hn N eT).step fun t r => X.ldcWI C.1 C.2.2.2.2.1 (mvT C.2.1 w) rfl (hb C.2.2.1 hd) r
theorem Go.ldc2 {i : Nat} {v : Int64} (hd : decode code pc = .ok (.ldc2_w i, 3)) (hq : q = pc + 3) (w : (Jvm.Cond.constantLong mn.cls i v).before a0 Z = true) (K : Go l Z mn code maxL ret R n0 Q h k n q Ls (.long v :: st)) : Go l Z mn code maxL ret R n0 Q h k n pc Ls st := by
  subst hq
  exact fun p e s m args below meth c T locs k' n' C X hk hn N eT => (K p e s m args below meth c T locs k' n' C X hk hn N eT).step fun t r => X.ldc2J C.1 C.2.2.2.2.1 (mvT C.2.1 w) rfl (hb C.2.2.1 hd) r
/-! statics and fields -/
theorem Go.getS {i : Nat} {O nm d : String} {v : Value} (hd : decode code pc = .ok (.getstatic i, 3)) (hq : q = pc + 3) (w : (Jvm.Cond.fieldLink mn.cls i O nm d).before a0 Z = true) (F : Sta Z h O nm d v) (K : Go l Z mn code maxL ret R n0 Q h k n q Ls (v :: st)) : Go l Z mn code maxL ret R n0 Q h k n pc Ls st := by
  subst hq
  intro p e s m args below meth c T locs k' n' C X hk hn N eT
  obtain ⟨T', X', e', f⟩ := RoadKit.getS (host := "") X C.1 C.2.1 C.2.2.2.2.1 w Via.refl eT F (g := mkF m pc Ls st) rfl (hb C.2.2.1 hd)
  exact (K p e s m args below meth c T' locs k' n' C X' hk hn N e').step f
theorem Go.getF {i : Nat} {R0 O nm d host : String} {a : Addr} {v : Value} (hd : decode code pc = .ok (.getfield i, 3)) (hq : q = pc + 3) (w : (Jvm.Cond.fieldLink mn.cls i R0 nm d).before a0 Z = true ∨ (Jvm.Cond.fieldLinkNest mn.cls i R0 nm d host).before a0 Z = true) (via : Via Z R0 O nm d) (F : Fld Z h a O nm d v) (K : Go l Z mn code maxL ret R n0 Q h k n q Ls (v :: st)) : Go l Z mn code maxL ret R n0 Q h k n pc Ls (.ref a :: st) := by
  subst hq
  intro p e s m args below meth c T locs k' n' C X hk hn N eT
  obtain ⟨T', X', e', f⟩ := RoadKit.getF X C.1 C.2.1 C.2.2.2.2.1 w via eT F (g := mkF m pc Ls (.ref a :: st)) rfl rfl (hb C.2.2.1 hd)
  exact (K p e s m args below meth c T' locs k' n' C X' hk hn N e').step f
theorem Go.putF {i kk : Nat} {R0 O nm d host C : String} {a : Addr} {v old : Value} {ty : FieldType} (hd : decode code pc = .ok (.putfield i, 3)) (hq : q = pc + 3) (w : (Jvm.Cond.fieldLink mn.cls i R0 nm d).before a0 Z = true ∨ (Jvm.Cond.fieldLinkNest mn.cls i R0 nm d host).before a0 Z = true) (via : Via Z R0 O nm d) (F : Fld Z h a O nm d old) (E : Exa Z h a C) (L : (Jvm.Cond.lays C O nm d).before a0 Z = true ∨ ((Jvm.Cond.laysFinal C O nm d).before a0 Z = true ∧ mn.cls = O ∧ mn.name = "<init>")) (wi : (Jvm.Cond.instantiable C kk).before a0 Z = true)
    (hty : parseFieldDescriptor d = some ty) (hna : narrow ty v = v) (hf : fits ty v = true) (ha : n0 ≤ a) (K : ∀ h', Wr h h' a (RoadKit.slotOf Z O nm d) v → Go l Z mn code maxL ret R n0 Q h' k n q Ls st) : Go l Z mn code maxL ret R n0 Q h k n pc Ls (v :: .ref a :: st) := by
  subst hq
  intro p e s m args below meth c T locs k' n' Cc X hk hn N eT
  obtain ⟨T', h', X', e', W, f⟩ := RoadKit.putF X Cc.1 Cc.2.1 Cc.2.2.2.2.1 w via eT F E (L.imp id fun q => ⟨q.1, q.2.1, Cc.2.2.2.2.2.2.2.trans q.2.2⟩) wi hty hna hf (g := mkF m pc Ls (v :: .ref a :: st)) rfl rfl (hb Cc.2.2.1 hd)
  exact (K h' W p e s m args below meth c T' _ k' n' Cc X' hk hn (Fr.snoc X' N ha) e').step f
theorem Go.cast {i : Nat} {Kc : String} {a : Addr} (hd : decode code pc = .ok (.checkcast i, 3)) (hq : q = pc + 3) (w : (Jvm.Cond.classLink mn.cls i Kc).before a0 Z = true) (F : Ins Z h a Kc true) (K : Go l Z mn code maxL ret R n0 Q h k n q Ls (.ref a :: st)) : Go l Z mn code maxL ret R n0 Q h k n pc Ls (.ref a :: st) := by
  subst hq
  intro p e s m args below meth c T locs k' n' C X hk hn N eT
  obtain ⟨T', X', e', f⟩ := castY X C.1 C.2.1 C.2.2.2.2.1 w eT F (g := mkF m pc Ls (.ref a :: st)) rfl rfl (hb C.2.2.1 hd)
  exact (K p e s m args below meth c T' locs k' n' C X' hk hn N e').step f
/-! new, arrays -/
theorem Go.new {i kk : Nat} {C : String} (hd : decode code pc = .ok (.new i, 3)) (hq : q = pc + 3) (w : (Jvm.Cond.classLink mn.cls i C).before a0 Z = true) (wi : (Jvm.Cond.instantiable C kk).before a0 Z = true) (wz : (Jvm.Cond.initialized C).before a0 Z = true) (hc : k + 1 ≤ R.cells) (hs : n + kk ≤ R.slots)
    (K : ∀ h' a, a = h.size → Ext h h' → Exa Z h' a C → (∀ {O nm d : String} {ty : FieldType}, Laid Z a0 C O nm d → parseFieldDescriptor d = some ty → Fld Z h' a O nm d (defaultValue ty)) → Go l Z mn code maxL ret R n0 Q h' (k + 1) (n + kk) q Ls (.ref a :: st)) : Go l Z mn code maxL ret R n0 Q h k n pc Ls st := by
  subst hq
  intro p e s m args below meth c T locs k' n' Cc X hk hn N eT
  obtain ⟨T', h', X', e', E, A, D, -, f⟩ := newO X Cc.1 Cc.2.1 Cc.2.2.2.2.1 w wi wz eT (g := mkF m pc Ls st) rfl (hb Cc.2.2.1 hd) (by omega) (by omega)
  exact (K h' h.size rfl E A (fun L t => D L t) p e s m args below meth c T' locs _ _ Cc X' (by omega) (by omega) N e').step f
theorem Go.initObj {i wd : Nat} {a : Addr} (hd : decode code pc = .ok (.invokespecial i, 3)) (hq : q = pc + 3) (w1 : (Jvm.Cond.methodLink mn.cls i Lib.objectInit).before a0 Z = true) (w2 : (Jvm.Cond.instanceMethod Lib.objectInit).before a0 Z = true) (w3 : (Jvm.Cond.code Lib.objectInit ⟨#[0xb1]⟩ 1 none).before a0 Z = true) (hsz : Ls.size = maxL) (hf : 1 ≤ R.frames) (hW : (st.map fun v => v.category).sum = wd) (hl : wd + 12 ≤ R.locals) (K : Go l Z mn code maxL ret R n0 Q h k n q Ls st) : Go l Z mn code maxL ret R n0 Q h k n pc Ls (.ref a :: st) := by
  subst hq
  intro p e s m args below meth c T locs k' n' C X hk hn N eT
  obtain ⟨T', X', e', f⟩ := initO X C.1 C.2.1 C.2.2.2.2.1 w1 w2 w3 eT (g := mkF m pc Ls (.ref a :: st)) rfl (by rw [C.2.2.2.1]; exact hsz) rfl (hb C.2.2.1 hd) hf (W := wd) (by simp [hW]) hl
  exact (K p e s m args below meth c T' locs k' n' C X' hk hn N e').step f

end Laws
theorem cmpL_eq (x y : Int64) : XT.cmpL x y = 0 ↔ x = y := by
  unfold XT.cmpL
  by_cases h1 : y < x
  · rw [if_pos h1]; constructor
    · intro e; exact absurd e (by decide)
    · rintro rfl; exact absurd h1 Int64.lt_irrefl
  · rw [if_neg h1]
    by_cases h2 : x = y
    · simp [h2]
    · rw [if_neg h2]; constructor
      · intro e; exact absurd e (by decide)
      · intro e; exact absurd e h2
theorem cmpL_lt (x y : Int64) : XT.cmpL x y < 0 ↔ x < y := by
  unfold XT.cmpL
  by_cases h1 : y < x
  · rw [if_pos h1]; constructor
    · intro e; exact absurd e (by decide)
    · intro e; rw [Int64.lt_iff_toInt_lt] at e h1; omega
  · rw [if_neg h1]
    by_cases h2 : x = y
    · rw [if_pos h2]; constructor
      · intro e; exact absurd e (by decide)
      · intro e; rw [h2] at e; exact absurd e Int64.lt_irrefl
    · rw [if_neg h2]; constructor
      · intro _; rw [Int64.lt_iff_toInt_lt] at h1 ⊢; rw [← Int64.toInt_inj] at h2; omega
      · intro _; decide
theorem cmpL_gt (x y : Int64) : 0 < XT.cmpL x y ↔ y < x := by
  unfold XT.cmpL
  by_cases h1 : y < x
  · rw [if_pos h1]; constructor
    · intro _; exact h1
    · intro _; decide
  · rw [if_neg h1]
    by_cases h2 : x = y
    · rw [if_pos h2]; constructor
      · intro e; exact absurd e (by decide)
      · intro e; exact absurd e h1
    · rw [if_neg h2]; constructor
      · intro e; exact absurd e (by decide)
      · intro e; exact absurd e h1
section Laws2
variable {l : Launch} {Z : State} {mn : MethodName} {code : ByteArray} {maxL : Nat} {ret : Option FieldType} {R : Room} {n0 : Nat} {Q : Option Value → Heap → Prop} {h : Heap} {k n pc q : Nat} {Ls Ls' : Array Slot} {st st' : List Value} {a0 : Array Value}
theorem Go.lif_eq {x y' : Int64} {o : Int} {q' : Nat} (hd : decode code pc = .ok (.ifCond .eq o, 3)) (ho : 0 ≤ (pc : Int) + o) (hq : ((pc : Int) + o).toNat = q) (hq' : q' = pc + 3) (K1 : x = y' → Go l Z mn code maxL ret R n0 Q h k n q Ls st) (K2 : ¬ x = y' → Go l Z mn code maxL ret R n0 Q h k n q' Ls st) : Go l Z mn code maxL ret R n0 Q h k n pc Ls (.int (XT.cmpL x y') :: st) :=
  Go.if_eq hd ho hq hq' (fun c => K1 ((cmpL_eq _ _).mp c)) (fun c => K2 fun e => c ((cmpL_eq _ _).mpr e))
theorem Go.lif_ne {x y' : Int64} {o : Int} {q' : Nat} (hd : decode code pc = .ok (.ifCond .ne o, 3)) (ho : 0 ≤ (pc : Int) + o) (hq : ((pc : Int) + o).toNat = q) (hq' : q' = pc + 3) (K1 : ¬ x = y' → Go l Z mn code maxL ret R n0 Q h k n q Ls st) (K2 : x = y' → Go l Z mn code maxL ret R n0 Q h k n q' Ls st) : Go l Z mn code maxL ret R n0 Q h k n pc Ls (.int (XT.cmpL x y') :: st) :=
  Go.if_ne hd ho hq hq' (fun c => K1 fun e => c ((cmpL_eq _ _).mpr e)) (fun c => K2 ((cmpL_eq _ _).mp c))
theorem Go.lif_lt {x y' : Int64} {o : Int} {q' : Nat} (hd : decode code pc = .ok (.ifCond .lt o, 3)) (ho : 0 ≤ (pc : Int) + o) (hq : ((pc : Int) + o).toNat = q) (hq' : q' = pc + 3) (K1 : x < y' → Go l Z mn code maxL ret R n0 Q h k n q Ls st) (K2 : ¬ x < y' → Go l Z mn code maxL ret R n0 Q h k n q' Ls st) : Go l Z mn code maxL ret R n0 Q h k n pc Ls (.int (XT.cmpL x y') :: st) :=
  Go.if_lt hd ho hq hq' (fun c => K1 ((cmpL_lt _ _).mp c)) (fun c => K2 fun e => c ((cmpL_lt _ _).mpr e))
theorem Go.lif_ge {x y' : Int64} {o : Int} {q' : Nat} (hd : decode code pc = .ok (.ifCond .ge o, 3)) (ho : 0 ≤ (pc : Int) + o) (hq : ((pc : Int) + o).toNat = q) (hq' : q' = pc + 3) (K1 : ¬ x < y' → Go l Z mn code maxL ret R n0 Q h k n q Ls st) (K2 : x < y' → Go l Z mn code maxL ret R n0 Q h k n q' Ls st) : Go l Z mn code maxL ret R n0 Q h k n pc Ls (.int (XT.cmpL x y') :: st) :=
  Go.if_ge hd ho hq hq' (fun c => K1 fun e => c ((cmpL_lt _ _).mpr e)) (fun c => K2 ((cmpL_lt _ _).mp c))
theorem Go.lif_gt {x y' : Int64} {o : Int} {q' : Nat} (hd : decode code pc = .ok (.ifCond .gt o, 3)) (ho : 0 ≤ (pc : Int) + o) (hq : ((pc : Int) + o).toNat = q) (hq' : q' = pc + 3) (K1 : y' < x → Go l Z mn code maxL ret R n0 Q h k n q Ls st) (K2 : ¬ y' < x → Go l Z mn code maxL ret R n0 Q h k n q' Ls st) : Go l Z mn code maxL ret R n0 Q h k n pc Ls (.int (XT.cmpL x y') :: st) :=
  Go.if_gt hd ho hq hq' (fun c => K1 ((cmpL_gt _ _).mp c)) (fun c => K2 fun e => c ((cmpL_gt _ _).mpr e))
theorem Go.lif_le {x y' : Int64} {o : Int} {q' : Nat} (hd : decode code pc = .ok (.ifCond .le o, 3)) (ho : 0 ≤ (pc : Int) + o) (hq : ((pc : Int) + o).toNat = q) (hq' : q' = pc + 3) (K1 : ¬ y' < x → Go l Z mn code maxL ret R n0 Q h k n q Ls st) (K2 : y' < x → Go l Z mn code maxL ret R n0 Q h k n q' Ls st) : Go l Z mn code maxL ret R n0 Q h k n pc Ls (.int (XT.cmpL x y') :: st) :=
  Go.if_le hd ho hq hq' (fun c => K1 fun e => c ((cmpL_gt _ _).mpr e)) (fun c => K2 ((cmpL_gt _ _).mp c))
end Laws2
end Jvm.OwnKit

namespace Jvm.OwnKit
open Jvm Jvm.ClassFile Sem Op Lib Jvm.Free Jvm.Stand Jvm.LawKit Jvm.RoadKit
section Calls
variable {l : Launch} {Z : State} {mn : MethodName} {code : ByteArray} {maxL : Nat} {ret : Option FieldType} {R : Room} {n0 : Nat} {Q : Option Value → Heap → Prop} {h : Heap} {k n pc q : Nat} {Ls Ls' : Array Slot} {st st' : List Value} {a0 : Array Value}
  {y' : MethodName} {code' : ByteArray} {maxL' : Nat} {ret' : Option FieldType} {R' : Room} {Q' : Option Value → Heap → Prop} {argsL rest : List Value} {Ls1 : Array Slot} {ps : List FieldType} {r : Option FieldType} {i wd : Nat}
theorem Go.callS (hd : decode code pc = .ok (.invokestatic i, 3)) (hq : q = pc + 3) (w1 : (Jvm.Cond.methodLink mn.cls i y').before a0 Z = true) (w2 : (Jvm.Cond.static y').before a0 Z = true) (w3 : (Jvm.Cond.initialized y'.cls).before a0 Z = true) (w4 : (Jvm.Cond.code y' code' maxL' ret').before a0 Z = true)
    (hy : y'.cls ≠ "java/lang/invoke/MethodHandle" ∧ y'.cls ≠ "java/lang/invoke/VarHandle") (pn : plainFor y' = true) (pd : parseMethodDescriptor y'.desc = some ⟨ps, r⟩) (hl : argsL.length = ps.length) (hst : st = argsL.reverse ++ rest) (hef : ∀ m, entryFrame m argsL.toArray maxL' = mkF m 0 Ls1 []) (hsz : Ls.size = maxL)
    (hR1 : R'.frames + 1 ≤ R.frames) (hW : (rest.map fun v => v.category).sum = wd) (hR2 : wd + (maxL' + 11) + R'.locals ≤ R.locals) (hc : k + R'.cells ≤ R.cells) (hs : n + R'.slots ≤ R.slots)
    (G : Go l Z y' code' maxL' ret' R' n0 Q' h 0 0 0 Ls1 []) (K : ∀ v h', Q' v h' → Go l Z mn code maxL ret R n0 Q h' (k + R'.cells) (n + R'.slots) q Ls (v.toList ++ rest)) : Go l Z mn code maxL ret R n0 Q h k n pc Ls st := by
  subst hq hst hW
  intro p e s m args below meth c T locs k' n' C X hk hn N eT
  obtain ⟨v, vm1, ⟨T1, L1, k1, n1⟩, -, X1, ⟨Lc, hQ, e1, e2, e3⟩, f⟩ := Jvm.LawKit.callS X C.1 (y := y') C.2.2.2.2.1 (mvT C.2.1 w1) (mvT C.2.1 w2) (mvT C.2.1 w3) (mvT C.2.1 w4) hy (backOf (W := (rest.map fun v => v.category).sum) (Q := fun v h L => Fr n0 L ∧ Q' v h) (G.met pn hef []) C.2.1 w4 w3 hR1 hR2) (g := mkF m pc Ls (argsL.reverse ++ rest)) rfl (by rw [C.2.2.2.1]; exact hsz) (argsL := argsL) (rest := rest) (lenOf pd hl) rfl (by simp) (hb C.2.2.1 hd) (fun _ _ => ⟨rfl, eT, by show k' + _ ≤ _; omega, by show n' + _ ≤ _; omega⟩)
  dsimp only [Pt.U, Pt.locs, Pt.cells, Pt.slots] at X1 e1 e2 e3 f hQ
  subst e1 e2 e3
  exact (K v T1.heap hQ.2 p e s m args below meth c T1 _ _ _ C X1 (by omega) (by omega) (Fr.app N hQ.1) rfl).step f
theorem Go.callV {C : String} {a : Addr} (hd : decode code pc = .ok (.invokevirtual i, 3)) (hq : q = pc + 3) (w1 : (Jvm.Cond.methodLink mn.cls i y').before a0 Z = true) (w2 : (Jvm.Cond.declares y').before a0 Z = true) (w3 : (Jvm.Cond.selects C y' y').before a0 Z = true) (w4 : (Jvm.Cond.instanceMethod y').before a0 Z = true) (w5 : (Jvm.Cond.code y' code' maxL' ret').before a0 Z = true) (w6 : (Jvm.Cond.initialized y'.cls).before a0 Z = true)
    (hy : y'.cls ≠ "java/lang/invoke/MethodHandle" ∧ y'.cls ≠ "java/lang/invoke/VarHandle") (pn : plainFor y' = true) (pd : parseMethodDescriptor y'.desc = some ⟨ps, r⟩) (hl : argsL.length = ps.length) (hst : st = argsL.reverse ++ .ref a :: rest) (E : Exa Z h a C) (hef : ∀ m, entryFrame m (.ref a :: argsL).toArray maxL' = mkF m 0 Ls1 []) (hsz : Ls.size = maxL)
    (hR1 : R'.frames + 1 ≤ R.frames) (hW : (rest.map fun v => v.category).sum = wd) (hR2 : wd + (maxL' + 11) + R'.locals ≤ R.locals) (hc : k + R'.cells ≤ R.cells) (hs : n + R'.slots ≤ R.slots)
    (G : Go l Z y' code' maxL' ret' R' n0 Q' h 0 0 0 Ls1 []) (K : ∀ v h', Q' v h' → Go l Z mn code maxL ret R n0 Q h' (k + R'.cells) (n + R'.slots) q Ls (v.toList ++ rest)) : Go l Z mn code maxL ret R n0 Q h k n pc Ls st := by
  subst hq hst hW
  intro p e s m args below meth c T locs k' n' Cc X hk hn N eT
  obtain ⟨cq, kq, qa, qb, qc⟩ := isOf Cc.2.1 eT E
  obtain ⟨v, vm1, ⟨T1, L1, k1, n1⟩, -, X1, ⟨Lc, hQ, e1, e2, e3⟩, f⟩ := X.virtualBack Cc.1 (y := y') (z := y') Cc.2.2.2.2.1 (mvT Cc.2.1 w1) (mvT Cc.2.1 w2) (notFace_of_selects (args := #[]) (mvT Cc.2.1 w3)) (mvT Cc.2.1 w3) (mvT Cc.2.1 w4) hy (backOf (W := (rest.map fun v => v.category).sum) (Q := fun v h L => Fr n0 L ∧ Q' v h) (G.met pn hef []) Cc.2.1 w5 w6 hR1 hR2) qa qc (g := mkF m pc Ls (argsL.reverse ++ .ref a :: rest)) rfl (by rw [Cc.2.2.2.1]; exact hsz) (Steps.refl _) (argsL := argsL) (rest := rest) (lenOf pd hl) rfl (by simp) (hb Cc.2.2.1 hd) (fun _ _ => ⟨rfl, eT, by show k' + _ ≤ _; omega, by show n' + _ ≤ _; omega⟩)
  dsimp only [Pt.U, Pt.locs, Pt.cells, Pt.slots] at X1 e1 e2 e3 f hQ
  subst e1 e2 e3
  exact (K v T1.heap hQ.2 p e s m args below meth c T1 _ _ _ Cc X1 (by omega) (by omega) (Fr.app N hQ.1) rfl).step fun t r => f.trans r
theorem Go.callI {a : Addr} (hd : decode code pc = .ok (.invokespecial i, 3)) (hq : q = pc + 3) (hn1 : y'.name = "<init>") (w1 : (Jvm.Cond.methodLink mn.cls i y').before a0 Z = true) (w2 : (Jvm.Cond.instanceMethod y').before a0 Z = true) (w3 : (Jvm.Cond.initialized y'.cls).before a0 Z = true) (w4 : (Jvm.Cond.code y' code' maxL' none).before a0 Z = true)
    (hy : y'.cls ≠ "java/lang/invoke/MethodHandle" ∧ y'.cls ≠ "java/lang/invoke/VarHandle") (pn : plainFor y' = true) (pd : parseMethodDescriptor y'.desc = some ⟨ps, r⟩) (hl : argsL.length = ps.length) (hst : st = argsL.reverse ++ .ref a :: rest) (hef : ∀ m, entryFrame m (.ref a :: argsL).toArray maxL' = mkF m 0 Ls1 []) (hsz : Ls.size = maxL)
    (hR1 : R'.frames + 1 ≤ R.frames) (hW : (rest.map fun v => v.category).sum = wd) (hR2 : wd + (maxL' + 11) + R'.locals ≤ R.locals) (hc : k + R'.cells ≤ R.cells) (hs : n + R'.slots ≤ R.slots)
    (G : Go l Z y' code' maxL' none R' n0 Q' h 0 0 0 Ls1 []) (K : ∀ v h', Q' v h' → Go l Z mn code maxL ret R n0 Q h' (k + R'.cells) (n + R'.slots) q Ls (v.toList ++ rest)) : Go l Z mn code maxL ret R n0 Q h k n pc Ls st := by
  subst hq hst hW
  intro p e s m args below meth c T locs k' n' Cc X hk hn N eT
  obtain ⟨v, vm1, ⟨T1, L1, k1, n1⟩, -, X1, ⟨Lc, hQ, e1, e2, e3⟩, f⟩ := X.specialBack Cc.1 (y := y') hn1 Cc.2.2.2.2.1 (mvT Cc.2.1 w1) (mvT Cc.2.1 w2) (mvT Cc.2.1 w4) hy (backOf (W := (rest.map fun v => v.category).sum) (Q := fun v h L => Fr n0 L ∧ Q' v h) (G.met pn hef []) Cc.2.1 w4 w3 hR1 hR2) (g := mkF m pc Ls (argsL.reverse ++ .ref a :: rest)) rfl (by rw [Cc.2.2.2.1]; exact hsz) (Steps.refl _) (a := a) (argsL := argsL) (rest := rest) (lenOf pd hl) rfl (by simp) (hb Cc.2.2.1 hd) (fun _ _ => ⟨rfl, eT, by show k' + _ ≤ _; omega, by show n' + _ ≤ _; omega⟩)
  dsimp only [Pt.U, Pt.locs, Pt.cells, Pt.slots] at X1 e1 e2 e3 f hQ
  subst e1 e2 e3
  exact (K v T1.heap hQ.2 p e s m args below meth c T1 _ _ _ Cc X1 (by omega) (by omega) (Fr.app N hQ.1) rfl).step fun t r => f.trans r
theorem Go.callSV {P : Value → Heap → Prop} (hd : decode code pc = .ok (.invokestatic i, 3)) (hq : q = pc + 3) (w1 : (Jvm.Cond.methodLink mn.cls i y').before a0 Z = true) (w2 : (Jvm.Cond.static y').before a0 Z = true) (w3 : (Jvm.Cond.initialized y'.cls).before a0 Z = true) (w4 : (Jvm.Cond.code y' code' maxL' ret').before a0 Z = true)
    (hy : y'.cls ≠ "java/lang/invoke/MethodHandle" ∧ y'.cls ≠ "java/lang/invoke/VarHandle") (pn : plainFor y' = true) (pd : parseMethodDescriptor y'.desc = some ⟨ps, r⟩) (hl : argsL.length = ps.length) (hst : st = argsL.reverse ++ rest) (hef : ∀ m, entryFrame m argsL.toArray maxL' = mkF m 0 Ls1 []) (hsz : Ls.size = maxL)
    (hR1 : R'.frames + 1 ≤ R.frames) (hW : (rest.map fun v => v.category).sum = wd) (hR2 : wd + (maxL' + 11) + R'.locals ≤ R.locals) (hc : k + R'.cells ≤ R.cells) (hs : n + R'.slots ≤ R.slots)
    (G : Go l Z y' code' maxL' ret' R' n0 (RV P) h 0 0 0 Ls1 []) (K : ∀ w h', P w h' → Go l Z mn code maxL ret R n0 Q h' (k + R'.cells) (n + R'.slots) q Ls (w :: rest)) : Go l Z mn code maxL ret R n0 Q h k n pc Ls st :=
  Go.callS hd hq w1 w2 w3 w4 hy pn pd hl hst hef hsz hR1 hW hR2 hc hs G fun v h' ⟨w, e, q⟩ => by subst e; exact K w h' q
theorem Go.callSN {P : Heap → Prop} (hd : decode code pc = .ok (.invokestatic i, 3)) (hq : q = pc + 3) (w1 : (Jvm.Cond.methodLink mn.cls i y').before a0 Z = true) (w2 : (Jvm.Cond.static y').before a0 Z = true) (w3 : (Jvm.Cond.initialized y'.cls).before a0 Z = true) (w4 : (Jvm.Cond.code y' code' maxL' ret').before a0 Z = true)
    (hy : y'.cls ≠ "java/lang/invoke/MethodHandle" ∧ y'.cls ≠ "java/lang/invoke/VarHandle") (pn : plainFor y' = true) (pd : parseMethodDescriptor y'.desc = some ⟨ps, r⟩) (hl : argsL.length = ps.length) (hst : st = argsL.reverse ++ rest) (hef : ∀ m, entryFrame m argsL.toArray maxL' = mkF m 0 Ls1 []) (hsz : Ls.size = maxL)
    (hR1 : R'.frames + 1 ≤ R.frames) (hW : (rest.map fun v => v.category).sum = wd) (hR2 : wd + (maxL' + 11) + R'.locals ≤ R.locals) (hc : k + R'.cells ≤ R.cells) (hs : n + R'.slots ≤ R.slots)
    (G : Go l Z y' code' maxL' ret' R' n0 (RN P) h 0 0 0 Ls1 []) (K : ∀ h', P h' → Go l Z mn code maxL ret R n0 Q h' (k + R'.cells) (n + R'.slots) q Ls rest) : Go l Z mn code maxL ret R n0 Q h k n pc Ls st :=
  Go.callS hd hq w1 w2 w3 w4 hy pn pd hl hst hef hsz hR1 hW hR2 hc hs G fun v h' ⟨e, q⟩ => by subst e; exact K h' q
theorem Go.callVV {P : Value → Heap → Prop} {C : String} {a : Addr} (hd : decode code pc = .ok (.invokevirtual i, 3)) (hq : q = pc + 3) (w1 : (Jvm.Cond.methodLink mn.cls i y').before a0 Z = true) (w2 : (Jvm.Cond.declares y').before a0 Z = true) (w3 : (Jvm.Cond.selects C y' y').before a0 Z = true) (w4 : (Jvm.Cond.instanceMethod y').before a0 Z = true) (w5 : (Jvm.Cond.code y' code' maxL' ret').before a0 Z = true) (w6 : (Jvm.Cond.initialized y'.cls).before a0 Z = true)
    (hy : y'.cls ≠ "java/lang/invoke/MethodHandle" ∧ y'.cls ≠ "java/lang/invoke/VarHandle") (pn : plainFor y' = true) (pd : parseMethodDescriptor y'.desc = some ⟨ps, r⟩) (hl : argsL.length = ps.length) (hst : st = argsL.reverse ++ .ref a :: rest) (E : Exa Z h a C) (hef : ∀ m, entryFrame m (.ref a :: argsL).toArray maxL' = mkF m 0 Ls1 []) (hsz : Ls.size = maxL)
    (hR1 : R'.frames + 1 ≤ R.frames) (hW : (rest.map fun v => v.category).sum = wd) (hR2 : wd + (maxL' + 11) + R'.locals ≤ R.locals) (hc : k + R'.cells ≤ R.cells) (hs : n + R'.slots ≤ R.slots)
    (G : Go l Z y' code' maxL' ret' R' n0 (RV P) h 0 0 0 Ls1 []) (K : ∀ w h', P w h' → Go l Z mn code maxL ret R n0 Q h' (k + R'.cells) (n + R'.slots) q Ls (w :: rest)) : Go l Z mn code maxL ret R n0 Q h k n pc Ls st :=
  Go.callV hd hq w1 w2 w3 w4 w5 w6 hy pn pd hl hst E hef hsz hR1 hW hR2 hc hs G fun v h' ⟨w, e, q⟩ => by subst e; exact K w h' q
theorem Go.callVN {P : Heap → Prop} {C : String} {a : Addr} (hd : decode code pc = .ok (.invokevirtual i, 3)) (hq : q = pc + 3) (w1 : (Jvm.Cond.methodLink mn.cls i y').before a0 Z = true) (w2 : (Jvm.Cond.declares y').before a0 Z = true) (w3 : (Jvm.Cond.selects C y' y').before a0 Z = true) (w4 : (Jvm.Cond.instanceMethod y').before a0 Z = true) (w5 : (Jvm.Cond.code y' code' maxL' ret').before a0 Z = true) (w6 : (Jvm.Cond.initialized y'.cls).before a0 Z = true)
    (hy : y'.cls ≠ "java/lang/invoke/MethodHandle" ∧ y'.cls ≠ "java/lang/invoke/VarHandle") (pn : plainFor y' = true) (pd : parseMethodDescriptor y'.desc = some ⟨ps, r⟩) (hl : argsL.length = ps.length) (hst : st = argsL.reverse ++ .ref a :: rest) (E : Exa Z h a C) (hef : ∀ m, entryFrame m (.ref a :: argsL).toArray maxL' = mkF m 0 Ls1 []) (hsz : Ls.size = maxL)
    (hR1 : R'.frames + 1 ≤ R.frames) (hW : (rest.map fun v => v.category).sum = wd) (hR2 : wd + (maxL' + 11) + R'.locals ≤ R.locals) (hc : k + R'.cells ≤ R.cells) (hs : n + R'.slots ≤ R.slots)
    (G : Go l Z y' code' maxL' ret' R' n0 (RN P) h 0 0 0 Ls1 []) (K : ∀ h', P h' → Go l Z mn code maxL ret R n0 Q h' (k + R'.cells) (n + R'.slots) q Ls rest) : Go l Z mn code maxL ret R n0 Q h k n pc Ls st :=
  Go.callV hd hq w1 w2 w3 w4 w5 w6 hy pn pd hl hst E hef hsz hR1 hW hR2 hc hs G fun v h' ⟨e, q⟩ => by subst e; exact K h' q
theorem Go.callIN {P : Heap → Prop} {a : Addr} (hd : decode code pc = .ok (.invokespecial i, 3)) (hq : q = pc + 3) (hn1 : y'.name = "<init>") (w1 : (Jvm.Cond.methodLink mn.cls i y').before a0 Z = true) (w2 : (Jvm.Cond.instanceMethod y').before a0 Z = true) (w3 : (Jvm.Cond.initialized y'.cls).before a0 Z = true) (w4 : (Jvm.Cond.code y' code' maxL' none).before a0 Z = true)
    (hy : y'.cls ≠ "java/lang/invoke/MethodHandle" ∧ y'.cls ≠ "java/lang/invoke/VarHandle") (pn : plainFor y' = true) (pd : parseMethodDescriptor y'.desc = some ⟨ps, r⟩) (hl : argsL.length = ps.length) (hst : st = argsL.reverse ++ .ref a :: rest) (hef : ∀ m, entryFrame m (.ref a :: argsL).toArray maxL' = mkF m 0 Ls1 []) (hsz : Ls.size = maxL)
    (hR1 : R'.frames + 1 ≤ R.frames) (hW : (rest.map fun v => v.category).sum = wd) (hR2 : wd + (maxL' + 11) + R'.locals ≤ R.locals) (hc : k + R'.cells ≤ R.cells) (hs : n + R'.slots ≤ R.slots)
    (G : Go l Z y' code' maxL' none R' n0 (RN P) h 0 0 0 Ls1 []) (K : ∀ h', P h' → Go l Z mn code maxL ret R n0 Q h' (k + R'.cells) (n + R'.slots) q Ls rest) : Go l Z mn code maxL ret R n0 Q h k n pc Ls st :=
  Go.callI hd hq hn1 w1 w2 w3 w4 hy pn pd hl hst hef hsz hR1 hW hR2 hc hs G fun v h' ⟨e, q⟩ => by subst e; exact K h' q
end Calls
section Rets
variable {l : Launch} {Z : State} {mn : MethodName} {code : ByteArray} {maxL : Nat} {R : Room} {n0 : Nat} {Q : Option Value → Heap → Prop} {h : Heap} {k n pc q : Nat} {Ls : Array Slot} {st : List Value}
theorem Go.retOut {w : Value} {t : FieldType} {i : Instr} (hd : decode code pc = .ok (i, 1)) (hna : narrow t w = w)
    (hi : (i = .ireturn ∧ (t = .int ∨ t = .boolean ∨ t = .byte ∨ t = .char ∨ t = .short) ∧ ∃ z, w = .int z) ∨ (i = .lreturn ∧ t = .long ∧ ∃ z, w = .long z) ∨ (i = .dreturn ∧ t = .double ∧ ∃ z, w = .double z) ∨ (i = .freturn ∧ t = .float ∧ ∃ z, w = .float z) ∨ (i = .areturn ∧ t.isReference = true ∧ w.isRef = true))
    (hk : k ≤ R.cells) (hn : n ≤ R.slots) (hQ : Q (some w) h) : Go l Z mn code maxL (some t) R n0 Q h k n pc Ls (w :: st) := by
  intro p e s m args below meth c T locs k' n' C X hk' hn' N eT
  obtain ⟨fs, hr, hrun, hended, hW, hsame⟩ := X.leave (v := some w) (fun hh => by rw [C.2.2.2.2.2.1] at hh; cases hh) C.2.2.2.2.2.2.1
  exact ⟨_, _, RoadKit.retOut X C.1 C.2.2.2.2.2.1 hna hi (hb C.2.2.1 hd) hr, hrun, hended, _, locs, rfl, ⟨N, by show Q _ T.heap; rw [eT]; exact hQ⟩, ⟨_, rfl⟩, hW, hsame.mono (by omega) (by omega)⟩
theorem Go.ireturn {z : Int32} (hd : decode code pc = .ok (.ireturn, 1)) (hk : k ≤ R.cells) (hn : n ≤ R.slots) (hQ : Q (some (.int z)) h) : Go l Z mn code maxL (some .int) R n0 Q h k n pc Ls (.int z :: st) :=
  Go.retOut hd rfl (Or.inl ⟨rfl, Or.inl rfl, z, rfl⟩) hk hn hQ
theorem Go.zreturn {z : Int32} (hd : decode code pc = .ok (.ireturn, 1)) (hk : k ≤ R.cells) (hn : n ≤ R.slots) (hz : z = 0 ∨ z = 1) (hQ : Q (some (.int z)) h) : Go l Z mn code maxL (some .boolean) R n0 Q h k n pc Ls (.int z :: st) :=
  Go.retOut hd (by rcases hz with rfl | rfl <;> rfl) (Or.inl ⟨rfl, Or.inr (Or.inl rfl), z, rfl⟩) hk hn hQ
theorem Go.creturn {z : Int32} (hd : decode code pc = .ok (.ireturn, 1)) (hk : k ≤ R.cells) (hn : n ≤ R.slots) (hz : narrow .char (.int z) = .int z) (hQ : Q (some (.int z)) h) : Go l Z mn code maxL (some .char) R n0 Q h k n pc Ls (.int z :: st) :=
  Go.retOut hd hz (Or.inl ⟨rfl, Or.inr (Or.inr (Or.inr (Or.inl rfl))), z, rfl⟩) hk hn hQ
theorem Go.lreturn {z : Int64} (hd : decode code pc = .ok (.lreturn, 1)) (hk : k ≤ R.cells) (hn : n ≤ R.slots) (hQ : Q (some (.long z)) h) : Go l Z mn code maxL (some .long) R n0 Q h k n pc Ls (.long z :: st) :=
  Go.retOut hd rfl (Or.inr (Or.inl ⟨rfl, rfl, z, rfl⟩)) hk hn hQ
theorem Go.areturn {w : Value} {t : FieldType} (hd : decode code pc = .ok (.areturn, 1)) (hk : k ≤ R.cells) (hn : n ≤ R.slots) (ht : t.isReference = true) (hw : w.isRef = true) (hQ : Q (some w) h) : Go l Z mn code maxL (some t) R n0 Q h k n pc Ls (w :: st) :=
  Go.retOut hd (by rcases ref_cases hw with rfl | ⟨a, rfl⟩ <;> cases t <;> first | exact absurd ht (by decide) | rfl) (Or.inr (Or.inr (Or.inr (Or.inr ⟨rfl, ht, hw⟩)))) hk hn hQ
theorem Go.vreturn (hd : decode code pc = .ok (.return_, 1)) (hk : k ≤ R.cells) (hn : n ≤ R.slots) (hQ : Q none h) : Go l Z mn code maxL none R n0 Q h k n pc Ls [] := by
  intro p e s m args below meth c T locs k' n' C X hk' hn' N eT
  obtain ⟨fs, hr, hrun, hended, hW, hsame⟩ := X.leave (v := none) (fun _ => rfl) C.2.2.2.2.2.2.1
  exact ⟨_, _, X.returnOut C.1 C.2.2.2.2.2.1 (hb C.2.2.1 hd) hr, hrun, hended, _, locs, rfl, ⟨N, by show Q _ T.heap; rw [eT]; exact hQ⟩, ⟨_, rfl⟩, hW, hsame.mono (by omega) (by omega)⟩
end Rets
/-- an array's whole content -/
def Ar (Z : State) (h : Heap) (a : Addr) (ty : FieldType) (cA : ClassId) (vs : List Value) : Prop := ∃ c : Cell, Arr Z h a c ty ∧ c.cls = cA ∧ c.slots.toList = vs
section Arrs
variable {Z : State} {h h' : Heap} {a b : Addr} {ty : FieldType} {cA : ClassId} {vs : List Value} {sl : Nat} {v : Value} {ws : List Addr}
theorem Ar.lt (F : Ar Z h a ty cA vs) : a < h.size := by obtain ⟨c, A, -⟩ := F; exact A.lt
theorem Ar.ext (F : Ar Z h a ty cA vs) (E : Ext h h') : Ar Z h' a ty cA vs := by obtain ⟨c, A, r⟩ := F; exact ⟨c, A.ext E, r⟩
theorem Ar.other (F : Ar Z h b ty cA vs) (W : Wr h h' a sl v) (q : b ≠ a) : Ar Z h' b ty cA vs := by obtain ⟨c, A, r⟩ := F; exact ⟨c, A.other W q, r⟩
theorem Ar.keep (F : Ar Z h a ty cA vs) (K : Keep h h' ws) (q : a ∉ ws) : Ar Z h' a ty cA vs := by obtain ⟨c, A, r⟩ := F; exact ⟨c, ⟨K.2.1 a c A.1 q, A.2⟩, r⟩
theorem Ar.set (F : Ar Z h a ty cA vs) (W : Wr h h' a sl v) : Ar Z h' a ty cA (vs.set sl v) := by
  obtain ⟨c, A, r1, r2⟩ := F
  exact ⟨_, A.same W, r1, by simp [Cell.setSlot, r2]⟩
theorem Ar.size (F : Ar Z h a ty cA vs) {c : Cell} (hc : h[a]? = some c) : c.slots.size = vs.length := by
  obtain ⟨c', A, -, r⟩ := F
  cases hc.symm.trans A.1
  rw [← r]; simp
theorem Ar.ne {C : String} {k : Nat} {a0 : Array Value} (F : Exa Z h b C) (wi : (Jvm.Cond.instantiable C k).before a0 Z = true) (G : Ar Z h a ty cA vs) : b ≠ a := by
  obtain ⟨c, A, -⟩ := G; exact ne_arr F wi A
end Arrs
section ArrSteps
variable {l : Launch} {Z : State} {mn : MethodName} {code : ByteArray} {maxL : Nat} {ret : Option FieldType} {R : Room} {n0 : Nat} {Q : Option Value → Heap → Prop} {h : Heap} {k n pc q : Nat} {Ls : Array Slot} {st : List Value} {a0 : Array Value} {a : Addr} {ty : FieldType} {cA : ClassId} {vs : List Value} {v : Value} {j x : Int32}
theorem inb {c : Cell} (hj : ¬ j < 0) (r : c.slots.toList = vs) (hv : j.toNatClampNeg < vs.length) : ¬ (j < 0 ∨ c.slots.size ≤ j.toNatClampNeg) := by
  rintro (q | q)
  · exact hj q
  · rw [← r] at hv; simp at hv; omega
theorem at_l {c : Cell} {i : Nat} (r : c.slots.toList = vs) (hv : vs[i]? = some v) : c.slots[i]? = some v := by rw [← r] at hv; simpa using hv
theorem Go.arraylength (hd : decode code pc = .ok (.arraylength, 1)) (hq : q = pc + 1) (A : Ar Z h a ty cA vs) {z : Int32} (hz : vs.length.toInt32 = z) (K : Go l Z mn code maxL ret R n0 Q h k n q Ls (.int z :: st)) : Go l Z mn code maxL ret R n0 Q h k n pc Ls (.ref a :: st) := by
  subst hq hz
  intro p e s m args below meth c T locs k' n' C X hk hn N eT
  obtain ⟨cl, A, r1, r2⟩ := A
  exact (K p e s m args below meth c T locs k' n' C X hk hn N eT).step fun t r => X.arraylength (g := mkF m pc Ls (.ref a :: st)) C.1 (by rw [eT]; exact A.1) (State.isArrayOf_alike C.2.1.alike A.2.1) rfl rfl (hb C.2.2.1 hd) t (by rw [show cl.slots.size = vs.length by rw [← r2]; simp]; exact r)
theorem Go.iaload (hd : decode code pc = .ok (.iaload, 1)) (hq : q = pc + 1) (A : Ar Z h a .int cA vs) (hj : ¬ j < 0) (hv : vs[j.toNatClampNeg]? = some v) (K : Go l Z mn code maxL ret R n0 Q h k n q Ls (v :: st)) : Go l Z mn code maxL ret R n0 Q h k n pc Ls (.int j :: .ref a :: st) := by
  subst hq
  intro p e s m args below meth c T locs k' n' C X hk hn N eT
  obtain ⟨cl, A, r1, r2⟩ := A
  exact (K p e s m args below meth c T locs k' n' C X hk hn N eT).step fun t r => X.iaload (g := mkF m pc Ls (.int j :: .ref a :: st)) C.1 (by rw [eT]; exact A.1) (State.isArrayOf_alike C.2.1.alike A.2.1) A.2.2 (inb hj r2 (List.getElem?_eq_some_iff.mp hv).1) (at_l r2 hv) rfl rfl (hb C.2.2.1 hd) t r
theorem Go.laload (hd : decode code pc = .ok (.laload, 1)) (hq : q = pc + 1) (A : Ar Z h a .long cA vs) (hj : ¬ j < 0) (hv : vs[j.toNatClampNeg]? = some v) (K : Go l Z mn code maxL ret R n0 Q h k n q Ls (v :: st)) : Go l Z mn code maxL ret R n0 Q h k n pc Ls (.int j :: .ref a :: st) := by
  subst hq
  intro p e s m args below meth c T locs k' n' C X hk hn N eT
  obtain ⟨cl, A, r1, r2⟩ := A
  exact (K p e s m args below meth c T locs k' n' C X hk hn N eT).step fun t r => X.laload (g := mkF m pc Ls (.int j :: .ref a :: st)) C.1 (by rw [eT]; exact A.1) (State.isArrayOf_alike C.2.1.alike A.2.1) A.2.2 (inb hj r2 (List.getElem?_eq_some_iff.mp hv).1) (at_l r2 hv) rfl rfl (hb C.2.2.1 hd) t r
theorem Go.caload (hd : decode code pc = .ok (.caload, 1)) (hq : q = pc + 1) (A : Ar Z h a .char cA vs) (hj : ¬ j < 0) (hv : vs[j.toNatClampNeg]? = some v) (K : Go l Z mn code maxL ret R n0 Q h k n q Ls (v :: st)) : Go l Z mn code maxL ret R n0 Q h k n pc Ls (.int j :: .ref a :: st) := by
  subst hq
  intro p e s m args below meth c T locs k' n' C X hk hn N eT
  obtain ⟨cl, A, r1, r2⟩ := A
  exact (K p e s m args below meth c T locs k' n' C X hk hn N eT).step fun t r => X.caload (g := mkF m pc Ls (.int j :: .ref a :: st)) C.1 (by rw [eT]; exact A.1) (State.isArrayOf_alike C.2.1.alike A.2.1) A.2.2 (inb hj r2 (List.getElem?_eq_some_iff.mp hv).1) (at_l r2 hv) rfl rfl (hb C.2.2.1 hd) t r
theorem Go.zaload (hd : decode code pc = .ok (.baload, 1)) (hq : q = pc + 1) (A : Ar Z h a .boolean cA vs) (hj : ¬ j < 0) (hv : vs[j.toNatClampNeg]? = some v) (K : Go l Z mn code maxL ret R n0 Q h k n q Ls (v :: st)) : Go l Z mn code maxL ret R n0 Q h k n pc Ls (.int j :: .ref a :: st) := by
  subst hq
  intro p e s m args below meth c T locs k' n' C X hk hn N eT
  obtain ⟨cl, A, r1, r2⟩ := A
  exact (K p e s m args below meth c T locs k' n' C X hk hn N eT).step fun t r => X.baloadBooleans (g := mkF m pc Ls (.int j :: .ref a :: st)) C.1 (by rw [eT]; exact A.1) (State.isArrayOf_alike C.2.1.alike A.2.1) A.2.2 (inb hj r2 (List.getElem?_eq_some_iff.mp hv).1) (at_l r2 hv) rfl rfl (hb C.2.2.1 hd) t r
theorem Go.baload (hd : decode code pc = .ok (.baload, 1)) (hq : q = pc + 1) (A : Ar Z h a .byte cA vs) (hj : ¬ j < 0) (hv : vs[j.toNatClampNeg]? = some v) (K : Go l Z mn code maxL ret R n0 Q h k n q Ls (v :: st)) : Go l Z mn code maxL ret R n0 Q h k n pc Ls (.int j :: .ref a :: st) := by
  subst hq
  intro p e s m args below meth c T locs k' n' C X hk hn N eT
  obtain ⟨cl, A, r1, r2⟩ := A
  exact (K p e s m args below meth c T locs k' n' C X hk hn N eT).step fun t r => X.baloadBytes (g := mkF m pc Ls (.int j :: .ref a :: st)) C.1 (by rw [eT]; exact A.1) (State.isArrayOf_alike C.2.1.alike A.2.1) A.2.2 (inb hj r2 (List.getElem?_eq_some_iff.mp hv).1) (at_l r2 hv) rfl rfl (hb C.2.2.1 hd) t r
theorem Go.aaload (hd : decode code pc = .ok (.aaload, 1)) (hq : q = pc + 1) (A : Ar Z h a ty cA vs) (ht : ty.isReference = true) (hj : ¬ j < 0) (hv : vs[j.toNatClampNeg]? = some v) (K : Go l Z mn code maxL ret R n0 Q h k n q Ls (v :: st)) : Go l Z mn code maxL ret R n0 Q h k n pc Ls (.int j :: .ref a :: st) := by
  subst hq
  intro p e s m args below meth c T locs k' n' C X hk hn N eT
  obtain ⟨cl, A, r1, r2⟩ := A
  exact (K p e s m args below meth c T locs k' n' C X hk hn N eT).step fun t r => X.aaload (g := mkF m pc Ls (.int j :: .ref a :: st)) C.1 (by rw [eT]; exact A.1) (State.isArrayOf_alike C.2.1.alike A.2.1) ht A.2.2 (inb hj r2 (List.getElem?_eq_some_iff.mp hv).1) (at_l r2 hv) rfl rfl (hb C.2.2.1 hd) t r
theorem Go.iastore (hd : decode code pc = .ok (.iastore, 1)) (hq : q = pc + 1) (A : Ar Z h a .int cA vs) (hj : ¬ j < 0) (hv : j.toNatClampNeg < vs.length) (ha : n0 ≤ a) (K : ∀ h', Wr h h' a j.toNatClampNeg (.int x) → Go l Z mn code maxL ret R n0 Q h' k n q Ls st) : Go l Z mn code maxL ret R n0 Q h k n pc Ls (.int x :: .int j :: .ref a :: st) := by
  subst hq
  intro p e s m args below meth c T locs k' n' C X hk hn N eT
  obtain ⟨cl, A, r1, r2⟩ := A
  obtain ⟨T', h', X', e', W, f⟩ := stI X C.1 C.2.1 eT A (inb hj r2 hv) (g := mkF m pc Ls (.int x :: .int j :: .ref a :: st)) rfl rfl (hb C.2.2.1 hd)
  exact (K h' W p e s m args below meth c T' _ k' n' C X' hk hn (Fr.snoc X' N ha) e').step f
theorem Go.lastore {x : Int64} (hd : decode code pc = .ok (.lastore, 1)) (hq : q = pc + 1) (A : Ar Z h a .long cA vs) (hj : ¬ j < 0) (hv : j.toNatClampNeg < vs.length) (ha : n0 ≤ a) (K : ∀ h', Wr h h' a j.toNatClampNeg (.long x) → Go l Z mn code maxL ret R n0 Q h' k n q Ls st) : Go l Z mn code maxL ret R n0 Q h k n pc Ls (.long x :: .int j :: .ref a :: st) := by
  subst hq
  intro p e s m args below meth c T locs k' n' C X hk hn N eT
  obtain ⟨cl, A, r1, r2⟩ := A
  obtain ⟨T', h', X', e', W, f⟩ := stJ X C.1 C.2.1 eT A (inb hj r2 hv) (g := mkF m pc Ls (.long x :: .int j :: .ref a :: st)) rfl rfl (hb C.2.2.1 hd)
  exact (K h' W p e s m args below meth c T' _ k' n' C X' hk hn (Fr.snoc X' N ha) e').step f
theorem Go.castore (hd : decode code pc = .ok (.castore, 1)) (hq : q = pc + 1) (A : Ar Z h a .char cA vs) (hj : ¬ j < 0) (hv : j.toNatClampNeg < vs.length) (ha : n0 ≤ a) (K : ∀ h', Wr h h' a j.toNatClampNeg (.int (nar .char x)) → Go l Z mn code maxL ret R n0 Q h' k n q Ls st) : Go l Z mn code maxL ret R n0 Q h k n pc Ls (.int x :: .int j :: .ref a :: st) := by
  subst hq
  intro p e s m args below meth c T locs k' n' C X hk hn N eT
  obtain ⟨cl, A, r1, r2⟩ := A
  obtain ⟨T', h', X', e', W, f⟩ := stC X C.1 C.2.1 eT A (inb hj r2 hv) (g := mkF m pc Ls (.int x :: .int j :: .ref a :: st)) rfl rfl (hb C.2.2.1 hd)
  exact (K h' W p e s m args below meth c T' _ k' n' C X' hk hn (Fr.snoc X' N ha) e').step f
theorem Go.zastore (hd : decode code pc = .ok (.bastore, 1)) (hq : q = pc + 1) (A : Ar Z h a .boolean cA vs) (hj : ¬ j < 0) (hv : j.toNatClampNeg < vs.length) (ha : n0 ≤ a) (K : ∀ h', Wr h h' a j.toNatClampNeg (.int (nar .boolean x)) → Go l Z mn code maxL ret R n0 Q h' k n q Ls st) : Go l Z mn code maxL ret R n0 Q h k n pc Ls (.int x :: .int j :: .ref a :: st) := by
  subst hq
  intro p e s m args below meth c T locs k' n' C X hk hn N eT
  obtain ⟨cl, A, r1, r2⟩ := A
  obtain ⟨T', h', X', e', W, f⟩ := stZ X C.1 C.2.1 eT A (inb hj r2 hv) (g := mkF m pc Ls (.int x :: .int j :: .ref a :: st)) rfl rfl (hb C.2.2.1 hd)
  exact (K h' W p e s m args below meth c T' _ k' n' C X' hk hn (Fr.snoc X' N ha) e').step f
theorem Go.aastore (hd : decode code pc = .ok (.aastore, 1)) (hq : q = pc + 1) (A : Ar Z h a ty cA vs) (ht : ty.isReference = true) (hj : ¬ j < 0) (hv : j.toNatClampNeg < vs.length) (S : Sto Z h a v) (ha : n0 ≤ a) (K : ∀ h', Wr h h' a j.toNatClampNeg v → Go l Z mn code maxL ret R n0 Q h' k n q Ls st) : Go l Z mn code maxL ret R n0 Q h k n pc Ls (v :: .int j :: .ref a :: st) := by
  subst hq
  intro p e s m args below meth c T locs k' n' C X hk hn N eT
  obtain ⟨cl, A, r1, r2⟩ := A
  obtain ⟨T', h', X', e', W, f⟩ := stR X C.1 C.2.1 eT A (inb hj r2 hv) ht S (g := mkF m pc Ls (v :: .int j :: .ref a :: st)) rfl rfl (hb C.2.2.1 hd)
  exact (K h' W p e s m args below meth c T' _ k' n' C X' hk hn (Fr.snoc X' N ha) e').step f
theorem Go.newarray {aty : ArrayType} {z : Int32} {cap : Nat} (hd : decode code pc = .ok (.newarray aty, 2)) (hq : q = pc + 2) (w : (Jvm.Cond.arrayClass (newarray.typeOf aty)).before a0 Z = true) (hz : ¬ z < 0) (hcap : z.toNatClampNeg ≤ cap) (hb8 : cap * 8 ≤ 536870912) (hc : k + 1 ≤ R.cells) (hs : n + cap ≤ R.slots)
    (K : ∀ h' a cA, a = h.size → Ext h h' → Ar Z h' a (newarray.typeOf aty) cA (List.replicate z.toNatClampNeg (defaultValue (newarray.typeOf aty))) → Go l Z mn code maxL ret R n0 Q h' (k + 1) (n + cap) q Ls (.ref a :: st)) : Go l Z mn code maxL ret R n0 Q h k n pc Ls (.int z :: st) := by
  subst hq
  intro p e s m args below meth c T locs k' n' C X hk hn N eT
  obtain ⟨T', h', cA, X', e', E, A, f⟩ := newP X C.1 C.2.1 w eT (g := mkF m pc Ls (.int z :: st)) rfl (hb C.2.2.1 hd) rfl hz hcap hb8 (by omega) (by omega)
  exact (K h' h.size cA rfl E ⟨_, A, rfl, by simp [newA]⟩ p e s m args below meth c T' locs _ _ C X' (by omega) (by omega) N e').step f
theorem Go.anewarray {C : String} {i : Nat} {z : Int32} {cap : Nat} (hd : decode code pc = .ok (.anewarray i, 3)) (hq : q = pc + 3) (w1 : (Jvm.Cond.classLink mn.cls i C).before a0 Z = true) (w2 : (Jvm.Cond.arrayOver (.object C)).before a0 Z = true) (hz : ¬ z < 0) (hcap : z.toNatClampNeg ≤ cap) (hb8 : cap * 8 ≤ 536870912) (hc : k + 1 ≤ R.cells) (hs : n + cap ≤ R.slots)
    (K : ∀ h' a cA, a = h.size → Ext h h' → Ar Z h' a (.object C) cA (List.replicate z.toNatClampNeg .null) → Ovr Z cA C → Go l Z mn code maxL ret R n0 Q h' (k + 1) (n + cap) q Ls (.ref a :: st)) : Go l Z mn code maxL ret R n0 Q h k n pc Ls (.int z :: st) := by
  subst hq
  intro p e s m args below meth c T locs k' n' Cc X hk hn N eT
  obtain ⟨T', h', cA, X', e', E, A, O, f⟩ := newR X Cc.1 Cc.2.1 Cc.2.2.2.2.1 w1 w2 eT (g := mkF m pc Ls (.int z :: st)) rfl (hb Cc.2.2.1 hd) rfl hz hcap hb8 (by omega) (by omega)
  exact (K h' h.size cA rfl E ⟨_, A, rfl, by simp [newA, defaultValue]⟩ O p e s m args below meth c T' locs _ _ Cc X' (by omega) (by omega) N e').step f
theorem sto_of {C : String} {b : Addr} (A : Ar Z h a ty cA vs) (O : Ovr Z cA C) (I : Ins Z h b C true) : Sto Z h a (.ref b) := by
  obtain ⟨c, A, q, -⟩ := A
  exact Sto.ofV A q O I
end ArrSteps
end Jvm.OwnKit
namespace Jvm.OwnKit
open Jvm Jvm.ClassFile Sem Op Lib Jvm.Free Jvm.Stand Jvm.LawKit Jvm.RoadKit
section Case
variable {args : Array Value} {s : State} {idx : List Nat} {t u : Term} {a b : Addr} {ty : FieldType} {cA : ClassId} {vs : List Value} {O nm d C K : String}
theorem eq_int {v : Int32} (h : (Jvm.Cond.eq t (.int v)).value args s none s idx = some true) : t.eval args s none idx s = some (.int v) := by
  cases ha : t.eval args s none idx s with
  | none => simp [Jvm.Cond.value, ha] at h
  | some x => cases x <;> simp [Jvm.Cond.value, Term.eval, ha] at h ⊢ <;> exact h
theorem eq_long {v : Int64} (h : (Jvm.Cond.eq t (.long v)).value args s none s idx = some true) : t.eval args s none idx s = some (.long v) := by
  cases ha : t.eval args s none idx s with
  | none => simp [Jvm.Cond.value, ha] at h
  | some x => cases x <;> simp [Jvm.Cond.value, Term.eval, ha] at h ⊢ <;> exact h
theorem eq_ref (h : (Jvm.Cond.eq t u).value args s none s idx = some true) (hu : u.eval args s none idx s = some (.ref b)) : t.eval args s none idx s = some (.ref b) := by
  cases ha : t.eval args s none idx s with
  | none => simp [Jvm.Cond.value, ha] at h
  | some x => cases x <;> simp [Jvm.Cond.value, ha, hu] at h ⊢ <;> exact h
theorem sta_ref (h : (Jvm.Cond.exactly (.static C nm d) K).value args s none s [] = some true) (h1 : (Jvm.Cond.initialized C).before args s = true) (h2 : (Jvm.Cond.laysStatic C nm d).before args s = true) : ∃ a, (Term.static C nm d).eval args s none [] s = some (.ref a) ∧ Sta s s.heap C nm d (.ref a) ∧ Exa s s.heap a K := by
  obtain ⟨a, ea⟩ := exa_v h
  exact ⟨a, ea, Sta.start ea (Or.inr ⟨h1, h2⟩), Exa.start ea h⟩
theorem sta_arr (h : (Jvm.Cond.arrayOf (.static C nm d) ty).value args s none s [] = some true) (h1 : (Jvm.Cond.initialized C).before args s = true) (h2 : (Jvm.Cond.laysStatic C nm d).before args s = true) : ∃ a cA vs, (Term.static C nm d).eval args s none [] s = some (.ref a) ∧ Sta s s.heap C nm d (.ref a) ∧ Ar s s.heap a ty cA vs := by
  obtain ⟨a, ea⟩ := arr_v h
  obtain ⟨c, A⟩ := Arr.start ea h
  exact ⟨a, c.cls, c.slots.toList, ea, Sta.start ea (Or.inr ⟨h1, h2⟩), c, A, rfl, rfl⟩
theorem fld_int {v : Int32} (ev : t.eval args s none [] s = some (.ref a)) (h : (Jvm.Cond.eq (.field t O nm d) (.int v)).value args s none s [] = some true) : Fld s s.heap a O nm d (.int v) := Fld.start ((fld_at ev).symm.trans (eq_int h))
theorem fld_long {v : Int64} (ev : t.eval args s none [] s = some (.ref a)) (h : (Jvm.Cond.eq (.field t O nm d) (.long v)).value args s none s [] = some true) : Fld s s.heap a O nm d (.long v) := Fld.start ((fld_at ev).symm.trans (eq_long h))
theorem nat_small {m : Nat} (h : m < 2 ^ 31) : m.toInt32.toNatClampNeg = m := by
  show m.toInt32.toInt.toNat = m
  rw [len_toInt h]; rfl
theorem Ar.at_start (A : Ar s s.heap a ty cA vs) : ∃ c : Cell, s.arrayAt? a = some c ∧ c.slots.toList = vs ∧ c.slots.size = vs.length := by
  obtain ⟨c, A, -, r⟩ := A
  exact ⟨c, A.fin (Vm.Alike.refl _), r, by rw [← r]; simp⟩
theorem arr_len {z : Int32} (ev : t.eval args s none [] s = some (.ref a)) (A : Ar s s.heap a ty cA vs) (h : (Jvm.Cond.eq (.length t) (.int z)).value args s none s [] = some true) : vs.length = z.toNatClampNeg := by
  obtain ⟨c, hc, -, r⟩ := A.at_start
  have e := eq_int h
  simp only [Term.eval, ev, hc, Option.bind_eq_bind, Option.bind_some] at e
  split at e
  · rename_i q
    have e2 : c.slots.size.toInt32 = z := by simpa using e
    rw [← e2, nat_small q, r]
  · simp at e
theorem arr_elem {j : Int32} {v : Int32} (ev : t.eval args s none [] s = some (.ref a)) (A : Ar s s.heap a ty cA vs) (h : (Jvm.Cond.eq (.elem t (.int j)) (.int v)).value args s none s [] = some true) : vs[j.toNatClampNeg]? = some (.int v) := by
  obtain ⟨c, hc, r, -⟩ := A.at_start
  have e := eq_int h
  simp only [Term.eval, ev, hc, Option.bind_eq_bind, Option.bind_some] at e
  split at e
  · simp at e
  · rw [← r]; simpa using e
theorem arr_elemR {j : Int32} {u : Term} {b : Addr} (ev : t.eval args s none [] s = some (.ref a)) (A : Ar s s.heap a ty cA vs) (h : (Jvm.Cond.eq (.elem t (.int j)) u).value args s none s [] = some true) (hu : u.eval args s none [] s = some (.ref b)) : vs[j.toNatClampNeg]? = some (.ref b) := by
  obtain ⟨c, hc, r, -⟩ := A.at_start
  have e := eq_ref h hu
  simp only [Term.eval, ev, hc, Option.bind_eq_bind, Option.bind_some] at e
  split at e
  · simp at e
  · rw [← r]; simpa using e
theorem fold_no {f : Nat → Option Bool} {x : Option Bool} (hx : x ≠ some true) : ∀ L : List Nat, L.foldl (fun acc i => match acc with | some true => f i | x => x) x = x
  | [] => rfl
  | i :: L => by
    rw [List.foldl_cons]
    rcases x with _ | _ | _
    · exact fold_no hx L
    · exact fold_no hx L
    · exact absurd rfl hx
theorem fold_all {f : Nat → Option Bool} : ∀ L : List Nat, L.foldl (fun acc i => match acc with | some true => f i | x => x) (some true) = some true → ∀ i ∈ L, f i = some true
  | [], _, i, hi => nomatch hi
  | j :: L, h, i, hi => by
    rw [List.foldl_cons] at h
    by_cases hj : f j = some true
    · have h' : L.foldl (fun acc i => match acc with | some true => f i | x => x) (f j) = some true := h
      rw [hj] at h'
      rcases List.mem_cons.mp hi with rfl | hi
      · exact hj
      · exact fold_all L h' i hi
    · have h' : L.foldl (fun acc i => match acc with | some true => f i | x => x) (f j) = some true := h
      rw [fold_no hj L] at h'
      exact absurd h' hj
theorem arr_all {c : Jvm.Cond} (ev : t.eval args s none [] s = some (.ref a)) (A : Ar s s.heap a ty cA vs) (h : (Jvm.Cond.all t c).value args s none s [] = some true) : ∀ i, i < vs.length → c.value args s none s [i] = some true := by
  obtain ⟨cl, hc, -, r⟩ := A.at_start
  intro i hi
  simp only [Jvm.Cond.value, ev, hc] at h
  exact fold_all _ h i (List.mem_range.mpr (by omega))
theorem all_elem {i : Nat} {v : Int32} (ev : t.eval args s none [i] s = some (.ref a)) (A : Ar s s.heap a ty cA vs) (hi : i < 2 ^ 31) (h : (Jvm.Cond.eq (.elem t (.index 0)) (.int v)).value args s none s [i] = some true) : vs[i]? = some (.int v) := by
  obtain ⟨c, hc, r, -⟩ := A.at_start
  have e := eq_int h
  simp only [Term.eval, ev, hc, Option.bind_eq_bind, Option.bind_some, List.getElem?_cons_zero, Option.map_some] at e
  split at e
  · simp at e
  · rw [← r]; rw [nat_small hi] at e; simpa using e
theorem all_le {i : Nat} {v : Int32} {c : Jvm.Cond} (hi : i < 2 ^ 31) (h : (Jvm.Cond.or (.le (.int v) (.index 0)) c).value args s none s [i] = some true) : v.toInt ≤ i ∨ c.value args s none s [i] = some true := by
  simp only [Jvm.Cond.value, Term.eval, List.getElem?_cons_zero, Option.map_some] at h
  by_cases q : v ≤ i.toInt32
  · left; rw [Int32.le_iff_toInt_le, len_toInt hi] at q; exact q
  · right; simpa [q] using h
theorem all_lt {i : Nat} {v : Int32} {c : Jvm.Cond} (hi : i < 2 ^ 31) (h : (Jvm.Cond.or (.lt (.index 0) (.int v)) c).value args s none s [i] = some true) : (i : Int) < v.toInt ∨ c.value args s none s [i] = some true := by
  simp only [Jvm.Cond.value, Term.eval, List.getElem?_cons_zero, Option.map_some] at h
  by_cases q : i.toInt32 < v
  · left; rw [Int32.lt_iff_toInt_lt, len_toInt hi] at q; exact q
  · right; simpa [q] using h
theorem sta_idx {C nm d : String} {idx : List Nat} {v : Value} (ev : (Term.static C nm d).eval args s none [] s = some v) : (Term.static C nm d).eval args s none idx s = some v := ev
end Case
end Jvm.OwnKit
namespace Jvm.RoadKit
open ClassFile
theorem Fld.nxt {Z : State} {h : Heap} {a0 : Array Value} {o : Addr} {h' : Heap} {C nm d nm' d' : String} {v w : Value} {t t' : FieldType} (F : Fld Z h o C nm d v) (W : Wr h h' o (slotOf Z C nm' d') w) (L : Laid Z a0 C C nm d) (L' : Laid Z a0 C C nm' d') (hn : nm ≠ nm') (ht : parseFieldDescriptor d = some t) (ht' : parseFieldDescriptor d' = some t') : Fld Z h' o C nm d v :=
  F.other W (Or.inr (slot_ne L L' hn ht ht'))
end Jvm.RoadKit
namespace Jvm.OwnKit
open Jvm Jvm.ClassFile Sem Op Lib Jvm.Free Jvm.Stand Jvm.LawKit Jvm.RoadKit
section More
variable {l : Launch} {Z : State} {mn : MethodName} {code : ByteArray} {maxL : Nat} {ret : Option FieldType} {R : Room} {n0 : Nat} {Q : Option Value → Heap → Prop} {h : Heap} {k n pc q : Nat} {Ls : Array Slot} {st : List Value} {a0 : Array Value}
theorem Go.anewarrayA {C ad : String} {ty : FieldType} {i : Nat} {z : Int32} {cap : Nat} (hd : decode code pc = .ok (.anewarray i, 3)) (hq : q = pc + 3) (hC : (FieldType.array ty).toString = C) (had : "[" ++ C = ad) (w1 : (Jvm.Cond.classLink mn.cls i C).before a0 Z = true) (w2 : (Jvm.Cond.arrayOver (.array ty)).before a0 Z = true) (hz : ¬ z < 0) (hcap : z.toNatClampNeg ≤ cap) (hb8 : cap * 8 ≤ 536870912) (hc : k + 1 ≤ R.cells) (hs : n + cap ≤ R.slots)
    (K : ∀ h' a cA, a = h.size → Ext h h' → Ar Z h' a (.array ty) cA (List.replicate z.toNatClampNeg .null) → OvrA Z cA ty C → Exa Z h' a ad → Go l Z mn code maxL ret R n0 Q h' (k + 1) (n + cap) q Ls (.ref a :: st)) : Go l Z mn code maxL ret R n0 Q h k n pc Ls (.int z :: st) := by
  subst hq
  intro p e s m args below meth c T locs k' n' Cc X hk hn N eT
  obtain ⟨T', h', cA, X', e', E, A, E2, O, f⟩ := newRA X Cc.1 Cc.2.1 Cc.2.2.2.2.1 hC w1 w2 eT (g := mkF m pc Ls (.int z :: st)) rfl (hb Cc.2.2.1 hd) rfl hz hcap hb8 (by omega) (by omega) had
  exact (K h' h.size cA rfl E ⟨_, A, rfl, by simp [newA, defaultValue]⟩ O E2 p e s m args below meth c T' locs _ _ Cc X' (by omega) (by omega) N e').step f
theorem Go.newarrayE {aty : ArrayType} {z : Int32} {cap : Nat} {ad : String} (hd : decode code pc = .ok (.newarray aty, 2)) (hq : q = pc + 2) (had : "[" ++ (newarray.typeOf aty).toString = ad) (w : (Jvm.Cond.arrayClass (newarray.typeOf aty)).before a0 Z = true) (hz : ¬ z < 0) (hcap : z.toNatClampNeg ≤ cap) (hb8 : cap * 8 ≤ 536870912) (hc : k + 1 ≤ R.cells) (hs : n + cap ≤ R.slots)
    (K : ∀ h' a cA, a = h.size → Ext h h' → Ar Z h' a (newarray.typeOf aty) cA (List.replicate z.toNatClampNeg (defaultValue (newarray.typeOf aty))) → Exa Z h' a ad → Go l Z mn code maxL ret R n0 Q h' (k + 1) (n + cap) q Ls (.ref a :: st)) : Go l Z mn code maxL ret R n0 Q h k n pc Ls (.int z :: st) := by
  subst hq
  intro p e s m args below meth c T locs k' n' C X hk hn N eT
  obtain ⟨T', h', cA, X', e', E, A, E2, f⟩ := newPE X C.1 C.2.1 w eT (g := mkF m pc Ls (.int z :: st)) rfl (hb C.2.2.1 hd) rfl hz hcap hb8 (by omega) (by omega) had
  exact (K h' h.size cA rfl E ⟨_, A, rfl, by simp [newA]⟩ E2 p e s m args below meth c T' locs _ _ C X' (by omega) (by omega) N e').step f
theorem sto_ofA {a b : Addr} {t0 ty : FieldType} {cA : ClassId} {vs : List Value} {C : String} (A : Ar Z h a t0 cA vs) (O : OvrA Z cA ty C) (I : Ins Z h b C true) : Sto Z h a (.ref b) := by
  obtain ⟨c, A, q, -⟩ := A
  exact Sto.ofVA A q O I
theorem Ar.nel {a b : Addr} {ty : FieldType} {cA : ClassId} {vs : List Value} (F : Ar Z h a ty cA vs) (e : b = h.size) : a ≠ b := fun q => Nat.ne_of_lt F.lt (q.trans e)
theorem Ins.ofExa {a : Addr} {C : String} (E : Exa Z h a C) : Ins Z h a C true := Ins.self E
end More
section Addrs
variable {h : Heap} {x b o : Addr} {n0 : Nat}
theorem new_ne (l : x < h.size) (e : b = h.size) : x ≠ b := fun q => Nat.ne_of_lt l (q.trans e)
theorem new_le (l : n0 ≤ h.size) (e : b = h.size) : n0 ≤ b := Nat.le_trans l (Nat.le_of_eq e.symm)
theorem le_size (l : o < h.size) (n : n0 ≤ o) : n0 ≤ h.size := Nat.le_trans n (Nat.le_of_lt l)
end Addrs
section Nums
theorem idiv_nat {x y : Int32} {d : Nat} (h0 : ¬ x < 0) (hy : y.toInt = d) (hd : 1 < d) : ¬ (x / y) < 0 ∧ (x / y).toNatClampNeg = x.toNatClampNeg / d := by
  have z : (0 : Int32).toInt = 0 := rfl
  have z1 : (-1 : Int32).toInt = -1 := rfl
  have p : 0 ≤ x.toInt := by rw [Int32.lt_iff_toInt_lt] at h0; omega
  have ny : y ≠ -1 := by
    intro q
    rw [q, z1] at hy
    omega
  have e := (c_idiv x y d hy ny).1 p
  have p' : 0 ≤ x.toInt / (d : Int) := Int.ediv_nonneg p (by omega)
  refine ⟨by rw [Int32.lt_iff_toInt_lt]; omega, ?_⟩
  show (x / y).toInt.toNat = x.toInt.toNat / d
  rw [e]
  obtain ⟨m, hm⟩ := Int.eq_ofNat_of_zero_le p
  rw [hm]; rfl
theorem irem_nat {x y : Int32} {d : Nat} (h0 : ¬ x < 0) (hy : y.toInt = d) (hd : 1 < d) : ¬ (x % y) < 0 ∧ (x % y).toNatClampNeg = x.toNatClampNeg % d := by
  have z : (0 : Int32).toInt = 0 := rfl
  have p : 0 ≤ x.toInt := by rw [Int32.lt_iff_toInt_lt] at h0; omega
  have e := (c_irem x y d hy).1 p
  have p' : 0 ≤ x.toInt % (d : Int) := Int.emod_nonneg _ (by omega)
  refine ⟨by rw [Int32.lt_iff_toInt_lt]; omega, ?_⟩
  show (x % y).toInt.toNat = x.toInt.toNat % d
  rw [e]
  obtain ⟨m, hm⟩ := Int.eq_ofNat_of_zero_le p
  rw [hm]; rfl
theorem nonneg_iff {x : Int32} : ¬ x < 0 ↔ 0 ≤ x.toInt := by
  rw [Int32.lt_iff_toInt_lt]; have : (0 : Int32).toInt = 0 := rfl; omega
end Nums
end Jvm.OwnKit
namespace Jvm.Pilot.@@N@@
open Jvm Jvm.ClassFile Sem Op Lib Jvm.Free Jvm.Stand Jvm.LawKit Jvm.RoadKit Bundle Jvm.OwnKit Jvm.Pilot.@@N@@.Jvm.D
def Hw (a0 : Array Value) (Z : State) : Prop := ∀ d ∈ tables_1, d.before a0 Z = true
theorem w0 {a0 : Array Value} {Z : State} (hw : Hw a0 Z) : ((Jvm.Cond.arrayClass Jvm.ClassFile.FieldType.int) : Jvm.Cond).before a0 Z = true := hw _ (List.mem_of_getElem? (i := 0) rfl)
theorem w1 {a0 : Array Value} {Z : State} (hw : Hw a0 Z) : ((Jvm.Cond.classLink "slotwise/storage/SlotKeyCountsClearPinLaw" (7 : Nat) "slotwise/storage/SlotKeyCounts") : Jvm.Cond).before a0 Z = true := hw _ (List.mem_of_getElem? (i := 1) rfl)
theorem w2 {a0 : Array Value} {Z : State} (hw : Hw a0 Z) : ((Jvm.Cond.instantiable "slotwise/storage/SlotKeyCounts" (4 : Nat)) : Jvm.Cond).before a0 Z = true := hw _ (List.mem_of_getElem? (i := 2) rfl)
theorem w3 {a0 : Array Value} {Z : State} (hw : Hw a0 Z) : ((Jvm.Cond.initialized "slotwise/storage/SlotKeyCounts") : Jvm.Cond).before a0 Z = true := hw _ (List.mem_of_getElem? (i := 3) rfl)
theorem w4 {a0 : Array Value} {Z : State} (hw : Hw a0 Z) : ((Jvm.Cond.methodLink "slotwise/storage/SlotKeyCountsClearPinLaw" (9 : Nat) ({ cls := "slotwise/storage/SlotKeyCounts", name := "<init>", desc := "()V" } : Jvm.MethodName)) : Jvm.Cond).before a0 Z = true := hw _ (List.mem_of_getElem? (i := 4) rfl)
theorem w5 {a0 : Array Value} {Z : State} (hw : Hw a0 Z) : ((Jvm.Cond.instanceMethod ({ cls := "slotwise/storage/SlotKeyCounts", name := "<init>", desc := "()V" } : Jvm.MethodName)) : Jvm.Cond).before a0 Z = true := hw _ (List.mem_of_getElem? (i := 5) rfl)
theorem w6 {a0 : Array Value} {Z : State} (hw : Hw a0 Z) : ((Jvm.Cond.code ({ cls := "slotwise/storage/SlotKeyCounts", name := "<init>", desc := "()V" } : Jvm.MethodName) prog_30_method_1_code (1 : Nat) (Option.none : Option Jvm.ClassFile.FieldType)) : Jvm.Cond).before a0 Z = true := hw _ (List.mem_of_getElem? (i := 6) rfl)
theorem w7 {a0 : Array Value} {Z : State} (hw : Hw a0 Z) : ((Jvm.Cond.methodLink "slotwise/storage/SlotKeyCounts" (1 : Nat) ({ cls := "java/lang/Object", name := "<init>", desc := "()V" } : Jvm.MethodName)) : Jvm.Cond).before a0 Z = true := hw _ (List.mem_of_getElem? (i := 7) rfl)
theorem w8 {a0 : Array Value} {Z : State} (hw : Hw a0 Z) : ((Jvm.Cond.instanceMethod ({ cls := "java/lang/Object", name := "<init>", desc := "()V" } : Jvm.MethodName)) : Jvm.Cond).before a0 Z = true := hw _ (List.mem_of_getElem? (i := 8) rfl)
theorem w9 {a0 : Array Value} {Z : State} (hw : Hw a0 Z) : ((Jvm.Cond.code ({ cls := "java/lang/Object", name := "<init>", desc := "()V" } : Jvm.MethodName) object_method_1_code (1 : Nat) (Option.none : Option Jvm.ClassFile.FieldType)) : Jvm.Cond).before a0 Z = true := hw _ (List.mem_of_getElem? (i := 9) rfl)
theorem w10 {a0 : Array Value} {Z : State} (hw : Hw a0 Z) : ((Jvm.Cond.classLink "slotwise/storage/SlotKeyCounts" (11 : Nat) "[J") : Jvm.Cond).before a0 Z = true := hw _ (List.mem_of_getElem? (i := 10) rfl)
theorem w11 {a0 : Array Value} {Z : State} (hw : Hw a0 Z) : ((Jvm.Cond.arrayOver (Jvm.ClassFile.FieldType.array Jvm.ClassFile.FieldType.long)) : Jvm.Cond).before a0 Z = true := hw _ (List.mem_of_getElem? (i := 11) rfl)
theorem w12 {a0 : Array Value} {Z : State} (hw : Hw a0 Z) : ((Jvm.Cond.fieldLink "slotwise/storage/SlotKeyCounts" (13 : Nat) "slotwise/storage/SlotKeyCounts" "pages" "[[J") : Jvm.Cond).before a0 Z = true := hw _ (List.mem_of_getElem? (i := 12) rfl)
theorem w13 {a0 : Array Value} {Z : State} (hw : Hw a0 Z) : ((Jvm.Cond.laysFinal "slotwise/storage/SlotKeyCounts" "slotwise/storage/SlotKeyCounts" "pages" "[[J") : Jvm.Cond).before a0 Z = true := hw _ (List.mem_of_getElem? (i := 13) rfl)
theorem w14 {a0 : Array Value} {Z : State} (hw : Hw a0 Z) : ((Jvm.Cond.arrayClass Jvm.ClassFile.FieldType.long) : Jvm.Cond).before a0 Z = true := hw _ (List.mem_of_getElem? (i := 14) rfl)
theorem w15 {a0 : Array Value} {Z : State} (hw : Hw a0 Z) : ((Jvm.Cond.fieldLink "slotwise/storage/SlotKeyCounts" (19 : Nat) "slotwise/storage/SlotKeyCounts" "changed" "[J") : Jvm.Cond).before a0 Z = true := hw _ (List.mem_of_getElem? (i := 15) rfl)
theorem w16 {a0 : Array Value} {Z : State} (hw : Hw a0 Z) : ((Jvm.Cond.laysFinal "slotwise/storage/SlotKeyCounts" "slotwise/storage/SlotKeyCounts" "changed" "[J") : Jvm.Cond).before a0 Z = true := hw _ (List.mem_of_getElem? (i := 16) rfl)
theorem w17 {a0 : Array Value} {Z : State} (hw : Hw a0 Z) : ((Jvm.Cond.methodLink "slotwise/storage/SlotKeyCountsClearPinLaw" (10 : Nat) ({ cls := "slotwise/storage/SlotKeyCounts", name := "add", desc := "(IJ)V" } : Jvm.MethodName)) : Jvm.Cond).before a0 Z = true := hw _ (List.mem_of_getElem? (i := 17) rfl)
theorem w18 {a0 : Array Value} {Z : State} (hw : Hw a0 Z) : ((Jvm.Cond.declares ({ cls := "slotwise/storage/SlotKeyCounts", name := "add", desc := "(IJ)V" } : Jvm.MethodName)) : Jvm.Cond).before a0 Z = true := hw _ (List.mem_of_getElem? (i := 18) rfl)
theorem w19 {a0 : Array Value} {Z : State} (hw : Hw a0 Z) : ((Jvm.Cond.instanceMethod ({ cls := "slotwise/storage/SlotKeyCounts", name := "add", desc := "(IJ)V" } : Jvm.MethodName)) : Jvm.Cond).before a0 Z = true := hw _ (List.mem_of_getElem? (i := 19) rfl)
theorem w20 {a0 : Array Value} {Z : State} (hw : Hw a0 Z) : ((Jvm.Cond.selects "slotwise/storage/SlotKeyCounts" ({ cls := "slotwise/storage/SlotKeyCounts", name := "add", desc := "(IJ)V" } : Jvm.MethodName) ({ cls := "slotwise/storage/SlotKeyCounts", name := "add", desc := "(IJ)V" } : Jvm.MethodName)) : Jvm.Cond).before a0 Z = true := hw _ (List.mem_of_getElem? (i := 20) rfl)
theorem w21 {a0 : Array Value} {Z : State} (hw : Hw a0 Z) : ((Jvm.Cond.code ({ cls := "slotwise/storage/SlotKeyCounts", name := "add", desc := "(IJ)V" } : Jvm.MethodName) prog_30_method_4_code (7 : Nat) (Option.none : Option Jvm.ClassFile.FieldType)) : Jvm.Cond).before a0 Z = true := hw _ (List.mem_of_getElem? (i := 21) rfl)
theorem w23 {a0 : Array Value} {Z : State} (hw : Hw a0 Z) : ((Jvm.Cond.fieldLink "slotwise/storage/SlotKeyCounts" (22 : Nat) "slotwise/storage/SlotKeyCounts" "total" "J") : Jvm.Cond).before a0 Z = true := hw _ (List.mem_of_getElem? (i := 23) rfl)
theorem w24 {a0 : Array Value} {Z : State} (hw : Hw a0 Z) : ((Jvm.Cond.lays "slotwise/storage/SlotKeyCounts" "slotwise/storage/SlotKeyCounts" "total" "J") : Jvm.Cond).before a0 Z = true := hw _ (List.mem_of_getElem? (i := 24) rfl)
theorem w25 {a0 : Array Value} {Z : State} (hw : Hw a0 Z) : ((Jvm.Cond.fieldLink "slotwise/storage/SlotKeyCounts" (26 : Nat) "slotwise/storage/SlotKeyCounts" "changes" "I") : Jvm.Cond).before a0 Z = true := hw _ (List.mem_of_getElem? (i := 25) rfl)
theorem w26 {a0 : Array Value} {Z : State} (hw : Hw a0 Z) : ((Jvm.Cond.lays "slotwise/storage/SlotKeyCounts" "slotwise/storage/SlotKeyCounts" "changes" "I") : Jvm.Cond).before a0 Z = true := hw _ (List.mem_of_getElem? (i := 26) rfl)
theorem w27 {a0 : Array Value} {Z : State} (hw : Hw a0 Z) : ((Jvm.Cond.methodLink "slotwise/storage/SlotKeyCountsClearPinLaw" (14 : Nat) ({ cls := "slotwise/storage/SlotKeyCounts", name := "clear", desc := "([I)V" } : Jvm.MethodName)) : Jvm.Cond).before a0 Z = true := hw _ (List.mem_of_getElem? (i := 27) rfl)
theorem w28 {a0 : Array Value} {Z : State} (hw : Hw a0 Z) : ((Jvm.Cond.declares ({ cls := "slotwise/storage/SlotKeyCounts", name := "clear", desc := "([I)V" } : Jvm.MethodName)) : Jvm.Cond).before a0 Z = true := hw _ (List.mem_of_getElem? (i := 28) rfl)
theorem w29 {a0 : Array Value} {Z : State} (hw : Hw a0 Z) : ((Jvm.Cond.instanceMethod ({ cls := "slotwise/storage/SlotKeyCounts", name := "clear", desc := "([I)V" } : Jvm.MethodName)) : Jvm.Cond).before a0 Z = true := hw _ (List.mem_of_getElem? (i := 29) rfl)
theorem w30 {a0 : Array Value} {Z : State} (hw : Hw a0 Z) : ((Jvm.Cond.selects "slotwise/storage/SlotKeyCounts" ({ cls := "slotwise/storage/SlotKeyCounts", name := "clear", desc := "([I)V" } : Jvm.MethodName) ({ cls := "slotwise/storage/SlotKeyCounts", name := "clear", desc := "([I)V" } : Jvm.MethodName)) : Jvm.Cond).before a0 Z = true := hw _ (List.mem_of_getElem? (i := 30) rfl)
theorem w31 {a0 : Array Value} {Z : State} (hw : Hw a0 Z) : ((Jvm.Cond.code ({ cls := "slotwise/storage/SlotKeyCounts", name := "clear", desc := "([I)V" } : Jvm.MethodName) prog_30_method_10_code (7 : Nat) (Option.none : Option Jvm.ClassFile.FieldType)) : Jvm.Cond).before a0 Z = true := hw _ (List.mem_of_getElem? (i := 31) rfl)
theorem w32 {a0 : Array Value} {Z : State} (hw : Hw a0 Z) : ((Jvm.Cond.methodLink "slotwise/storage/SlotKeyCountsClearPinLaw" (18 : Nat) ({ cls := "slotwise/storage/SlotKeyCountsClearPinLaw", name := "after", desc := "(IIIJJIIII)J" } : Jvm.MethodName)) : Jvm.Cond).before a0 Z = true := hw _ (List.mem_of_getElem? (i := 32) rfl)
theorem w33 {a0 : Array Value} {Z : State} (hw : Hw a0 Z) : ((Jvm.Cond.static ({ cls := "slotwise/storage/SlotKeyCountsClearPinLaw", name := "after", desc := "(IIIJJIIII)J" } : Jvm.MethodName)) : Jvm.Cond).before a0 Z = true := hw _ (List.mem_of_getElem? (i := 33) rfl)
theorem w34 {a0 : Array Value} {Z : State} (hw : Hw a0 Z) : ((Jvm.Cond.initialized "slotwise/storage/SlotKeyCountsClearPinLaw") : Jvm.Cond).before a0 Z = true := hw _ (List.mem_of_getElem? (i := 34) rfl)
theorem w35 {a0 : Array Value} {Z : State} (hw : Hw a0 Z) : ((Jvm.Cond.code ({ cls := "slotwise/storage/SlotKeyCountsClearPinLaw", name := "after", desc := "(IIIJJIIII)J" } : Jvm.MethodName) method_4_code (13 : Nat) (Option.some Jvm.ClassFile.FieldType.long)) : Jvm.Cond).before a0 Z = true := hw _ (List.mem_of_getElem? (i := 35) rfl)
theorem w36 {a0 : Array Value} {Z : State} (hw : Hw a0 Z) : ((Jvm.Cond.methodLink "slotwise/storage/SlotKeyCountsClearPinLaw" (45 : Nat) ({ cls := "slotwise/storage/SlotKeyCountsClearPinLaw", name := "cleared", desc := "(IIIII)Z" } : Jvm.MethodName)) : Jvm.Cond).before a0 Z = true := hw _ (List.mem_of_getElem? (i := 36) rfl)
theorem w37 {a0 : Array Value} {Z : State} (hw : Hw a0 Z) : ((Jvm.Cond.static ({ cls := "slotwise/storage/SlotKeyCountsClearPinLaw", name := "cleared", desc := "(IIIII)Z" } : Jvm.MethodName)) : Jvm.Cond).before a0 Z = true := hw _ (List.mem_of_getElem? (i := 37) rfl)
theorem w38 {a0 : Array Value} {Z : State} (hw : Hw a0 Z) : ((Jvm.Cond.code ({ cls := "slotwise/storage/SlotKeyCountsClearPinLaw", name := "cleared", desc := "(IIIII)Z" } : Jvm.MethodName) method_3_code (5 : Nat) (Option.some Jvm.ClassFile.FieldType.boolean)) : Jvm.Cond).before a0 Z = true := hw _ (List.mem_of_getElem? (i := 38) rfl)
theorem w39 {a0 : Array Value} {Z : State} (hw : Hw a0 Z) : ((Jvm.Cond.methodLink "slotwise/storage/SlotKeyCountsClearPinLaw" (24 : Nat) ({ cls := "slotwise/storage/SlotKeyCounts", name := "of", desc := "(I)J" } : Jvm.MethodName)) : Jvm.Cond).before a0 Z = true := hw _ (List.mem_of_getElem? (i := 39) rfl)
theorem w40 {a0 : Array Value} {Z : State} (hw : Hw a0 Z) : ((Jvm.Cond.declares ({ cls := "slotwise/storage/SlotKeyCounts", name := "of", desc := "(I)J" } : Jvm.MethodName)) : Jvm.Cond).before a0 Z = true := hw _ (List.mem_of_getElem? (i := 40) rfl)
theorem w41 {a0 : Array Value} {Z : State} (hw : Hw a0 Z) : ((Jvm.Cond.instanceMethod ({ cls := "slotwise/storage/SlotKeyCounts", name := "of", desc := "(I)J" } : Jvm.MethodName)) : Jvm.Cond).before a0 Z = true := hw _ (List.mem_of_getElem? (i := 41) rfl)
theorem w42 {a0 : Array Value} {Z : State} (hw : Hw a0 Z) : ((Jvm.Cond.selects "slotwise/storage/SlotKeyCounts" ({ cls := "slotwise/storage/SlotKeyCounts", name := "of", desc := "(I)J" } : Jvm.MethodName) ({ cls := "slotwise/storage/SlotKeyCounts", name := "of", desc := "(I)J" } : Jvm.MethodName)) : Jvm.Cond).before a0 Z = true := hw _ (List.mem_of_getElem? (i := 42) rfl)
theorem w43 {a0 : Array Value} {Z : State} (hw : Hw a0 Z) : ((Jvm.Cond.code ({ cls := "slotwise/storage/SlotKeyCounts", name := "of", desc := "(I)J" } : Jvm.MethodName) prog_30_method_2_code (3 : Nat) (Option.some Jvm.ClassFile.FieldType.long)) : Jvm.Cond).before a0 Z = true := hw _ (List.mem_of_getElem? (i := 43) rfl)
theorem w44 {a0 : Array Value} {Z : State} (hw : Hw a0 Z) : ((Jvm.Cond.methodLink "slotwise/storage/SlotKeyCountsClearPinLaw" (28 : Nat) ({ cls := "slotwise/storage/SlotKeyCounts", name := "total", desc := "()J" } : Jvm.MethodName)) : Jvm.Cond).before a0 Z = true := hw _ (List.mem_of_getElem? (i := 44) rfl)
theorem w45 {a0 : Array Value} {Z : State} (hw : Hw a0 Z) : ((Jvm.Cond.declares ({ cls := "slotwise/storage/SlotKeyCounts", name := "total", desc := "()J" } : Jvm.MethodName)) : Jvm.Cond).before a0 Z = true := hw _ (List.mem_of_getElem? (i := 45) rfl)
theorem w46 {a0 : Array Value} {Z : State} (hw : Hw a0 Z) : ((Jvm.Cond.instanceMethod ({ cls := "slotwise/storage/SlotKeyCounts", name := "total", desc := "()J" } : Jvm.MethodName)) : Jvm.Cond).before a0 Z = true := hw _ (List.mem_of_getElem? (i := 46) rfl)
theorem w47 {a0 : Array Value} {Z : State} (hw : Hw a0 Z) : ((Jvm.Cond.selects "slotwise/storage/SlotKeyCounts" ({ cls := "slotwise/storage/SlotKeyCounts", name := "total", desc := "()J" } : Jvm.MethodName) ({ cls := "slotwise/storage/SlotKeyCounts", name := "total", desc := "()J" } : Jvm.MethodName)) : Jvm.Cond).before a0 Z = true := hw _ (List.mem_of_getElem? (i := 47) rfl)
theorem w48 {a0 : Array Value} {Z : State} (hw : Hw a0 Z) : ((Jvm.Cond.code ({ cls := "slotwise/storage/SlotKeyCounts", name := "total", desc := "()J" } : Jvm.MethodName) prog_30_method_3_code (1 : Nat) (Option.some Jvm.ClassFile.FieldType.long)) : Jvm.Cond).before a0 Z = true := hw _ (List.mem_of_getElem? (i := 48) rfl)
theorem w49 {a0 : Array Value} {Z : State} (hw : Hw a0 Z) : ((Jvm.Cond.methodLink "slotwise/storage/SlotKeyCountsClearPinLaw" (32 : Nat) ({ cls := "slotwise/storage/SlotKeyCounts", name := "takeChanged", desc := "()[I" } : Jvm.MethodName)) : Jvm.Cond).before a0 Z = true := hw _ (List.mem_of_getElem? (i := 49) rfl)
theorem w50 {a0 : Array Value} {Z : State} (hw : Hw a0 Z) : ((Jvm.Cond.declares ({ cls := "slotwise/storage/SlotKeyCounts", name := "takeChanged", desc := "()[I" } : Jvm.MethodName)) : Jvm.Cond).before a0 Z = true := hw _ (List.mem_of_getElem? (i := 50) rfl)
theorem w51 {a0 : Array Value} {Z : State} (hw : Hw a0 Z) : ((Jvm.Cond.instanceMethod ({ cls := "slotwise/storage/SlotKeyCounts", name := "takeChanged", desc := "()[I" } : Jvm.MethodName)) : Jvm.Cond).before a0 Z = true := hw _ (List.mem_of_getElem? (i := 51) rfl)
theorem w52 {a0 : Array Value} {Z : State} (hw : Hw a0 Z) : ((Jvm.Cond.selects "slotwise/storage/SlotKeyCounts" ({ cls := "slotwise/storage/SlotKeyCounts", name := "takeChanged", desc := "()[I" } : Jvm.MethodName) ({ cls := "slotwise/storage/SlotKeyCounts", name := "takeChanged", desc := "()[I" } : Jvm.MethodName)) : Jvm.Cond).before a0 Z = true := hw _ (List.mem_of_getElem? (i := 52) rfl)
theorem w53 {a0 : Array Value} {Z : State} (hw : Hw a0 Z) : ((Jvm.Cond.code ({ cls := "slotwise/storage/SlotKeyCounts", name := "takeChanged", desc := "()[I" } : Jvm.MethodName) prog_30_method_5_code (6 : Nat) (Option.some (Jvm.ClassFile.FieldType.array Jvm.ClassFile.FieldType.int))) : Jvm.Cond).before a0 Z = true := hw _ (List.mem_of_getElem? (i := 53) rfl)
theorem w54 {a0 : Array Value} {Z : State} (hw : Hw a0 Z) : ((Jvm.Cond.methodLink "slotwise/storage/SlotKeyCounts" (30 : Nat) ({ cls := "java/lang/Long", name := "numberOfTrailingZeros", desc := "(J)I" } : Jvm.MethodName)) : Jvm.Cond).before a0 Z = true := hw _ (List.mem_of_getElem? (i := 54) rfl)
theorem w55 {a0 : Array Value} {Z : State} (hw : Hw a0 Z) : ((Jvm.Cond.static ({ cls := "java/lang/Long", name := "numberOfTrailingZeros", desc := "(J)I" } : Jvm.MethodName)) : Jvm.Cond).before a0 Z = true := hw _ (List.mem_of_getElem? (i := 55) rfl)
theorem w56 {a0 : Array Value} {Z : State} (hw : Hw a0 Z) : ((Jvm.Cond.initialized "java/lang/Long") : Jvm.Cond).before a0 Z = true := hw _ (List.mem_of_getElem? (i := 56) rfl)
theorem w57 {a0 : Array Value} {Z : State} (hw : Hw a0 Z) : ((Jvm.Cond.code ({ cls := "java/lang/Long", name := "numberOfTrailingZeros", desc := "(J)I" } : Jvm.MethodName) jdk_35_method_49_code (3 : Nat) (Option.some Jvm.ClassFile.FieldType.int)) : Jvm.Cond).before a0 Z = true := hw _ (List.mem_of_getElem? (i := 57) rfl)
theorem w58 {a0 : Array Value} {Z : State} (hw : Hw a0 Z) : ((Jvm.Cond.methodLink "java/lang/Long" (311 : Nat) ({ cls := "java/lang/Integer", name := "numberOfTrailingZeros", desc := "(I)I" } : Jvm.MethodName)) : Jvm.Cond).before a0 Z = true := hw _ (List.mem_of_getElem? (i := 58) rfl)
theorem w59 {a0 : Array Value} {Z : State} (hw : Hw a0 Z) : ((Jvm.Cond.static ({ cls := "java/lang/Integer", name := "numberOfTrailingZeros", desc := "(I)I" } : Jvm.MethodName)) : Jvm.Cond).before a0 Z = true := hw _ (List.mem_of_getElem? (i := 59) rfl)
theorem w60 {a0 : Array Value} {Z : State} (hw : Hw a0 Z) : ((Jvm.Cond.initialized "java/lang/Integer") : Jvm.Cond).before a0 Z = true := hw _ (List.mem_of_getElem? (i := 60) rfl)
theorem w61 {a0 : Array Value} {Z : State} (hw : Hw a0 Z) : ((Jvm.Cond.code ({ cls := "java/lang/Integer", name := "numberOfTrailingZeros", desc := "(I)I" } : Jvm.MethodName) jdk_33_method_48_code (2 : Nat) (Option.some Jvm.ClassFile.FieldType.int)) : Jvm.Cond).before a0 Z = true := hw _ (List.mem_of_getElem? (i := 61) rfl)
theorem w62 {a0 : Array Value} {Z : State} (hw : Hw a0 Z) : ((Jvm.Cond.constant "java/lang/Integer" (264 : Nat) (65536 : Int32)) : Jvm.Cond).before a0 Z = true := hw _ (List.mem_of_getElem? (i := 62) rfl)
theorem w63 {a0 : Array Value} {Z : State} (hw : Hw a0 Z) : ((Jvm.Cond.methodLink "slotwise/storage/SlotKeyCountsClearPinLaw" (36 : Nat) ({ cls := "java/lang/Math", name := "min", desc := "(II)I" } : Jvm.MethodName)) : Jvm.Cond).before a0 Z = true := hw _ (List.mem_of_getElem? (i := 63) rfl)
theorem w64 {a0 : Array Value} {Z : State} (hw : Hw a0 Z) : ((Jvm.Cond.static ({ cls := "java/lang/Math", name := "min", desc := "(II)I" } : Jvm.MethodName)) : Jvm.Cond).before a0 Z = true := hw _ (List.mem_of_getElem? (i := 64) rfl)
theorem w65 {a0 : Array Value} {Z : State} (hw : Hw a0 Z) : ((Jvm.Cond.initialized "java/lang/Math") : Jvm.Cond).before a0 Z = true := hw _ (List.mem_of_getElem? (i := 65) rfl)
theorem w66 {a0 : Array Value} {Z : State} (hw : Hw a0 Z) : ((Jvm.Cond.code ({ cls := "java/lang/Math", name := "min", desc := "(II)I" } : Jvm.MethodName) jdk_29_method_69_code (2 : Nat) (Option.some Jvm.ClassFile.FieldType.int)) : Jvm.Cond).before a0 Z = true := hw _ (List.mem_of_getElem? (i := 66) rfl)
theorem w67 {a0 : Array Value} {Z : State} (hw : Hw a0 Z) : ((Jvm.Cond.methodLink "slotwise/storage/SlotKeyCountsClearPinLaw" (42 : Nat) ({ cls := "java/lang/Math", name := "max", desc := "(II)I" } : Jvm.MethodName)) : Jvm.Cond).before a0 Z = true := hw _ (List.mem_of_getElem? (i := 67) rfl)
theorem w68 {a0 : Array Value} {Z : State} (hw : Hw a0 Z) : ((Jvm.Cond.static ({ cls := "java/lang/Math", name := "max", desc := "(II)I" } : Jvm.MethodName)) : Jvm.Cond).before a0 Z = true := hw _ (List.mem_of_getElem? (i := 68) rfl)
theorem w69 {a0 : Array Value} {Z : State} (hw : Hw a0 Z) : ((Jvm.Cond.code ({ cls := "java/lang/Math", name := "max", desc := "(II)I" } : Jvm.MethodName) jdk_29_method_65_code (2 : Nat) (Option.some Jvm.ClassFile.FieldType.int)) : Jvm.Cond).before a0 Z = true := hw _ (List.mem_of_getElem? (i := 69) rfl)
theorem pn0 : plainFor x = true := plainFor_of_name (show plainName "slotwise/storage/SlotKeyCountsClearPinLaw" = true by first | (simp [plainName, overriddenIn]; done) | decide +kernel)
theorem pd0 : parseMethodDescriptor "(IIIJJI)Z" = some ⟨[.int, .int, .int, .long, .long, .int], some .boolean⟩ := by decide +kernel
theorem d1_0 : decode prog_30_method_1_code 0 = .ok (.aload_n 0, 1) := by decide +kernel
theorem d1_1 : decode prog_30_method_1_code 1 = .ok (.invokespecial 1, 3) := by decide +kernel
theorem d1_4 : decode prog_30_method_1_code 4 = .ok (.aload_n 0, 1) := by decide +kernel
theorem d1_5 : decode prog_30_method_1_code 5 = .ok (.bipush 64, 2) := by decide +kernel
theorem d1_7 : decode prog_30_method_1_code 7 = .ok (.anewarray 11, 3) := by decide +kernel
theorem d1_10 : decode prog_30_method_1_code 10 = .ok (.putfield 13, 3) := by decide +kernel
theorem d1_13 : decode prog_30_method_1_code 13 = .ok (.aload_n 0, 1) := by decide +kernel
theorem d1_14 : decode prog_30_method_1_code 14 = .ok (.sipush 256, 3) := by decide +kernel
theorem d1_17 : decode prog_30_method_1_code 17 = .ok (.newarray .long, 2) := by decide +kernel
theorem d1_19 : decode prog_30_method_1_code 19 = .ok (.putfield 19, 3) := by decide +kernel
theorem d1_22 : decode prog_30_method_1_code 22 = .ok (.return_, 1) := by decide +kernel
theorem pn1 : plainFor (⟨"slotwise/storage/SlotKeyCounts", "<init>", "()V"⟩ : MethodName) = true := plainFor_of_name (show plainName "slotwise/storage/SlotKeyCounts" = true by first | (simp [plainName, overriddenIn]; done) | decide +kernel)
theorem pd1 : parseMethodDescriptor "()V" = some ⟨[], none⟩ := by decide +kernel
theorem d3_0 : decode prog_30_method_4_code 0 = .ok (.aload_n 0, 1) := by decide +kernel
theorem d3_1 : decode prog_30_method_4_code 1 = .ok (.getfield 13, 3) := by decide +kernel
theorem d3_4 : decode prog_30_method_4_code 4 = .ok (.iload_n 1, 1) := by decide +kernel
theorem d3_5 : decode prog_30_method_4_code 5 = .ok (.sipush 256, 3) := by decide +kernel
theorem d3_8 : decode prog_30_method_4_code 8 = .ok (.idiv, 1) := by decide +kernel
theorem d3_9 : decode prog_30_method_4_code 9 = .ok (.aaload, 1) := by decide +kernel
theorem d3_10 : decode prog_30_method_4_code 10 = .ok (.astore 4, 2) := by decide +kernel
theorem d3_12 : decode prog_30_method_4_code 12 = .ok (.aload 4, 2) := by decide +kernel
theorem d3_14 : decode prog_30_method_4_code 14 = .ok (.ifnonnull 22, 3) := by decide +kernel
theorem d3_17 : decode prog_30_method_4_code 17 = .ok (.sipush 256, 3) := by decide +kernel
theorem d3_20 : decode prog_30_method_4_code 20 = .ok (.newarray .long, 2) := by decide +kernel
theorem d3_22 : decode prog_30_method_4_code 22 = .ok (.astore 4, 2) := by decide +kernel
theorem d3_24 : decode prog_30_method_4_code 24 = .ok (.aload_n 0, 1) := by decide +kernel
theorem d3_25 : decode prog_30_method_4_code 25 = .ok (.getfield 13, 3) := by decide +kernel
theorem d3_28 : decode prog_30_method_4_code 28 = .ok (.iload_n 1, 1) := by decide +kernel
theorem d3_29 : decode prog_30_method_4_code 29 = .ok (.sipush 256, 3) := by decide +kernel
theorem d3_32 : decode prog_30_method_4_code 32 = .ok (.idiv, 1) := by decide +kernel
theorem d3_33 : decode prog_30_method_4_code 33 = .ok (.aload 4, 2) := by decide +kernel
theorem d3_35 : decode prog_30_method_4_code 35 = .ok (.aastore, 1) := by decide +kernel
theorem d3_36 : decode prog_30_method_4_code 36 = .ok (.aload 4, 2) := by decide +kernel
theorem d3_38 : decode prog_30_method_4_code 38 = .ok (.iload_n 1, 1) := by decide +kernel
theorem d3_39 : decode prog_30_method_4_code 39 = .ok (.sipush 256, 3) := by decide +kernel
theorem d3_42 : decode prog_30_method_4_code 42 = .ok (.irem, 1) := by decide +kernel
theorem d3_43 : decode prog_30_method_4_code 43 = .ok (.dup2, 1) := by decide +kernel
theorem d3_44 : decode prog_30_method_4_code 44 = .ok (.laload, 1) := by decide +kernel
theorem d3_45 : decode prog_30_method_4_code 45 = .ok (.lload_n 2, 1) := by decide +kernel
theorem d3_46 : decode prog_30_method_4_code 46 = .ok (.ladd, 1) := by decide +kernel
theorem d3_47 : decode prog_30_method_4_code 47 = .ok (.lastore, 1) := by decide +kernel
theorem d3_48 : decode prog_30_method_4_code 48 = .ok (.aload_n 0, 1) := by decide +kernel
theorem d3_49 : decode prog_30_method_4_code 49 = .ok (.dup, 1) := by decide +kernel
theorem d3_50 : decode prog_30_method_4_code 50 = .ok (.getfield 22, 3) := by decide +kernel
theorem d3_53 : decode prog_30_method_4_code 53 = .ok (.lload_n 2, 1) := by decide +kernel
theorem d3_54 : decode prog_30_method_4_code 54 = .ok (.ladd, 1) := by decide +kernel
theorem d3_55 : decode prog_30_method_4_code 55 = .ok (.putfield 22, 3) := by decide +kernel
theorem d3_58 : decode prog_30_method_4_code 58 = .ok (.lconst 1, 1) := by decide +kernel
theorem d3_59 : decode prog_30_method_4_code 59 = .ok (.iload_n 1, 1) := by decide +kernel
theorem d3_60 : decode prog_30_method_4_code 60 = .ok (.bipush 64, 2) := by decide +kernel
theorem d3_62 : decode prog_30_method_4_code 62 = .ok (.irem, 1) := by decide +kernel
theorem d3_63 : decode prog_30_method_4_code 63 = .ok (.lshl, 1) := by decide +kernel
theorem d3_64 : decode prog_30_method_4_code 64 = .ok (.lstore 5, 2) := by decide +kernel
theorem d3_66 : decode prog_30_method_4_code 66 = .ok (.aload_n 0, 1) := by decide +kernel
theorem d3_67 : decode prog_30_method_4_code 67 = .ok (.getfield 19, 3) := by decide +kernel
theorem d3_70 : decode prog_30_method_4_code 70 = .ok (.iload_n 1, 1) := by decide +kernel
theorem d3_71 : decode prog_30_method_4_code 71 = .ok (.bipush 64, 2) := by decide +kernel
theorem d3_73 : decode prog_30_method_4_code 73 = .ok (.idiv, 1) := by decide +kernel
theorem d3_74 : decode prog_30_method_4_code 74 = .ok (.laload, 1) := by decide +kernel
theorem d3_75 : decode prog_30_method_4_code 75 = .ok (.lload 5, 2) := by decide +kernel
theorem d3_77 : decode prog_30_method_4_code 77 = .ok (.land, 1) := by decide +kernel
theorem d3_78 : decode prog_30_method_4_code 78 = .ok (.lconst 0, 1) := by decide +kernel
theorem d3_79 : decode prog_30_method_4_code 79 = .ok (.lcmp, 1) := by decide +kernel
theorem d3_80 : decode prog_30_method_4_code 80 = .ok (.ifCond .ne 27, 3) := by decide +kernel
theorem d3_83 : decode prog_30_method_4_code 83 = .ok (.aload_n 0, 1) := by decide +kernel
theorem d3_84 : decode prog_30_method_4_code 84 = .ok (.getfield 19, 3) := by decide +kernel
theorem d3_87 : decode prog_30_method_4_code 87 = .ok (.iload_n 1, 1) := by decide +kernel
theorem d3_88 : decode prog_30_method_4_code 88 = .ok (.bipush 64, 2) := by decide +kernel
theorem d3_90 : decode prog_30_method_4_code 90 = .ok (.idiv, 1) := by decide +kernel
theorem d3_91 : decode prog_30_method_4_code 91 = .ok (.dup2, 1) := by decide +kernel
theorem d3_92 : decode prog_30_method_4_code 92 = .ok (.laload, 1) := by decide +kernel
theorem d3_93 : decode prog_30_method_4_code 93 = .ok (.lload 5, 2) := by decide +kernel
theorem d3_95 : decode prog_30_method_4_code 95 = .ok (.lor, 1) := by decide +kernel
theorem d3_96 : decode prog_30_method_4_code 96 = .ok (.lastore, 1) := by decide +kernel
theorem d3_97 : decode prog_30_method_4_code 97 = .ok (.aload_n 0, 1) := by decide +kernel
theorem d3_98 : decode prog_30_method_4_code 98 = .ok (.dup, 1) := by decide +kernel
theorem d3_99 : decode prog_30_method_4_code 99 = .ok (.getfield 26, 3) := by decide +kernel
theorem d3_102 : decode prog_30_method_4_code 102 = .ok (.iconst 1, 1) := by decide +kernel
theorem d3_103 : decode prog_30_method_4_code 103 = .ok (.iadd, 1) := by decide +kernel
theorem d3_104 : decode prog_30_method_4_code 104 = .ok (.putfield 26, 3) := by decide +kernel
theorem d3_107 : decode prog_30_method_4_code 107 = .ok (.return_, 1) := by decide +kernel
theorem pn3 : plainFor (⟨"slotwise/storage/SlotKeyCounts", "add", "(IJ)V"⟩ : MethodName) = true := plainFor_of_name (show plainName "slotwise/storage/SlotKeyCounts" = true by first | (simp [plainName, overriddenIn]; done) | decide +kernel)
theorem pd3 : parseMethodDescriptor "(IJ)V" = some ⟨[.int, .long], none⟩ := by decide +kernel
theorem d4_0 : decode prog_30_method_10_code 0 = .ok (.aload_n 1, 1) := by decide +kernel
theorem d4_1 : decode prog_30_method_10_code 1 = .ok (.astore_n 2, 1) := by decide +kernel
theorem d4_2 : decode prog_30_method_10_code 2 = .ok (.aload_n 2, 1) := by decide +kernel
theorem d4_3 : decode prog_30_method_10_code 3 = .ok (.arraylength, 1) := by decide +kernel
theorem d4_4 : decode prog_30_method_10_code 4 = .ok (.istore_n 3, 1) := by decide +kernel
theorem d4_5 : decode prog_30_method_10_code 5 = .ok (.iconst 0, 1) := by decide +kernel
theorem d4_6 : decode prog_30_method_10_code 6 = .ok (.istore 4, 2) := by decide +kernel
theorem d4_8 : decode prog_30_method_10_code 8 = .ok (.iload 4, 2) := by decide +kernel
theorem d4_10 : decode prog_30_method_10_code 10 = .ok (.iload_n 3, 1) := by decide +kernel
theorem d4_11 : decode prog_30_method_10_code 11 = .ok (.if_icmp .ge 61, 3) := by decide +kernel
theorem d4_14 : decode prog_30_method_10_code 14 = .ok (.aload_n 2, 1) := by decide +kernel
theorem d4_15 : decode prog_30_method_10_code 15 = .ok (.iload 4, 2) := by decide +kernel
theorem d4_17 : decode prog_30_method_10_code 17 = .ok (.iaload, 1) := by decide +kernel
theorem d4_18 : decode prog_30_method_10_code 18 = .ok (.istore 5, 2) := by decide +kernel
theorem d4_20 : decode prog_30_method_10_code 20 = .ok (.aload_n 0, 1) := by decide +kernel
theorem d4_21 : decode prog_30_method_10_code 21 = .ok (.getfield 13, 3) := by decide +kernel
theorem d4_24 : decode prog_30_method_10_code 24 = .ok (.iload 5, 2) := by decide +kernel
theorem d4_26 : decode prog_30_method_10_code 26 = .ok (.sipush 256, 3) := by decide +kernel
theorem d4_29 : decode prog_30_method_10_code 29 = .ok (.idiv, 1) := by decide +kernel
theorem d4_30 : decode prog_30_method_10_code 30 = .ok (.aaload, 1) := by decide +kernel
theorem d4_31 : decode prog_30_method_10_code 31 = .ok (.astore 6, 2) := by decide +kernel
theorem d4_33 : decode prog_30_method_10_code 33 = .ok (.aload 6, 2) := by decide +kernel
theorem d4_35 : decode prog_30_method_10_code 35 = .ok (.ifnull 31, 3) := by decide +kernel
theorem d4_38 : decode prog_30_method_10_code 38 = .ok (.aload_n 0, 1) := by decide +kernel
theorem d4_39 : decode prog_30_method_10_code 39 = .ok (.dup, 1) := by decide +kernel
theorem d4_40 : decode prog_30_method_10_code 40 = .ok (.getfield 22, 3) := by decide +kernel
theorem d4_43 : decode prog_30_method_10_code 43 = .ok (.aload 6, 2) := by decide +kernel
theorem d4_45 : decode prog_30_method_10_code 45 = .ok (.iload 5, 2) := by decide +kernel
theorem d4_47 : decode prog_30_method_10_code 47 = .ok (.sipush 256, 3) := by decide +kernel
theorem d4_50 : decode prog_30_method_10_code 50 = .ok (.irem, 1) := by decide +kernel
theorem d4_51 : decode prog_30_method_10_code 51 = .ok (.laload, 1) := by decide +kernel
theorem d4_52 : decode prog_30_method_10_code 52 = .ok (.lsub, 1) := by decide +kernel
theorem d4_53 : decode prog_30_method_10_code 53 = .ok (.putfield 22, 3) := by decide +kernel
theorem d4_56 : decode prog_30_method_10_code 56 = .ok (.aload 6, 2) := by decide +kernel
theorem d4_58 : decode prog_30_method_10_code 58 = .ok (.iload 5, 2) := by decide +kernel
theorem d4_60 : decode prog_30_method_10_code 60 = .ok (.sipush 256, 3) := by decide +kernel
theorem d4_63 : decode prog_30_method_10_code 63 = .ok (.irem, 1) := by decide +kernel
theorem d4_64 : decode prog_30_method_10_code 64 = .ok (.lconst 0, 1) := by decide +kernel
theorem d4_65 : decode prog_30_method_10_code 65 = .ok (.lastore, 1) := by decide +kernel
theorem d4_66 : decode prog_30_method_10_code 66 = .ok (.iinc 4 1, 3) := by decide +kernel
theorem d4_69 : decode prog_30_method_10_code 69 = .ok (.goto (-61), 3) := by decide +kernel
theorem d4_72 : decode prog_30_method_10_code 72 = .ok (.return_, 1) := by decide +kernel
theorem pn4 : plainFor (⟨"slotwise/storage/SlotKeyCounts", "clear", "([I)V"⟩ : MethodName) = true := plainFor_of_name (show plainName "slotwise/storage/SlotKeyCounts" = true by first | (simp [plainName, overriddenIn]; done) | decide +kernel)
theorem pd4 : parseMethodDescriptor "([I)V" = some ⟨[(.array .int)], none⟩ := by decide +kernel
theorem d5_0 : decode method_4_code 0 = .ok (.iload_n 0, 1) := by decide +kernel
theorem d5_1 : decode method_4_code 1 = .ok (.iload 7, 2) := by decide +kernel
theorem d5_3 : decode method_4_code 3 = .ok (.iload 8, 2) := by decide +kernel
theorem d5_5 : decode method_4_code 5 = .ok (.iload 9, 2) := by decide +kernel
theorem d5_7 : decode method_4_code 7 = .ok (.iload 10, 2) := by decide +kernel
theorem d5_9 : decode method_4_code 9 = .ok (.invokestatic 45, 3) := by decide +kernel
theorem d5_12 : decode method_4_code 12 = .ok (.ifCond .eq 5, 3) := by decide +kernel
theorem d5_15 : decode method_4_code 15 = .ok (.lconst 0, 1) := by decide +kernel
theorem d5_16 : decode method_4_code 16 = .ok (.lreturn, 1) := by decide +kernel
theorem d5_17 : decode method_4_code 17 = .ok (.lconst 0, 1) := by decide +kernel
theorem d5_18 : decode method_4_code 18 = .ok (.lstore 11, 2) := by decide +kernel
theorem d5_20 : decode method_4_code 20 = .ok (.iload_n 0, 1) := by decide +kernel
theorem d5_21 : decode method_4_code 21 = .ok (.iload_n 1, 1) := by decide +kernel
theorem d5_22 : decode method_4_code 22 = .ok (.if_icmp .ne 9, 3) := by decide +kernel
theorem d5_25 : decode method_4_code 25 = .ok (.lload 11, 2) := by decide +kernel
theorem d5_27 : decode method_4_code 27 = .ok (.lload_n 3, 1) := by decide +kernel
theorem d5_28 : decode method_4_code 28 = .ok (.ladd, 1) := by decide +kernel
theorem d5_29 : decode method_4_code 29 = .ok (.lstore 11, 2) := by decide +kernel
theorem d5_31 : decode method_4_code 31 = .ok (.iload_n 0, 1) := by decide +kernel
theorem d5_32 : decode method_4_code 32 = .ok (.iload_n 2, 1) := by decide +kernel
theorem d5_33 : decode method_4_code 33 = .ok (.if_icmp .ne 10, 3) := by decide +kernel
theorem d5_36 : decode method_4_code 36 = .ok (.lload 11, 2) := by decide +kernel
theorem d5_38 : decode method_4_code 38 = .ok (.lload 5, 2) := by decide +kernel
theorem d5_40 : decode method_4_code 40 = .ok (.ladd, 1) := by decide +kernel
theorem d5_41 : decode method_4_code 41 = .ok (.lstore 11, 2) := by decide +kernel
theorem d5_43 : decode method_4_code 43 = .ok (.lload 11, 2) := by decide +kernel
theorem d5_45 : decode method_4_code 45 = .ok (.lreturn, 1) := by decide +kernel
theorem pn5 : plainFor (⟨"slotwise/storage/SlotKeyCountsClearPinLaw", "after", "(IIIJJIIII)J"⟩ : MethodName) = true := plainFor_of_name (show plainName "slotwise/storage/SlotKeyCountsClearPinLaw" = true by first | (simp [plainName, overriddenIn]; done) | decide +kernel)
theorem pd5 : parseMethodDescriptor "(IIIJJIIII)J" = some ⟨[.int, .int, .int, .long, .long, .int, .int, .int, .int], (some .long)⟩ := by decide +kernel
theorem d6_0 : decode method_3_code 0 = .ok (.iload_n 1, 1) := by decide +kernel
theorem d6_1 : decode method_3_code 1 = .ok (.ifCond .le 8, 3) := by decide +kernel
theorem d6_4 : decode method_3_code 4 = .ok (.iload_n 2, 1) := by decide +kernel
theorem d6_5 : decode method_3_code 5 = .ok (.iload_n 0, 1) := by decide +kernel
theorem d6_6 : decode method_3_code 6 = .ok (.if_icmp .eq 24, 3) := by decide +kernel
theorem d6_9 : decode method_3_code 9 = .ok (.iload_n 1, 1) := by decide +kernel
theorem d6_10 : decode method_3_code 10 = .ok (.iconst 1, 1) := by decide +kernel
theorem d6_11 : decode method_3_code 11 = .ok (.if_icmp .le 8, 3) := by decide +kernel
theorem d6_14 : decode method_3_code 14 = .ok (.iload_n 3, 1) := by decide +kernel
theorem d6_15 : decode method_3_code 15 = .ok (.iload_n 0, 1) := by decide +kernel
theorem d6_16 : decode method_3_code 16 = .ok (.if_icmp .eq 14, 3) := by decide +kernel
theorem d6_19 : decode method_3_code 19 = .ok (.iload_n 1, 1) := by decide +kernel
theorem d6_20 : decode method_3_code 20 = .ok (.iconst 2, 1) := by decide +kernel
theorem d6_21 : decode method_3_code 21 = .ok (.if_icmp .le 13, 3) := by decide +kernel
theorem d6_24 : decode method_3_code 24 = .ok (.iload 4, 2) := by decide +kernel
theorem d6_26 : decode method_3_code 26 = .ok (.iload_n 0, 1) := by decide +kernel
theorem d6_27 : decode method_3_code 27 = .ok (.if_icmp .ne 7, 3) := by decide +kernel
theorem d6_30 : decode method_3_code 30 = .ok (.iconst 1, 1) := by decide +kernel
theorem d6_31 : decode method_3_code 31 = .ok (.goto 4, 3) := by decide +kernel
theorem d6_34 : decode method_3_code 34 = .ok (.iconst 0, 1) := by decide +kernel
theorem d6_35 : decode method_3_code 35 = .ok (.ireturn, 1) := by decide +kernel
theorem pn6 : plainFor (⟨"slotwise/storage/SlotKeyCountsClearPinLaw", "cleared", "(IIIII)Z"⟩ : MethodName) = true := plainFor_of_name (show plainName "slotwise/storage/SlotKeyCountsClearPinLaw" = true by first | (simp [plainName, overriddenIn]; done) | decide +kernel)
theorem pd6 : parseMethodDescriptor "(IIIII)Z" = some ⟨[.int, .int, .int, .int, .int], (some .boolean)⟩ := by decide +kernel
theorem d7_0 : decode prog_30_method_2_code 0 = .ok (.aload_n 0, 1) := by decide +kernel
theorem d7_1 : decode prog_30_method_2_code 1 = .ok (.getfield 13, 3) := by decide +kernel
theorem d7_4 : decode prog_30_method_2_code 4 = .ok (.iload_n 1, 1) := by decide +kernel
theorem d7_5 : decode prog_30_method_2_code 5 = .ok (.sipush 256, 3) := by decide +kernel
theorem d7_8 : decode prog_30_method_2_code 8 = .ok (.idiv, 1) := by decide +kernel
theorem d7_9 : decode prog_30_method_2_code 9 = .ok (.aaload, 1) := by decide +kernel
theorem d7_10 : decode prog_30_method_2_code 10 = .ok (.astore_n 2, 1) := by decide +kernel
theorem d7_11 : decode prog_30_method_2_code 11 = .ok (.aload_n 2, 1) := by decide +kernel
theorem d7_12 : decode prog_30_method_2_code 12 = .ok (.ifnonnull 7, 3) := by decide +kernel
theorem d7_15 : decode prog_30_method_2_code 15 = .ok (.lconst 0, 1) := by decide +kernel
theorem d7_16 : decode prog_30_method_2_code 16 = .ok (.goto 10, 3) := by decide +kernel
theorem d7_19 : decode prog_30_method_2_code 19 = .ok (.aload_n 2, 1) := by decide +kernel
theorem d7_20 : decode prog_30_method_2_code 20 = .ok (.iload_n 1, 1) := by decide +kernel
theorem d7_21 : decode prog_30_method_2_code 21 = .ok (.sipush 256, 3) := by decide +kernel
theorem d7_24 : decode prog_30_method_2_code 24 = .ok (.irem, 1) := by decide +kernel
theorem d7_25 : decode prog_30_method_2_code 25 = .ok (.laload, 1) := by decide +kernel
theorem d7_26 : decode prog_30_method_2_code 26 = .ok (.lreturn, 1) := by decide +kernel
theorem pn7 : plainFor (⟨"slotwise/storage/SlotKeyCounts", "of", "(I)J"⟩ : MethodName) = true := plainFor_of_name (show plainName "slotwise/storage/SlotKeyCounts" = true by first | (simp [plainName, overriddenIn]; done) | decide +kernel)
theorem pd7 : parseMethodDescriptor "(I)J" = some ⟨[.int], (some .long)⟩ := by decide +kernel
theorem d8_0 : decode prog_30_method_3_code 0 = .ok (.aload_n 0, 1) := by decide +kernel
theorem d8_1 : decode prog_30_method_3_code 1 = .ok (.getfield 22, 3) := by decide +kernel
theorem d8_4 : decode prog_30_method_3_code 4 = .ok (.lreturn, 1) := by decide +kernel
theorem pn8 : plainFor (⟨"slotwise/storage/SlotKeyCounts", "total", "()J"⟩ : MethodName) = true := plainFor_of_name (show plainName "slotwise/storage/SlotKeyCounts" = true by first | (simp [plainName, overriddenIn]; done) | decide +kernel)
theorem pd8 : parseMethodDescriptor "()J" = some ⟨[], (some .long)⟩ := by decide +kernel
theorem d9_0 : decode prog_30_method_5_code 0 = .ok (.aload_n 0, 1) := by decide +kernel
theorem d9_1 : decode prog_30_method_5_code 1 = .ok (.getfield 26, 3) := by decide +kernel
theorem d9_4 : decode prog_30_method_5_code 4 = .ok (.newarray .int, 2) := by decide +kernel
theorem d9_6 : decode prog_30_method_5_code 6 = .ok (.astore_n 1, 1) := by decide +kernel
theorem d9_7 : decode prog_30_method_5_code 7 = .ok (.iconst 0, 1) := by decide +kernel
theorem d9_8 : decode prog_30_method_5_code 8 = .ok (.istore_n 2, 1) := by decide +kernel
theorem d9_9 : decode prog_30_method_5_code 9 = .ok (.iconst 0, 1) := by decide +kernel
theorem d9_10 : decode prog_30_method_5_code 10 = .ok (.istore_n 3, 1) := by decide +kernel
theorem d9_11 : decode prog_30_method_5_code 11 = .ok (.iload_n 2, 1) := by decide +kernel
theorem d9_12 : decode prog_30_method_5_code 12 = .ok (.aload_n 1, 1) := by decide +kernel
theorem d9_13 : decode prog_30_method_5_code 13 = .ok (.arraylength, 1) := by decide +kernel
theorem d9_14 : decode prog_30_method_5_code 14 = .ok (.if_icmp .ge 59, 3) := by decide +kernel
theorem d9_17 : decode prog_30_method_5_code 17 = .ok (.aload_n 0, 1) := by decide +kernel
theorem d9_18 : decode prog_30_method_5_code 18 = .ok (.getfield 19, 3) := by decide +kernel
theorem d9_21 : decode prog_30_method_5_code 21 = .ok (.iload_n 3, 1) := by decide +kernel
theorem d9_22 : decode prog_30_method_5_code 22 = .ok (.laload, 1) := by decide +kernel
theorem d9_23 : decode prog_30_method_5_code 23 = .ok (.lstore 4, 2) := by decide +kernel
theorem d9_25 : decode prog_30_method_5_code 25 = .ok (.lload 4, 2) := by decide +kernel
theorem d9_27 : decode prog_30_method_5_code 27 = .ok (.lconst 0, 1) := by decide +kernel
theorem d9_28 : decode prog_30_method_5_code 28 = .ok (.lcmp, 1) := by decide +kernel
theorem d9_29 : decode prog_30_method_5_code 29 = .ok (.ifCond .eq 31, 3) := by decide +kernel
theorem d9_32 : decode prog_30_method_5_code 32 = .ok (.aload_n 1, 1) := by decide +kernel
theorem d9_33 : decode prog_30_method_5_code 33 = .ok (.iload_n 2, 1) := by decide +kernel
theorem d9_34 : decode prog_30_method_5_code 34 = .ok (.iinc 2 1, 3) := by decide +kernel
theorem d9_37 : decode prog_30_method_5_code 37 = .ok (.iload_n 3, 1) := by decide +kernel
theorem d9_38 : decode prog_30_method_5_code 38 = .ok (.bipush 64, 2) := by decide +kernel
theorem d9_40 : decode prog_30_method_5_code 40 = .ok (.imul, 1) := by decide +kernel
theorem d9_41 : decode prog_30_method_5_code 41 = .ok (.lload 4, 2) := by decide +kernel
theorem d9_43 : decode prog_30_method_5_code 43 = .ok (.invokestatic 30, 3) := by decide +kernel
theorem d9_46 : decode prog_30_method_5_code 46 = .ok (.iadd, 1) := by decide +kernel
theorem d9_47 : decode prog_30_method_5_code 47 = .ok (.iastore, 1) := by decide +kernel
theorem d9_48 : decode prog_30_method_5_code 48 = .ok (.lload 4, 2) := by decide +kernel
theorem d9_50 : decode prog_30_method_5_code 50 = .ok (.lload 4, 2) := by decide +kernel
theorem d9_52 : decode prog_30_method_5_code 52 = .ok (.lconst 1, 1) := by decide +kernel
theorem d9_53 : decode prog_30_method_5_code 53 = .ok (.lsub, 1) := by decide +kernel
theorem d9_54 : decode prog_30_method_5_code 54 = .ok (.land, 1) := by decide +kernel
theorem d9_55 : decode prog_30_method_5_code 55 = .ok (.lstore 4, 2) := by decide +kernel
theorem d9_57 : decode prog_30_method_5_code 57 = .ok (.goto (-32), 3) := by decide +kernel
theorem d9_60 : decode prog_30_method_5_code 60 = .ok (.aload_n 0, 1) := by decide +kernel
theorem d9_61 : decode prog_30_method_5_code 61 = .ok (.getfield 19, 3) := by decide +kernel
theorem d9_64 : decode prog_30_method_5_code 64 = .ok (.iload_n 3, 1) := by decide +kernel
theorem d9_65 : decode prog_30_method_5_code 65 = .ok (.lconst 0, 1) := by decide +kernel
theorem d9_66 : decode prog_30_method_5_code 66 = .ok (.lastore, 1) := by decide +kernel
theorem d9_67 : decode prog_30_method_5_code 67 = .ok (.iinc 3 1, 3) := by decide +kernel
theorem d9_70 : decode prog_30_method_5_code 70 = .ok (.goto (-59), 3) := by decide +kernel
theorem d9_73 : decode prog_30_method_5_code 73 = .ok (.aload_n 0, 1) := by decide +kernel
theorem d9_74 : decode prog_30_method_5_code 74 = .ok (.iconst 0, 1) := by decide +kernel
theorem d9_75 : decode prog_30_method_5_code 75 = .ok (.putfield 26, 3) := by decide +kernel
theorem d9_78 : decode prog_30_method_5_code 78 = .ok (.aload_n 1, 1) := by decide +kernel
theorem d9_79 : decode prog_30_method_5_code 79 = .ok (.areturn, 1) := by decide +kernel
theorem pn9 : plainFor (⟨"slotwise/storage/SlotKeyCounts", "takeChanged", "()[I"⟩ : MethodName) = true := plainFor_of_name (show plainName "slotwise/storage/SlotKeyCounts" = true by first | (simp [plainName, overriddenIn]; done) | decide +kernel)
theorem pd9 : parseMethodDescriptor "()[I" = some ⟨[], (some (.array .int))⟩ := by decide +kernel
theorem d10_0 : decode jdk_35_method_49_code 0 = .ok (.lload_n 0, 1) := by decide +kernel
theorem d10_1 : decode jdk_35_method_49_code 1 = .ok (.l2i, 1) := by decide +kernel
theorem d10_2 : decode jdk_35_method_49_code 2 = .ok (.istore_n 2, 1) := by decide +kernel
theorem d10_3 : decode jdk_35_method_49_code 3 = .ok (.iload_n 2, 1) := by decide +kernel
theorem d10_4 : decode jdk_35_method_49_code 4 = .ok (.ifCond .ne 17, 3) := by decide +kernel
theorem d10_7 : decode jdk_35_method_49_code 7 = .ok (.bipush 32, 2) := by decide +kernel
theorem d10_9 : decode jdk_35_method_49_code 9 = .ok (.lload_n 0, 1) := by decide +kernel
theorem d10_10 : decode jdk_35_method_49_code 10 = .ok (.bipush 32, 2) := by decide +kernel
theorem d10_12 : decode jdk_35_method_49_code 12 = .ok (.lushr, 1) := by decide +kernel
theorem d10_13 : decode jdk_35_method_49_code 13 = .ok (.l2i, 1) := by decide +kernel
theorem d10_14 : decode jdk_35_method_49_code 14 = .ok (.invokestatic 311, 3) := by decide +kernel
theorem d10_17 : decode jdk_35_method_49_code 17 = .ok (.iadd, 1) := by decide +kernel
theorem d10_18 : decode jdk_35_method_49_code 18 = .ok (.goto 7, 3) := by decide +kernel
theorem d10_21 : decode jdk_35_method_49_code 21 = .ok (.iload_n 2, 1) := by decide +kernel
theorem d10_22 : decode jdk_35_method_49_code 22 = .ok (.invokestatic 311, 3) := by decide +kernel
theorem d10_25 : decode jdk_35_method_49_code 25 = .ok (.ireturn, 1) := by decide +kernel
theorem pn10 : plainFor (⟨"java/lang/Long", "numberOfTrailingZeros", "(J)I"⟩ : MethodName) = true := plainFor_of_name (show plainName "java/lang/Long" = true by first | (simp [plainName, overriddenIn]; done) | decide +kernel)
theorem pd10 : parseMethodDescriptor "(J)I" = some ⟨[.long], (some .int)⟩ := by decide +kernel
theorem d11_0 : decode jdk_33_method_48_code 0 = .ok (.iload_n 0, 1) := by decide +kernel
theorem d11_1 : decode jdk_33_method_48_code 1 = .ok (.iconst (-1), 1) := by decide +kernel
theorem d11_2 : decode jdk_33_method_48_code 2 = .ok (.ixor, 1) := by decide +kernel
theorem d11_3 : decode jdk_33_method_48_code 3 = .ok (.iload_n 0, 1) := by decide +kernel
theorem d11_4 : decode jdk_33_method_48_code 4 = .ok (.iconst 1, 1) := by decide +kernel
theorem d11_5 : decode jdk_33_method_48_code 5 = .ok (.isub, 1) := by decide +kernel
theorem d11_6 : decode jdk_33_method_48_code 6 = .ok (.iand, 1) := by decide +kernel
theorem d11_7 : decode jdk_33_method_48_code 7 = .ok (.istore_n 0, 1) := by decide +kernel
theorem d11_8 : decode jdk_33_method_48_code 8 = .ok (.iload_n 0, 1) := by decide +kernel
theorem d11_9 : decode jdk_33_method_48_code 9 = .ok (.ifCond .gt 8, 3) := by decide +kernel
theorem d11_12 : decode jdk_33_method_48_code 12 = .ok (.iload_n 0, 1) := by decide +kernel
theorem d11_13 : decode jdk_33_method_48_code 13 = .ok (.bipush 32, 2) := by decide +kernel
theorem d11_15 : decode jdk_33_method_48_code 15 = .ok (.iand, 1) := by decide +kernel
theorem d11_16 : decode jdk_33_method_48_code 16 = .ok (.ireturn, 1) := by decide +kernel
theorem d11_17 : decode jdk_33_method_48_code 17 = .ok (.iconst 1, 1) := by decide +kernel
theorem d11_18 : decode jdk_33_method_48_code 18 = .ok (.istore_n 1, 1) := by decide +kernel
theorem d11_19 : decode jdk_33_method_48_code 19 = .ok (.iload_n 0, 1) := by decide +kernel
theorem d11_20 : decode jdk_33_method_48_code 20 = .ok (.ldc_w 264, 3) := by decide +kernel
theorem d11_23 : decode jdk_33_method_48_code 23 = .ok (.if_icmp .le 11, 3) := by decide +kernel
theorem d11_26 : decode jdk_33_method_48_code 26 = .ok (.iinc 1 16, 3) := by decide +kernel
theorem d11_29 : decode jdk_33_method_48_code 29 = .ok (.iload_n 0, 1) := by decide +kernel
theorem d11_30 : decode jdk_33_method_48_code 30 = .ok (.bipush 16, 2) := by decide +kernel
theorem d11_32 : decode jdk_33_method_48_code 32 = .ok (.iushr, 1) := by decide +kernel
theorem d11_33 : decode jdk_33_method_48_code 33 = .ok (.istore_n 0, 1) := by decide +kernel
theorem d11_34 : decode jdk_33_method_48_code 34 = .ok (.iload_n 0, 1) := by decide +kernel
theorem d11_35 : decode jdk_33_method_48_code 35 = .ok (.sipush 256, 3) := by decide +kernel
theorem d11_38 : decode jdk_33_method_48_code 38 = .ok (.if_icmp .le 11, 3) := by decide +kernel
theorem d11_41 : decode jdk_33_method_48_code 41 = .ok (.iinc 1 8, 3) := by decide +kernel
theorem d11_44 : decode jdk_33_method_48_code 44 = .ok (.iload_n 0, 1) := by decide +kernel
theorem d11_45 : decode jdk_33_method_48_code 45 = .ok (.bipush 8, 2) := by decide +kernel
theorem d11_47 : decode jdk_33_method_48_code 47 = .ok (.iushr, 1) := by decide +kernel
theorem d11_48 : decode jdk_33_method_48_code 48 = .ok (.istore_n 0, 1) := by decide +kernel
theorem d11_49 : decode jdk_33_method_48_code 49 = .ok (.iload_n 0, 1) := by decide +kernel
theorem d11_50 : decode jdk_33_method_48_code 50 = .ok (.bipush 16, 2) := by decide +kernel
theorem d11_52 : decode jdk_33_method_48_code 52 = .ok (.if_icmp .le 10, 3) := by decide +kernel
theorem d11_55 : decode jdk_33_method_48_code 55 = .ok (.iinc 1 4, 3) := by decide +kernel
theorem d11_58 : decode jdk_33_method_48_code 58 = .ok (.iload_n 0, 1) := by decide +kernel
theorem d11_59 : decode jdk_33_method_48_code 59 = .ok (.iconst 4, 1) := by decide +kernel
theorem d11_60 : decode jdk_33_method_48_code 60 = .ok (.iushr, 1) := by decide +kernel
theorem d11_61 : decode jdk_33_method_48_code 61 = .ok (.istore_n 0, 1) := by decide +kernel
theorem d11_62 : decode jdk_33_method_48_code 62 = .ok (.iload_n 0, 1) := by decide +kernel
theorem d11_63 : decode jdk_33_method_48_code 63 = .ok (.iconst 4, 1) := by decide +kernel
theorem d11_64 : decode jdk_33_method_48_code 64 = .ok (.if_icmp .le 10, 3) := by decide +kernel
theorem d11_67 : decode jdk_33_method_48_code 67 = .ok (.iinc 1 2, 3) := by decide +kernel
theorem d11_70 : decode jdk_33_method_48_code 70 = .ok (.iload_n 0, 1) := by decide +kernel
theorem d11_71 : decode jdk_33_method_48_code 71 = .ok (.iconst 2, 1) := by decide +kernel
theorem d11_72 : decode jdk_33_method_48_code 72 = .ok (.iushr, 1) := by decide +kernel
theorem d11_73 : decode jdk_33_method_48_code 73 = .ok (.istore_n 0, 1) := by decide +kernel
theorem d11_74 : decode jdk_33_method_48_code 74 = .ok (.iload_n 1, 1) := by decide +kernel
theorem d11_75 : decode jdk_33_method_48_code 75 = .ok (.iload_n 0, 1) := by decide +kernel
theorem d11_76 : decode jdk_33_method_48_code 76 = .ok (.iconst 1, 1) := by decide +kernel
theorem d11_77 : decode jdk_33_method_48_code 77 = .ok (.iushr, 1) := by decide +kernel
theorem d11_78 : decode jdk_33_method_48_code 78 = .ok (.iadd, 1) := by decide +kernel
theorem d11_79 : decode jdk_33_method_48_code 79 = .ok (.ireturn, 1) := by decide +kernel
theorem pn11 : plainFor (⟨"java/lang/Integer", "numberOfTrailingZeros", "(I)I"⟩ : MethodName) = true := plainFor_of_name (show plainName "java/lang/Integer" = true by first | (simp [plainName, overriddenIn]; done) | decide +kernel)
theorem pd11 : parseMethodDescriptor "(I)I" = some ⟨[.int], (some .int)⟩ := by decide +kernel
theorem d12_0 : decode jdk_29_method_69_code 0 = .ok (.iload_n 0, 1) := by decide +kernel
theorem d12_1 : decode jdk_29_method_69_code 1 = .ok (.iload_n 1, 1) := by decide +kernel
theorem d12_2 : decode jdk_29_method_69_code 2 = .ok (.if_icmp .gt 7, 3) := by decide +kernel
theorem d12_5 : decode jdk_29_method_69_code 5 = .ok (.iload_n 0, 1) := by decide +kernel
theorem d12_6 : decode jdk_29_method_69_code 6 = .ok (.goto 4, 3) := by decide +kernel
theorem d12_9 : decode jdk_29_method_69_code 9 = .ok (.iload_n 1, 1) := by decide +kernel
theorem d12_10 : decode jdk_29_method_69_code 10 = .ok (.ireturn, 1) := by decide +kernel
theorem pn12 : plainFor (⟨"java/lang/Math", "min", "(II)I"⟩ : MethodName) = true := by decide +kernel
theorem pd12 : parseMethodDescriptor "(II)I" = some ⟨[.int, .int], (some .int)⟩ := by decide +kernel
theorem d13_0 : decode jdk_29_method_65_code 0 = .ok (.iload_n 0, 1) := by decide +kernel
theorem d13_1 : decode jdk_29_method_65_code 1 = .ok (.iload_n 1, 1) := by decide +kernel
theorem d13_2 : decode jdk_29_method_65_code 2 = .ok (.if_icmp .lt 7, 3) := by decide +kernel
theorem d13_5 : decode jdk_29_method_65_code 5 = .ok (.iload_n 0, 1) := by decide +kernel
theorem d13_6 : decode jdk_29_method_65_code 6 = .ok (.goto 4, 3) := by decide +kernel
theorem d13_9 : decode jdk_29_method_65_code 9 = .ok (.iload_n 1, 1) := by decide +kernel
theorem d13_10 : decode jdk_29_method_65_code 10 = .ok (.ireturn, 1) := by decide +kernel
theorem pn13 : plainFor (⟨"java/lang/Math", "max", "(II)I"⟩ : MethodName) = true := by decide +kernel
theorem pd13 : parseMethodDescriptor "(II)I" = some ⟨[.int, .int], (some .int)⟩ := by decide +kernel
/-- function update -/
def upd (f : Nat → Int64) (i : Nat) (v : Int64) : Nat → Int64 := fun j => if j = i then v else f j
theorem upd_same (f : Nat → Int64) (i : Nat) (v : Int64) : upd f i v i = v := if_pos rfl
theorem upd_ne (f : Nat → Int64) {i j : Nat} (v : Int64) (h : j ≠ i) : upd f i v j = f j := if_neg h
abbrev SKC : String := "slotwise/storage/SlotKeyCounts"
/-- the pages: a null page's counts are 0 -/
def Pg (Z : State) (h : Heap) (n0 : Nat) (ps : List Value) (cnt : Nat → Int64) (o pa ca : Addr) : Prop :=
  ps.length = 64 ∧ (∀ i, i < 64 → (ps[i]? = some .null ∧ ∀ j, j < 256 → cnt (256 * i + j) = 0) ∨ ∃ b kb vs, ps[i]? = some (.ref b) ∧ Ar Z h b .long kb vs ∧ vs.length = 256 ∧ (n0 ≤ b ∧ b ≠ o ∧ b ≠ pa ∧ b ≠ ca) ∧ ∀ j, j < 256 → vs[j]? = some (.long (cnt (256 * i + j)))) ∧
    ∀ (i i' : Nat) (b : Addr), ps[i]? = some (Value.ref b) → ps[i']? = some (Value.ref b) → i = i'
/-- a row of longs -/
def Row (cs : List Value) (m : Nat) (f : Nat → Int64) : Prop := cs.length = m ∧ ∀ i, i < m → cs[i]? = some (.long (f i))
def SKx (Z : State) (h : Heap) (n0 : Nat) (o pa ca : Addr) (kP kC : ClassId) (ps cs : List Value) (cnt chg : Nat → Int64) (tot : Int64) (chs : Int32) : Prop :=
  Exa Z h o SKC ∧ (n0 ≤ o ∧ n0 ≤ pa ∧ n0 ≤ ca ∧ pa ≠ ca ∧ o ≠ pa ∧ o ≠ ca) ∧ Fld Z h o SKC "pages" "[[J" (.ref pa) ∧ Fld Z h o SKC "changed" "[J" (.ref ca) ∧ Fld Z h o SKC "total" "J" (.long tot) ∧ Fld Z h o SKC "changes" "I" (.int chs) ∧
    Ar Z h pa (.array .long) kP ps ∧ OvrA Z kP .long "[J" ∧ Ar Z h ca .long kC cs ∧ Row cs 256 chg ∧ Pg Z h n0 ps cnt o pa ca
def SK (Z : State) (h : Heap) (n0 : Nat) (o : Addr) (cnt chg : Nat → Int64) (tot : Int64) (chs : Int32) : Prop := ∃ pa ca kP kC ps cs, SKx Z h n0 o pa ca kP kC ps cs cnt chg tot chs
theorem Pg.ext {Z : State} {h h' : Heap} {n0 : Nat} {ps : List Value} {cnt : Nat → Int64} {o pa ca : Addr} (P : Pg Z h n0 ps cnt o pa ca) (E : Ext h h') : Pg Z h' n0 ps cnt o pa ca := by
  obtain ⟨h1, h2, h3⟩ := P
  refine ⟨h1, fun i hi => ?_, h3⟩
  rcases h2 i hi with q | ⟨b, kb, vs, q1, q2, q3, q4, q5⟩
  · exact Or.inl q
  · exact Or.inr ⟨b, kb, vs, q1, q2.ext E, q3, q4, q5⟩
theorem Pg.wr {Z : State} {h h' : Heap} {n0 : Nat} {ps : List Value} {cnt : Nat → Int64} {o pa ca a : Addr} {sl : Nat} {v : Value} (P : Pg Z h n0 ps cnt o pa ca) (W : Wr h h' a sl v) (ha : a = o ∨ a = pa ∨ a = ca) : Pg Z h' n0 ps cnt o pa ca := by
  obtain ⟨h1, h2, h3⟩ := P
  refine ⟨h1, fun i hi => ?_, h3⟩
  rcases h2 i hi with q | ⟨b, kb, vs, q1, q2, q3, q4, q5⟩
  · exact Or.inl q
  · refine Or.inr ⟨b, kb, vs, q1, q2.other W ?_, q3, q4, q5⟩
    rcases ha with rfl | rfl | rfl
    · exact q4.2.1
    · exact q4.2.2.1
    · exact q4.2.2.2
theorem SKx.ext {Z : State} {h h' : Heap} {n0 : Nat} {o pa ca : Addr} {kP kC : ClassId} {ps cs : List Value} {cnt chg : Nat → Int64} {tot : Int64} {chs : Int32} (S : SKx Z h n0 o pa ca kP kC ps cs cnt chg tot chs) (E : Ext h h') : SKx Z h' n0 o pa ca kP kC ps cs cnt chg tot chs := by
  obtain ⟨s1, s2, s3, s4, s5, s6, s7, s8, s9, s10, s11⟩ := S
  exact ⟨s1.ext E, s2, s3.ext E, s4.ext E, s5.ext E, s6.ext E, s7.ext E, s8, s9.ext E, s10, s11.ext E⟩
/-- a new page at a place that was null -/
theorem SKx.page {Z : State} {h h' : Heap} {n0 : Nat} {o pa ca : Addr} {kP kC : ClassId} {ps cs : List Value} {cnt chg : Nat → Int64} {tot : Int64} {chs : Int32} (S : SKx Z h n0 o pa ca kP kC ps cs cnt chg tot chs) {b : Addr} {kb : ClassId} {i : Nat} (hi : i < 64) (hz : ps[i]? = some .null ∧ ∀ j, j < 256 → cnt (256 * i + j) = 0)
    (Ab : Ar Z h b .long kb (List.replicate 256 (.long 0))) (nb : n0 ≤ b ∧ b ≠ o ∧ b ≠ pa ∧ b ≠ ca) (fresh : ∀ (j : Nat) (c : Addr), ps[j]? = some (.ref c) → c ≠ b) (W : Wr h h' pa i (.ref b)) : SKx Z h' n0 o pa ca kP kC (ps.set i (.ref b)) cs cnt chg tot chs := by
  obtain ⟨s1, s2, s3, s4, s5, s6, s7, s8, s9, s10, p1, p2, p3⟩ := S
  have ne := s2.2.2.2
  refine ⟨s1.wr W, s2, s3.other W (Or.inl ne.2.1), s4.other W (Or.inl ne.2.1), s5.other W (Or.inl ne.2.1), s6.other W (Or.inl ne.2.1), s7.set W, s8, s9.other W (Ne.symm ne.1), s10, by simp [p1], fun k hk => ?_, ?_⟩
  · by_cases e : k = i
    · subst e
      refine Or.inr ⟨b, kb, _, by rw [List.getElem?_set_self (by omega)], Ab.other W nb.2.2.1, List.length_replicate, nb, fun j hj => ?_⟩
      rw [hz.2 j hj, List.getElem?_replicate, if_pos hj]
    · rw [List.getElem?_set_ne (fun q => e q.symm)]
      rcases p2 k hk with q | ⟨b', kb', vs, q1, q2, q3, q4, q5⟩
      · exact Or.inl q
      · exact Or.inr ⟨b', kb', vs, q1, q2.other W q4.2.2.1, q3, q4, q5⟩
  · intro k k' c hk hk'
    by_cases e : k = i
    · subst e
      rw [List.getElem?_set_self (by omega)] at hk
      have hc : b = c := by simpa using hk
      by_cases e' : k' = k
      · exact e'.symm
      · rw [List.getElem?_set_ne (fun q => e' q.symm)] at hk'
        exact absurd hc.symm (fresh _ _ hk')
    · rw [List.getElem?_set_ne (fun q => e q.symm)] at hk
      by_cases e' : k' = i
      · subst e'
        rw [List.getElem?_set_self (by omega)] at hk'
        have hc : b = c := by simpa using hk'
        exact absurd hc.symm (fresh _ _ hk)
      · rw [List.getElem?_set_ne (fun q => e' q.symm)] at hk'
        exact p3 _ _ _ hk hk'
/-- one count written -/
theorem SKx.put {Z : State} {h h' : Heap} {n0 : Nat} {o pa ca : Addr} {kP kC : ClassId} {ps cs : List Value} {cnt chg : Nat → Int64} {tot : Int64} {chs : Int32} (S : SKx Z h n0 o pa ca kP kC ps cs cnt chg tot chs) {b : Addr} {i j : Nat} {v : Int64} (hi : i < 64) (hj : j < 256) (hb : ps[i]? = some (.ref b)) (W : Wr h h' b j (.long v)) : SKx Z h' n0 o pa ca kP kC ps cs (upd cnt (256 * i + j) v) chg tot chs := by
  obtain ⟨s1, s2, s3, s4, s5, s6, s7, s8, s9, s10, p1, p2, p3⟩ := S
  have nb : n0 ≤ b ∧ b ≠ o ∧ b ≠ pa ∧ b ≠ ca := by
    rcases p2 i hi with q | ⟨b', kb, vs, q1, q2, q3, q4, q5⟩
    · rw [hb] at q; simp at q
    · rw [hb] at q1; obtain rfl : b = b' := by simpa using q1
      exact q4
  refine ⟨s1.wr W, s2, s3.other W (Or.inl nb.2.1.symm), s4.other W (Or.inl nb.2.1.symm), s5.other W (Or.inl nb.2.1.symm), s6.other W (Or.inl nb.2.1.symm), s7.other W nb.2.2.1.symm, s8, s9.other W nb.2.2.2.symm, s10, p1, fun k hk => ?_, p3⟩
  rcases p2 k hk with ⟨q1, q2⟩ | ⟨b', kb, vs, q1, q2, q3, q4, q5⟩
  · refine Or.inl ⟨q1, fun j' hj' => ?_⟩
    have : k ≠ i := fun e => by rw [e, hb] at q1; simp at q1
    rw [upd_ne _ _ (by omega)]; exact q2 j' hj'
  · by_cases e : k = i
    · subst e
      rw [hb] at q1; obtain rfl : b = b' := by simpa using q1
      refine Or.inr ⟨b, kb, _, hb, q2.set W, by simpa using q3, nb, fun j' hj' => ?_⟩
      by_cases e : j' = j
      · subst e; rw [upd_same, List.getElem?_set_self (by omega)]
      · rw [upd_ne _ _ (by omega), List.getElem?_set_ne (fun q => e q.symm)]; exact q5 j' hj'
    · have ne : b' ≠ b := fun q => e (p3 _ _ b' q1 (q ▸ hb))
      refine Or.inr ⟨b', kb, vs, q1, q2.other W ne, q3, q4, fun j' hj' => ?_⟩
      rw [upd_ne _ _ (by omega)]; exact q5 j' hj'
theorem Row.set {cs : List Value} {m i : Nat} {f : Nat → Int64} (r : Row cs m f) (hi : i < m) (v : Int64) : Row (cs.set i (.long v)) m (upd f i v) := by
  refine ⟨by simpa using r.1, fun j hj => ?_⟩
  by_cases e : j = i
  · subst e; rw [upd_same, List.getElem?_set_self (by have := r.1; omega)]
  · rw [upd_ne _ _ e, List.getElem?_set_ne (fun q => e q.symm)]; exact r.2 j hj
/-- one word of 'changed' written -/
theorem SKx.word {Z : State} {h h' : Heap} {n0 : Nat} {o pa ca : Addr} {kP kC : ClassId} {ps cs : List Value} {cnt chg : Nat → Int64} {tot : Int64} {chs : Int32} (S : SKx Z h n0 o pa ca kP kC ps cs cnt chg tot chs) {i : Nat} {v : Int64} (hi : i < 256) (W : Wr h h' ca i (.long v)) : SKx Z h' n0 o pa ca kP kC ps (cs.set i (.long v)) cnt (upd chg i v) tot chs := by
  obtain ⟨s1, s2, s3, s4, s5, s6, s7, s8, s9, s10, s11⟩ := S
  have ne := s2.2.2.2
  exact ⟨s1.wr W, s2, s3.other W (Or.inl ne.2.2), s4.other W (Or.inl ne.2.2), s5.other W (Or.inl ne.2.2), s6.other W (Or.inl ne.2.2), s7.other W ne.1, s8, s9.set W, s10.set hi v, s11.wr W (Or.inr (Or.inr rfl))⟩
section
variable {Z : State} {a0 : Array Value}
theorem pT1 : parseFieldDescriptor "[[J" = some (.array (.array .long)) := by decide +kernel
theorem pT2 : parseFieldDescriptor "[J" = some (.array .long) := by decide +kernel
theorem pT3 : parseFieldDescriptor "J" = some .long := by decide +kernel
theorem pT4 : parseFieldDescriptor "I" = some .int := by decide +kernel
theorem SKx.tot {h h' : Heap} {n0 : Nat} {o pa ca : Addr} {kP kC : ClassId} {ps cs : List Value} {cnt chg : Nat → Int64} {tot v : Int64} {chs : Int32} (hw : Hw a0 Z) (S : SKx Z h n0 o pa ca kP kC ps cs cnt chg tot chs) (W : Wr h h' o (RoadKit.slotOf Z SKC "total" "J") (.long v)) : SKx Z h' n0 o pa ca kP kC ps cs cnt chg v chs := by
  obtain ⟨s1, s2, s3, s4, s5, s6, s7, s8, s9, s10, s11⟩ := S
  have ne := s2.2.2.2
  exact ⟨s1.wr W, s2, s3.nxt W (Or.inr (w13 hw)) (Or.inl (w24 hw)) (by decide) pT1 pT3, s4.nxt W (Or.inr (w16 hw)) (Or.inl (w24 hw)) (by decide) pT2 pT3, s5.same W, s6.nxt W (Or.inl (w26 hw)) (Or.inl (w24 hw)) (by decide) pT4 pT3, s7.other W ne.2.1.symm, s8, s9.other W ne.2.2.symm, s10, s11.wr W (Or.inl rfl)⟩
theorem SKx.chs {h h' : Heap} {n0 : Nat} {o pa ca : Addr} {kP kC : ClassId} {ps cs : List Value} {cnt chg : Nat → Int64} {tot : Int64} {chs v : Int32} (hw : Hw a0 Z) (S : SKx Z h n0 o pa ca kP kC ps cs cnt chg tot chs) (W : Wr h h' o (RoadKit.slotOf Z SKC "changes" "I") (.int v)) : SKx Z h' n0 o pa ca kP kC ps cs cnt chg tot v := by
  obtain ⟨s1, s2, s3, s4, s5, s6, s7, s8, s9, s10, s11⟩ := S
  have ne := s2.2.2.2
  exact ⟨s1.wr W, s2, s3.nxt W (Or.inr (w13 hw)) (Or.inl (w26 hw)) (by decide) pT1 pT4, s4.nxt W (Or.inr (w16 hw)) (Or.inl (w26 hw)) (by decide) pT2 pT4, s5.nxt W (Or.inl (w24 hw)) (Or.inl (w26 hw)) (by decide) pT3 pT4, s6.same W, s7.other W ne.2.1.symm, s8, s9.other W ne.2.2.symm, s10, s11.wr W (Or.inl rfl)⟩
end

theorem ar_ne0 {Z : State} {h : Heap} {a b : Addr} {t1 t2 : FieldType} {k1 k2 : ClassId} {v1 v2 : List Value} (A : Ar Z h a t1 k1 v1) (B : Ar Z h b t2 k2 v2) (ht : t1 ≠ t2) : a ≠ b := fun e => by
  subst e
  obtain ⟨c, A, -⟩ := A
  obtain ⟨c', B, -⟩ := B
  cases A.1.symm.trans B.1
  obtain ⟨-, k, h1, comp, h2⟩ := A.2.1
  obtain ⟨-, k', h1', comp', h2'⟩ := B.2.1
  cases h1.symm.trans h1'
  rw [h2] at h2'
  cases h2'
  exact ht rfl
/-- every int[] stays -/
def IK (Z : State) (o : Addr) (h h' : Heap) : Prop := ∀ (r : Addr) (kr : ClassId) (rs : List Value), o ≠ r → Ar Z h r .int kr rs → Ar Z h' r .int kr rs
theorem IK.refl {Z : State} {o : Addr} {h : Heap} : IK Z o h h := fun _ _ _ _ A => A
theorem IK.trans {Z : State} {o : Addr} {h h1 h2 : Heap} (a : IK Z o h h1) (b : IK Z o h1 h2) : IK Z o h h2 := fun r kr rs n A => b r kr rs n (a r kr rs n A)
theorem IK.ext {Z : State} {o : Addr} {h h' : Heap} (E : Ext h h') : IK Z o h h' := fun _ _ _ _ A => A.ext E
theorem IK.wrO {Z : State} {o : Addr} {h h' : Heap} {sl : Nat} {v : Value} (W : Wr h h' o sl v) : IK Z o h h' := fun _ _ _ n A => A.other W n.symm
theorem IK.wrA {Z : State} {o a : Addr} {h h' : Heap} {sl : Nat} {v : Value} {ty : FieldType} {k : ClassId} {vs : List Value} (B : Ar Z h a ty k vs) (ht : ty ≠ .int) (W : Wr h h' a sl v) : IK Z o h h' := fun _ _ _ _ A => A.other W (ar_ne0 B A ht).symm
def zeroC : Nat → Int64 := fun _ => 0
def bitOf (sl : Int32) : Int64 := (1 : Int64) <<< ((sl % (64 : Int32)).toInt64 &&& 63)
def chgN (chg : Nat → Int64) (sl : Int32) : Nat → Int64 := if chg (sl.toNatClampNeg / 64) &&& bitOf sl = 0 then upd chg (sl.toNatClampNeg / 64) (chg (sl.toNatClampNeg / 64) ||| bitOf sl) else chg
def chsN (chg : Nat → Int64) (sl : Int32) (chs : Int32) : Int32 := if chg (sl.toNatClampNeg / 64) &&& bitOf sl = 0 then chs + 1 else chs
set_option maxRecDepth 65536 in
set_option maxHeartbeats 40000000 in
theorem sk_init (l : Launch) (Z : State) (a0 : Array Value) (hw : Hw a0 Z) (n0 : Nat) (h : Heap) (o : Addr) (no : n0 ≤ o) (e0 : Exa Z h o SKC) (f1 : Fld Z h o SKC "pages" "[[J" .null) (f2 : Fld Z h o SKC "changed" "[J" .null) (f3 : Fld Z h o SKC "total" "J" (.long 0)) (f4 : Fld Z h o SKC "changes" "I" (.int 0)) {Q : Option Value → Heap → Prop} (hQ : ∀ h', IK Z o h h' → SK Z h' n0 o zeroC zeroC 0 0 → Q none h') :
    Go l Z (⟨"slotwise/storage/SlotKeyCounts", "<init>", "()V"⟩ : MethodName) prog_30_method_1_code 1 none ({ frames := 1, cells := 2, slots := 320, locals := 12 } : Room) n0 Q h 0 0 0 #[.val (.ref o)] [] := by
  refine Go.aloadN d1_0 (q := 1) rfl rfl rfl ?_
  refine Go.initObj d1_1 (q := 4) rfl (w7 hw) (w8 hw) (w9 hw) rfl (by decide) rfl (by decide) ?_
  refine Go.aloadN d1_4 (q := 5) rfl rfl rfl ?_
  refine Go.bipush d1_5 (q := 7) rfl (x := (64 : Int32)) (by decide) ?_
  refine Go.anewarrayA (cap := 64) d1_7 (q := 10) rfl (C := "[J") (ad := "[[J") rfl rfl (w10 hw) (w11 hw) (by decide) (by decide) (by decide) (by decide) (by decide) ?_
  intro h1 pa kP e1 X1 A1 V1 _
  have np : n0 ≤ pa := new_le (le_size e0.lt no) e1
  have lp : pa < h1.size := A1.lt
  refine Go.putF d1_10 (q := 13) rfl (host := "") (Or.inl (w12 hw)) Via.refl (f1.ext X1) (e0.ext X1) (Or.inr ⟨(w13 hw), rfl, rfl⟩) (w2 hw) pT1 rfl rfl no ?_
  intro h2 W2
  refine Go.aloadN d1_13 (q := 14) rfl rfl rfl ?_
  refine Go.sipush d1_14 (q := 17) rfl (x := (256 : Int32)) (by decide) ?_
  refine Go.newarrayE (cap := 256) d1_17 (q := 19) rfl (ad := "[J") rfl (w14 hw) (by decide) (by decide) (by decide) (by decide) (by decide) ?_
  intro h3 ca kC e3 X3 A3 E3
  have nc : n0 ≤ ca := new_le (by rw [W2.size]; exact Nat.le_trans (le_size e0.lt no) X1.1) e3
  refine Go.putF d1_19 (q := 22) rfl (host := "") (Or.inl (w15 hw)) Via.refl (((f2.ext X1).nxt W2 (Or.inr (w16 hw)) (Or.inr (w13 hw)) (by decide) pT2 pT1).ext X3) (((e0.ext X1).wr W2).ext X3) (Or.inr ⟨(w16 hw), rfl, rfl⟩) (w2 hw) pT2 rfl rfl no ?_
  intro h4 W4
  refine Go.vreturn d1_22 (by decide) (by decide) ?_
  have lo : o < h.size := e0.lt
  have ne1 : pa ≠ ca := new_ne (by rw [W2.size]; exact lp) e3
  have ne2 : o ≠ pa := new_ne e0.lt e1
  have ne3 : o ≠ ca := new_ne (by rw [W2.size]; exact Nat.lt_of_lt_of_le e0.lt X1.1) e3
  refine hQ _ ((IK.ext X1).trans ((IK.wrO W2).trans ((IK.ext X3).trans (IK.wrO W4)))) ⟨pa, ca, kP, kC, List.replicate 64 Value.null, List.replicate 256 (Value.long 0), (((e0.ext X1).wr W2).ext X3).wr W4, ⟨no, np, nc, ne1, ne2, ne3⟩, ?_, ?_, ?_, ?_, ?_, V1, ?_, ?_, ?_⟩
  · exact (((f1.ext X1).same W2).ext X3).nxt W4 (Or.inr (w13 hw)) (Or.inr (w16 hw)) (by decide) pT1 pT2
  · exact (((f2.ext X1).nxt W2 (Or.inr (w16 hw)) (Or.inr (w13 hw)) (by decide) pT2 pT1).ext X3).same W4
  · exact (((f3.ext X1).nxt W2 (Or.inl (w24 hw)) (Or.inr (w13 hw)) (by decide) pT3 pT1).ext X3).nxt W4 (Or.inl (w24 hw)) (Or.inr (w16 hw)) (by decide) pT3 pT2
  · exact (((f4.ext X1).nxt W2 (Or.inl (w26 hw)) (Or.inr (w13 hw)) (by decide) pT4 pT1).ext X3).nxt W4 (Or.inl (w26 hw)) (Or.inr (w16 hw)) (by decide) pT4 pT2
  · exact ((A1.other W2 ne2.symm).ext X3).other W4 ne2.symm
  · exact A3.other W4 ne3.symm
  · exact ⟨List.length_replicate, fun i hi => by rw [List.getElem?_replicate, if_pos hi]; rfl⟩
  · refine ⟨List.length_replicate, fun i hi => Or.inl ⟨by rw [List.getElem?_replicate, if_pos hi], fun _ _ => rfl⟩, fun i i' b q => ?_⟩
    rw [List.getElem?_replicate] at q; split at q <;> simp at q
set_option maxRecDepth 65536 in
set_option maxHeartbeats 40000000 in
theorem sk_of (l : Launch) (Z : State) (a0 : Array Value) (hw : Hw a0 Z) (n0 : Nat) (h : Heap) (o : Addr) (sl : Int32) (hs : ¬ sl < 0 ∧ sl.toNatClampNeg < 16384) {cnt chg : Nat → Int64} {tot : Int64} {chs : Int32} (S : SK Z h n0 o cnt chg tot chs) {Q : Option Value → Heap → Prop} (hQ : Q (some (.long (cnt sl.toNatClampNeg))) h) :
    Go l Z (⟨"slotwise/storage/SlotKeyCounts", "of", "(I)J"⟩ : MethodName) prog_30_method_2_code 3 (some .long) ({ frames := 0, cells := 0, slots := 0, locals := 0 } : Room) n0 Q h 0 0 0 #[.val (.ref o), .val (.int sl), .unset] [] := by
  obtain ⟨pa, ca, kP, kC, ps, cs, S⟩ := S
  obtain ⟨s1, s2, s3, s4, s5, s6, s7, s8, s9, s10, s11⟩ := S
  have d := idiv_nat (y := 256) (d := 256) hs.1 rfl (by decide)
  have r := irem_nat (y := 256) (d := 256) hs.1 rfl (by decide)
  have hi : sl.toNatClampNeg / 256 < 64 := by omega
  have e256 : 256 * (sl.toNatClampNeg / 256) + sl.toNatClampNeg % 256 = sl.toNatClampNeg := by omega
  rcases s11.2.1 _ hi with ⟨q1, q2⟩ | ⟨b, kb, vs, q1, q2, q3, q4, q5⟩
  · skip
    refine Go.aloadN d7_0 (q := 1) rfl rfl rfl ?_
    refine Go.getF d7_1 (q := 4) rfl (host := "") (Or.inl (w12 hw)) Via.refl s3 ?_
    refine Go.iloadN d7_4 (q := 5) rfl rfl ?_
    refine Go.sipush d7_5 (q := 8) rfl (x := (256 : Int32)) (by decide) ?_
    refine Go.idiv d7_8 (q := 9) rfl (by decide) ?_
    refine Go.aaload d7_9 (q := 10) rfl s7 rfl d.1 (by rw [d.2]; exact q1) ?_
    refine Go.astoreN d7_10 (q := 11) rfl rfl (Ls' := #[.val (.ref o), .val (.int sl), .val .null]) rfl ?_
    refine Go.aloadN d7_11 (q := 12) rfl rfl rfl ?_
    refine Go.ifnonnull d7_12 (q := 19) (q' := 15) (by decide) rfl rfl rfl (fun _ e => by cases e) (fun _ => ?_)
    refine Go.lconst d7_15 (q := 16) rfl (x := (0 : Int64)) (by decide) ?_
    refine Go.goto d7_16 (q := 26) (by decide) rfl ?_
    refine Go.lreturn d7_26 (by decide) (by decide) ?_
    have z := q2 (sl.toNatClampNeg % 256) (Nat.mod_lt _ (by decide))
    rw [e256] at z
    rw [z] at hQ
    exact hQ
  · skip
    refine Go.aloadN d7_0 (q := 1) rfl rfl rfl ?_
    refine Go.getF d7_1 (q := 4) rfl (host := "") (Or.inl (w12 hw)) Via.refl s3 ?_
    refine Go.iloadN d7_4 (q := 5) rfl rfl ?_
    refine Go.sipush d7_5 (q := 8) rfl (x := (256 : Int32)) (by decide) ?_
    refine Go.idiv d7_8 (q := 9) rfl (by decide) ?_
    refine Go.aaload d7_9 (q := 10) rfl s7 rfl d.1 (by rw [d.2]; exact q1) ?_
    refine Go.astoreN d7_10 (q := 11) rfl rfl (Ls' := #[.val (.ref o), .val (.int sl), .val (.ref b)]) rfl ?_
    refine Go.aloadN d7_11 (q := 12) rfl rfl rfl ?_
    refine Go.ifnonnull d7_12 (q := 19) (q' := 15) (by decide) rfl rfl rfl (fun _ _ => ?_) (fun e => by cases e)
    refine Go.aloadN d7_19 (q := 20) rfl rfl rfl ?_
    refine Go.iloadN d7_20 (q := 21) rfl rfl ?_
    refine Go.sipush d7_21 (q := 24) rfl (x := (256 : Int32)) (by decide) ?_
    refine Go.irem d7_24 (q := 25) rfl (by decide) ?_
    refine Go.laload d7_25 (q := 26) rfl q2 r.1 (by rw [r.2]; exact q5 _ (Nat.mod_lt _ (by decide))) ?_
    refine Go.lreturn d7_26 (by decide) (by decide) ?_
    rw [e256]
    exact hQ
set_option maxRecDepth 65536 in
set_option maxHeartbeats 40000000 in
theorem sk_add36 (l : Launch) (Z : State) (a0 : Array Value) (hw : Hw a0 Z) (n0 : Nat) (h : Heap) (o b : Addr) (sl : Int32) (hs : ¬ sl < 0 ∧ sl.toNatClampNeg < 16384) (g : Int64) {pa ca : Addr} {kP kC : ClassId} {ps cs : List Value} {cnt chg : Nat → Int64} {tot : Int64} {chs : Int32} (S : SKx Z h n0 o pa ca kP kC ps cs cnt chg tot chs) (hb : ps[sl.toNatClampNeg / 256]? = some (.ref b)) {Q : Option Value → Heap → Prop} (hQ : ∀ h', IK Z o h h' → SK Z h' n0 o (upd cnt sl.toNatClampNeg (cnt sl.toNatClampNeg + g)) (chgN chg sl) (tot + g) (chsN chg sl chs) → Q none h') :
    Go l Z (⟨"slotwise/storage/SlotKeyCounts", "add", "(IJ)V"⟩ : MethodName) prog_30_method_4_code 7 none ({ frames := 0, cells := 1, slots := 256, locals := 0 } : Room) n0 Q h 1 256 36 #[.val (.ref o), .val (.int sl), .val (.long g), .second, .val (.ref b), .unset, .unset] [] := by
  have hS := S
  obtain ⟨s1, s2, s3, s4, s5, s6, s7, s8, s9, s10, s11⟩ := hS
  have d := idiv_nat (y := 256) (d := 256) hs.1 rfl (by decide)
  have r := irem_nat (y := 256) (d := 256) hs.1 rfl (by decide)
  have hi : sl.toNatClampNeg / 256 < 64 := by omega
  have e256 : 256 * (sl.toNatClampNeg / 256) + sl.toNatClampNeg % 256 = sl.toNatClampNeg := by omega
  have d64 := idiv_nat (y := 64) (d := 64) hs.1 rfl (by decide)
  obtain ⟨kb, vs, q2, q3, q4, q5⟩ : ∃ kb vs, Ar Z h b .long kb vs ∧ vs.length = 256 ∧ (n0 ≤ b ∧ b ≠ o ∧ b ≠ pa ∧ b ≠ ca) ∧ ∀ j, j < 256 → vs[j]? = some (.long (cnt (256 * (sl.toNatClampNeg / 256) + j))) := by
    rcases s11.2.1 _ hi with ⟨q1, -⟩ | ⟨b', kb, vs, q1, q2, q3, q4, q5⟩
    · rw [hb] at q1; simp at q1
    · rw [hb] at q1; obtain rfl : b = b' := by simpa using q1
      exact ⟨kb, vs, q2, q3, q4, q5⟩
  refine Go.aload d3_36 (q := 38) rfl rfl rfl ?_
  refine Go.iloadN d3_38 (q := 39) rfl rfl ?_
  refine Go.sipush d3_39 (q := 42) rfl (x := (256 : Int32)) (by decide) ?_
  refine Go.irem d3_42 (q := 43) rfl (by decide) ?_
  refine Go.dup2 d3_43 (q := 44) rfl rfl rfl ?_
  refine Go.laload d3_44 (q := 45) rfl q2 r.1 (by rw [r.2]; exact q5 _ (Nat.mod_lt _ (by decide))) ?_
  rw [e256]
  refine Go.lloadN d3_45 (q := 46) rfl rfl ?_
  refine Go.ladd d3_46 (q := 47) rfl ?_
  refine Go.lastore d3_47 (q := 48) rfl q2 r.1 (by rw [r.2, q3]; exact Nat.mod_lt _ (by decide)) q4.1 ?_
  intro h1 W1
  rw [r.2] at W1
  have S1 := S.put hi (Nat.mod_lt _ (by decide)) hb W1
  rw [e256] at S1
  refine Go.aloadN d3_48 (q := 49) rfl rfl rfl ?_
  refine Go.dup d3_49 (q := 50) rfl rfl ?_
  refine Go.getF d3_50 (q := 53) rfl (host := "") (Or.inl (w23 hw)) Via.refl S1.2.2.2.2.1 ?_
  refine Go.lloadN d3_53 (q := 54) rfl rfl ?_
  refine Go.ladd d3_54 (q := 55) rfl ?_
  refine Go.putF d3_55 (q := 58) rfl (host := "") (Or.inl (w23 hw)) Via.refl S1.2.2.2.2.1 S1.1 (Or.inl (w24 hw)) (w2 hw) pT3 rfl rfl s2.1 ?_
  intro h2 W2
  have S2 := S1.tot hw W2
  refine Go.lconst d3_58 (q := 59) rfl (x := (1 : Int64)) (by decide) ?_
  refine Go.iloadN d3_59 (q := 60) rfl rfl ?_
  refine Go.bipush d3_60 (q := 62) rfl (x := (64 : Int32)) (by decide) ?_
  refine Go.irem d3_62 (q := 63) rfl (by decide) ?_
  refine Go.lshl d3_63 (q := 64) rfl ?_
  refine Go.lstore d3_64 (q := 66) rfl (Ls' := #[.val (.ref o), .val (.int sl), .val (.long g), .second, .val (.ref b), .val (.long ((1 : Int64) <<< ((sl % (64 : Int32)).toInt64 &&& 63))), .second]) rfl ?_
  refine Go.aloadN d3_66 (q := 67) rfl rfl rfl ?_
  refine Go.getF d3_67 (q := 70) rfl (host := "") (Or.inl (w15 hw)) Via.refl S2.2.2.2.1 ?_
  refine Go.iloadN d3_70 (q := 71) rfl rfl ?_
  refine Go.bipush d3_71 (q := 73) rfl (x := (64 : Int32)) (by decide) ?_
  refine Go.idiv d3_73 (q := 74) rfl (by decide) ?_
  refine Go.laload d3_74 (q := 75) rfl S2.2.2.2.2.2.2.2.2.1 d64.1 (by rw [d64.2]; exact S2.2.2.2.2.2.2.2.2.2.1.2 _ (by omega)) ?_
  refine Go.lload d3_75 (q := 77) rfl rfl ?_
  refine Go.land d3_77 (q := 78) rfl ?_
  refine Go.lconst d3_78 (q := 79) rfl (x := (0 : Int64)) (by decide) ?_
  refine Go.lcmp d3_79 (q := 80) rfl ?_
  refine Go.lif_ne d3_80 (q := 107) (q' := 83) (by decide) rfl rfl (fun c3 => ?_) (fun c3 => ?_)
  · skip
    refine Go.vreturn d3_107 (by decide) (by decide) ?_
    unfold chgN chsN bitOf at hQ
    rw [if_neg c3, if_neg c3] at hQ
    exact hQ _ ((IK.wrA q2 (by decide) W1).trans (IK.wrO W2)) ⟨_, _, _, _, _, _, S2⟩
  · skip
    refine Go.aloadN d3_83 (q := 84) rfl rfl rfl ?_
    refine Go.getF d3_84 (q := 87) rfl (host := "") (Or.inl (w15 hw)) Via.refl S2.2.2.2.1 ?_
    refine Go.iloadN d3_87 (q := 88) rfl rfl ?_
    refine Go.bipush d3_88 (q := 90) rfl (x := (64 : Int32)) (by decide) ?_
    refine Go.idiv d3_90 (q := 91) rfl (by decide) ?_
    refine Go.dup2 d3_91 (q := 92) rfl rfl rfl ?_
    refine Go.laload d3_92 (q := 93) rfl S2.2.2.2.2.2.2.2.2.1 d64.1 (by rw [d64.2]; exact S2.2.2.2.2.2.2.2.2.2.1.2 _ (by omega)) ?_
    refine Go.lload d3_93 (q := 95) rfl rfl ?_
    refine Go.lor d3_95 (q := 96) rfl ?_
    refine Go.lastore d3_96 (q := 97) rfl S2.2.2.2.2.2.2.2.2.1 d64.1 (by rw [d64.2, S2.2.2.2.2.2.2.2.2.2.1.1]; omega) s2.2.2.1 ?_
    intro h3 W3
    rw [d64.2] at W3
    have S3 := S2.word (by omega) W3
    refine Go.aloadN d3_97 (q := 98) rfl rfl rfl ?_
    refine Go.dup d3_98 (q := 99) rfl rfl ?_
    refine Go.getF d3_99 (q := 102) rfl (host := "") (Or.inl (w25 hw)) Via.refl S3.2.2.2.2.2.1 ?_
    refine Go.iconst d3_102 (q := 103) rfl (x := (1 : Int32)) (by decide) ?_
    refine Go.iadd d3_103 (q := 104) rfl ?_
    refine Go.putF d3_104 (q := 107) rfl (host := "") (Or.inl (w25 hw)) Via.refl S3.2.2.2.2.2.1 S3.1 (Or.inl (w26 hw)) (w2 hw) pT4 rfl rfl s2.1 ?_
    intro h4 W4
    have S4 := S3.chs hw W4
    refine Go.vreturn d3_107 (by decide) (by decide) ?_
    unfold chgN chsN bitOf at hQ
    rw [if_pos c3, if_pos c3] at hQ
    exact hQ _ (((IK.wrA q2 (by decide) W1).trans (IK.wrO W2)).trans ((IK.wrA S2.2.2.2.2.2.2.2.2.1 (by decide) W3).trans (IK.wrO W4))) ⟨_, _, _, _, _, _, S4⟩
set_option maxRecDepth 65536 in
set_option maxHeartbeats 40000000 in
theorem sk_add (l : Launch) (Z : State) (a0 : Array Value) (hw : Hw a0 Z) (n0 : Nat) (h : Heap) (o : Addr) (sl : Int32) (hs : ¬ sl < 0 ∧ sl.toNatClampNeg < 16384) (g : Int64) {cnt chg : Nat → Int64} {tot : Int64} {chs : Int32} (S : SK Z h n0 o cnt chg tot chs) {Q : Option Value → Heap → Prop} (hQ : ∀ h', IK Z o h h' → SK Z h' n0 o (upd cnt sl.toNatClampNeg (cnt sl.toNatClampNeg + g)) (chgN chg sl) (tot + g) (chsN chg sl chs) → Q none h') :
    Go l Z (⟨"slotwise/storage/SlotKeyCounts", "add", "(IJ)V"⟩ : MethodName) prog_30_method_4_code 7 none ({ frames := 0, cells := 1, slots := 256, locals := 0 } : Room) n0 Q h 0 0 0 #[.val (.ref o), .val (.int sl), .val (.long g), .second, .unset, .unset, .unset] [] := by
  obtain ⟨pa, ca, kP, kC, ps, cs, S⟩ := S
  have hS := S
  obtain ⟨s1, s2, s3, s4, s5, s6, s7, s8, s9, s10, s11⟩ := hS
  have d := idiv_nat (y := 256) (d := 256) hs.1 rfl (by decide)
  have r := irem_nat (y := 256) (d := 256) hs.1 rfl (by decide)
  have hi : sl.toNatClampNeg / 256 < 64 := by omega
  have e256 : 256 * (sl.toNatClampNeg / 256) + sl.toNatClampNeg % 256 = sl.toNatClampNeg := by omega
  rcases s11.2.1 _ hi with ⟨q1, q2⟩ | ⟨b, kb, vs, q1, q2, q3, q4, q5⟩
  · skip
    refine Go.aloadN d3_0 (q := 1) rfl rfl rfl ?_
    refine Go.getF d3_1 (q := 4) rfl (host := "") (Or.inl (w12 hw)) Via.refl s3 ?_
    refine Go.iloadN d3_4 (q := 5) rfl rfl ?_
    refine Go.sipush d3_5 (q := 8) rfl (x := (256 : Int32)) (by decide) ?_
    refine Go.idiv d3_8 (q := 9) rfl (by decide) ?_
    refine Go.aaload d3_9 (q := 10) rfl s7 rfl d.1 (by rw [d.2]; exact q1) ?_
    refine Go.astore d3_10 (q := 12) rfl rfl (Ls' := #[.val (.ref o), .val (.int sl), .val (.long g), .second, .val .null, .unset, .unset]) rfl ?_
    refine Go.aload d3_12 (q := 14) rfl rfl rfl ?_
    refine Go.ifnonnull d3_14 (q := 36) (q' := 17) (by decide) rfl rfl rfl (fun _ e => by cases e) (fun _ => ?_)
    refine Go.sipush d3_17 (q := 20) rfl (x := (256 : Int32)) (by decide) ?_
    refine Go.newarrayE (cap := 256) d3_20 (q := 22) rfl (ad := "[J") rfl (w14 hw) (by decide) (by decide) (by decide) (by decide) (by decide) ?_
    intro h1 b kb e1 X1 A1 E1
    have nb : n0 ≤ b := new_le (le_size s1.lt s2.1) e1
    have S1 := S.ext X1
    refine Go.astore d3_22 (q := 24) rfl rfl (Ls' := #[.val (.ref o), .val (.int sl), .val (.long g), .second, .val (.ref b), .unset, .unset]) rfl ?_
    refine Go.aloadN d3_24 (q := 25) rfl rfl rfl ?_
    refine Go.getF d3_25 (q := 28) rfl (host := "") (Or.inl (w12 hw)) Via.refl (s3.ext X1) ?_
    refine Go.iloadN d3_28 (q := 29) rfl rfl ?_
    refine Go.sipush d3_29 (q := 32) rfl (x := (256 : Int32)) (by decide) ?_
    refine Go.idiv d3_32 (q := 33) rfl (by decide) ?_
    refine Go.aload d3_33 (q := 35) rfl rfl rfl ?_
    refine Go.aastore d3_35 (q := 36) rfl (s7.ext X1) rfl d.1 (by rw [d.2, s11.1]; exact hi) (sto_ofA (s7.ext X1) s8 (Ins.self E1)) s2.2.1 ?_
    intro h2 W2
    rw [d.2] at W2
    have lo := s1.lt
    have lp := s7.lt
    have lc := s9.lt
    have S2 := S1.page hi ⟨q1, q2⟩ A1 ⟨nb, (new_ne s1.lt e1).symm, (new_ne s7.lt e1).symm, (new_ne s9.lt e1).symm⟩ (fun j c hj => by
      have hj64 : j < 64 := by have := (List.getElem?_eq_some_iff.mp hj).1; have := s11.1; omega
      rcases s11.2.1 j hj64 with ⟨t1, -⟩ | ⟨b', kb', vs', t1, t2, -⟩
      · rw [hj] at t1; simp at t1
      · rw [hj] at t1; obtain rfl : c = b' := by simpa using t1
        exact new_ne t2.lt e1) W2
    exact sk_add36 l Z a0 hw n0 h2 o b sl hs g S2 (by rw [List.getElem?_set_self (by have := s11.1; omega)]) (fun h3 i3 q3 => hQ h3 (((IK.ext X1).trans (IK.wrA (s7.ext X1) (by decide) W2)).trans i3) q3)
  · skip
    refine Go.aloadN d3_0 (q := 1) rfl rfl rfl ?_
    refine Go.getF d3_1 (q := 4) rfl (host := "") (Or.inl (w12 hw)) Via.refl s3 ?_
    refine Go.iloadN d3_4 (q := 5) rfl rfl ?_
    refine Go.sipush d3_5 (q := 8) rfl (x := (256 : Int32)) (by decide) ?_
    refine Go.idiv d3_8 (q := 9) rfl (by decide) ?_
    refine Go.aaload d3_9 (q := 10) rfl s7 rfl d.1 (by rw [d.2]; exact q1) ?_
    refine Go.astore d3_10 (q := 12) rfl rfl (Ls' := #[.val (.ref o), .val (.int sl), .val (.long g), .second, .val (.ref b), .unset, .unset]) rfl ?_
    refine Go.aload d3_12 (q := 14) rfl rfl rfl ?_
    refine Go.ifnonnull d3_14 (q := 36) (q' := 17) (by decide) rfl rfl rfl (fun _ _ => ?_) (fun e => by cases e)
    exact (sk_add36 l Z a0 hw n0 h o b sl hs g S q1 hQ).mono (by decide) (by decide)
def minF (a : Int32) (b : Int32) : Int32 :=
  if b < a then b else
  a
set_option maxRecDepth 65536 in
set_option maxHeartbeats 40000000 in
theorem b12 (l : Launch) (Z : State) (a0 : Array Value) (hw : Hw a0 Z) (n0 : Nat) (h : Heap) (a : Int32) (b : Int32) {Q : Option Value → Heap → Prop} (hQ : Q (some (.int (minF a b))) h) :
    Go l Z (⟨"java/lang/Math", "min", "(II)I"⟩ : MethodName) jdk_29_method_69_code 2 (some .int) ({ frames := 0, cells := 0, slots := 0, locals := 0 } : Room) n0 Q h 0 0 0 #[.val (.int a), .val (.int b)] [] := by
  refine Go.iloadN d12_0 (q := 1) rfl rfl ?_
  refine Go.iloadN d12_1 (q := 2) rfl rfl ?_
  refine Go.icmp_gt d12_2 (q := 9) (q' := 5) (by decide) rfl rfl (fun c6 => ?_) (fun c6 => ?_)
  · skip
    refine Go.iloadN d12_9 (q := 10) rfl rfl ?_
    refine Go.ireturn d12_10 (by decide) (by decide) ?_
    unfold minF at hQ
    rw [if_pos c6] at hQ
    exact hQ
  · skip
    refine Go.iloadN d12_5 (q := 6) rfl rfl ?_
    refine Go.goto d12_6 (q := 10) (by decide) rfl ?_
    refine Go.ireturn d12_10 (by decide) (by decide) ?_
    unfold minF at hQ
    rw [if_neg c6] at hQ
    exact hQ
def maxF (a : Int32) (b : Int32) : Int32 :=
  if a < b then b else
  a
set_option maxRecDepth 65536 in
set_option maxHeartbeats 40000000 in
theorem b13 (l : Launch) (Z : State) (a0 : Array Value) (hw : Hw a0 Z) (n0 : Nat) (h : Heap) (a : Int32) (b : Int32) {Q : Option Value → Heap → Prop} (hQ : Q (some (.int (maxF a b))) h) :
    Go l Z (⟨"java/lang/Math", "max", "(II)I"⟩ : MethodName) jdk_29_method_65_code 2 (some .int) ({ frames := 0, cells := 0, slots := 0, locals := 0 } : Room) n0 Q h 0 0 0 #[.val (.int a), .val (.int b)] [] := by
  refine Go.iloadN d13_0 (q := 1) rfl rfl ?_
  refine Go.iloadN d13_1 (q := 2) rfl rfl ?_
  refine Go.icmp_lt d13_2 (q := 9) (q' := 5) (by decide) rfl rfl (fun c7 => ?_) (fun c7 => ?_)
  · skip
    refine Go.iloadN d13_9 (q := 10) rfl rfl ?_
    refine Go.ireturn d13_10 (by decide) (by decide) ?_
    unfold maxF at hQ
    rw [if_pos c7] at hQ
    exact hQ
  · skip
    refine Go.iloadN d13_5 (q := 6) rfl rfl ?_
    refine Go.goto d13_6 (q := 10) (by decide) rfl ?_
    refine Go.ireturn d13_10 (by decide) (by decide) ?_
    unfold maxF at hQ
    rw [if_neg c7] at hQ
    exact hQ
def izF_74 (i : Int32) (n : Int32) : Int32 :=
  (n + (XT.ushr i (1 : Int32)))
set_option maxRecDepth 65536 in
set_option maxHeartbeats 40000000 in
theorem b11_74 (l : Launch) (Z : State) (a0 : Array Value) (hw : Hw a0 Z) (n0 : Nat) (h : Heap) (i : Int32) (n : Int32) {Q : Option Value → Heap → Prop} (hQ : Q (some (.int (izF_74 i n))) h) :
    Go l Z (⟨"java/lang/Integer", "numberOfTrailingZeros", "(I)I"⟩ : MethodName) jdk_33_method_48_code 2 (some .int) ({ frames := 0, cells := 0, slots := 0, locals := 0 } : Room) n0 Q h 0 0 74 #[.val (.int i), .val (.int n)] [] := by
  refine Go.iloadN d11_74 (q := 75) rfl rfl ?_
  refine Go.iloadN d11_75 (q := 76) rfl rfl ?_
  refine Go.iconst d11_76 (q := 77) rfl (x := (1 : Int32)) (by decide) ?_
  refine Go.iushr d11_77 (q := 78) rfl ?_
  refine Go.iadd d11_78 (q := 79) rfl ?_
  refine Go.ireturn d11_79 (by decide) (by decide) ?_
  unfold izF_74 at hQ
  exact hQ
def izF_62 (i : Int32) (n : Int32) : Int32 :=
  if (4 : Int32) < i then (izF_74 (XT.ushr i (2 : Int32)) (n + (2 : Int32))) else
  (izF_74 i n)
set_option maxRecDepth 65536 in
set_option maxHeartbeats 40000000 in
theorem b11_62 (l : Launch) (Z : State) (a0 : Array Value) (hw : Hw a0 Z) (n0 : Nat) (h : Heap) (i : Int32) (n : Int32) {Q : Option Value → Heap → Prop} (hQ : Q (some (.int (izF_62 i n))) h) :
    Go l Z (⟨"java/lang/Integer", "numberOfTrailingZeros", "(I)I"⟩ : MethodName) jdk_33_method_48_code 2 (some .int) ({ frames := 0, cells := 0, slots := 0, locals := 0 } : Room) n0 Q h 0 0 62 #[.val (.int i), .val (.int n)] [] := by
  refine Go.iloadN d11_62 (q := 63) rfl rfl ?_
  refine Go.iconst d11_63 (q := 64) rfl (x := (4 : Int32)) (by decide) ?_
  refine Go.icmp_le d11_64 (q := 74) (q' := 67) (by decide) rfl rfl (fun c8 => ?_) (fun c8 => ?_)
  · skip
    unfold izF_62 at hQ
    rw [if_neg c8] at hQ
    exact b11_74 l Z a0 hw n0 h i n  hQ
  · skip
    refine Go.iinc d11_67 (q := 70) rfl rfl (w := (n + (2 : Int32))) rfl (Ls' := #[.val (.int i), .val (.int (n + (2 : Int32)))]) rfl ?_
    refine Go.iloadN d11_70 (q := 71) rfl rfl ?_
    refine Go.iconst d11_71 (q := 72) rfl (x := (2 : Int32)) (by decide) ?_
    refine Go.iushr d11_72 (q := 73) rfl ?_
    refine Go.istoreN d11_73 (q := 74) rfl (Ls' := #[.val (.int (XT.ushr i (2 : Int32))), .val (.int (n + (2 : Int32)))]) rfl ?_
    unfold izF_62 at hQ
    rw [if_pos c8] at hQ
    exact b11_74 l Z a0 hw n0 h (XT.ushr i (2 : Int32)) (n + (2 : Int32))  hQ
def izF_49 (i : Int32) (n : Int32) : Int32 :=
  if (16 : Int32) < i then (izF_62 (XT.ushr i (4 : Int32)) (n + (4 : Int32))) else
  (izF_62 i n)
set_option maxRecDepth 65536 in
set_option maxHeartbeats 40000000 in
theorem b11_49 (l : Launch) (Z : State) (a0 : Array Value) (hw : Hw a0 Z) (n0 : Nat) (h : Heap) (i : Int32) (n : Int32) {Q : Option Value → Heap → Prop} (hQ : Q (some (.int (izF_49 i n))) h) :
    Go l Z (⟨"java/lang/Integer", "numberOfTrailingZeros", "(I)I"⟩ : MethodName) jdk_33_method_48_code 2 (some .int) ({ frames := 0, cells := 0, slots := 0, locals := 0 } : Room) n0 Q h 0 0 49 #[.val (.int i), .val (.int n)] [] := by
  refine Go.iloadN d11_49 (q := 50) rfl rfl ?_
  refine Go.bipush d11_50 (q := 52) rfl (x := (16 : Int32)) (by decide) ?_
  refine Go.icmp_le d11_52 (q := 62) (q' := 55) (by decide) rfl rfl (fun c9 => ?_) (fun c9 => ?_)
  · skip
    unfold izF_49 at hQ
    rw [if_neg c9] at hQ
    exact b11_62 l Z a0 hw n0 h i n  hQ
  · skip
    refine Go.iinc d11_55 (q := 58) rfl rfl (w := (n + (4 : Int32))) rfl (Ls' := #[.val (.int i), .val (.int (n + (4 : Int32)))]) rfl ?_
    refine Go.iloadN d11_58 (q := 59) rfl rfl ?_
    refine Go.iconst d11_59 (q := 60) rfl (x := (4 : Int32)) (by decide) ?_
    refine Go.iushr d11_60 (q := 61) rfl ?_
    refine Go.istoreN d11_61 (q := 62) rfl (Ls' := #[.val (.int (XT.ushr i (4 : Int32))), .val (.int (n + (4 : Int32)))]) rfl ?_
    unfold izF_49 at hQ
    rw [if_pos c9] at hQ
    exact b11_62 l Z a0 hw n0 h (XT.ushr i (4 : Int32)) (n + (4 : Int32))  hQ
def izF_34 (i : Int32) (n : Int32) : Int32 :=
  if (256 : Int32) < i then (izF_49 (XT.ushr i (8 : Int32)) (n + (8 : Int32))) else
  (izF_49 i n)
set_option maxRecDepth 65536 in
set_option maxHeartbeats 40000000 in
theorem b11_34 (l : Launch) (Z : State) (a0 : Array Value) (hw : Hw a0 Z) (n0 : Nat) (h : Heap) (i : Int32) (n : Int32) {Q : Option Value → Heap → Prop} (hQ : Q (some (.int (izF_34 i n))) h) :
    Go l Z (⟨"java/lang/Integer", "numberOfTrailingZeros", "(I)I"⟩ : MethodName) jdk_33_method_48_code 2 (some .int) ({ frames := 0, cells := 0, slots := 0, locals := 0 } : Room) n0 Q h 0 0 34 #[.val (.int i), .val (.int n)] [] := by
  refine Go.iloadN d11_34 (q := 35) rfl rfl ?_
  refine Go.sipush d11_35 (q := 38) rfl (x := (256 : Int32)) (by decide) ?_
  refine Go.icmp_le d11_38 (q := 49) (q' := 41) (by decide) rfl rfl (fun c10 => ?_) (fun c10 => ?_)
  · skip
    unfold izF_34 at hQ
    rw [if_neg c10] at hQ
    exact b11_49 l Z a0 hw n0 h i n  hQ
  · skip
    refine Go.iinc d11_41 (q := 44) rfl rfl (w := (n + (8 : Int32))) rfl (Ls' := #[.val (.int i), .val (.int (n + (8 : Int32)))]) rfl ?_
    refine Go.iloadN d11_44 (q := 45) rfl rfl ?_
    refine Go.bipush d11_45 (q := 47) rfl (x := (8 : Int32)) (by decide) ?_
    refine Go.iushr d11_47 (q := 48) rfl ?_
    refine Go.istoreN d11_48 (q := 49) rfl (Ls' := #[.val (.int (XT.ushr i (8 : Int32))), .val (.int (n + (8 : Int32)))]) rfl ?_
    unfold izF_34 at hQ
    rw [if_pos c10] at hQ
    exact b11_49 l Z a0 hw n0 h (XT.ushr i (8 : Int32)) (n + (8 : Int32))  hQ
def izF (i : Int32) : Int32 :=
  if 0 < ((i ^^^ ((-1) : Int32)) &&& (i - (1 : Int32))) then if (65536 : Int32) < ((i ^^^ ((-1) : Int32)) &&& (i - (1 : Int32))) then (izF_34 (XT.ushr ((i ^^^ ((-1) : Int32)) &&& (i - (1 : Int32))) (16 : Int32)) ((1 : Int32) + (16 : Int32))) else
    (izF_34 ((i ^^^ ((-1) : Int32)) &&& (i - (1 : Int32))) (1 : Int32)) else
  (((i ^^^ ((-1) : Int32)) &&& (i - (1 : Int32))) &&& (32 : Int32))
set_option maxRecDepth 65536 in
set_option maxHeartbeats 40000000 in
theorem b11 (l : Launch) (Z : State) (a0 : Array Value) (hw : Hw a0 Z) (n0 : Nat) (h : Heap) (i : Int32) {Q : Option Value → Heap → Prop} (hQ : Q (some (.int (izF i))) h) :
    Go l Z (⟨"java/lang/Integer", "numberOfTrailingZeros", "(I)I"⟩ : MethodName) jdk_33_method_48_code 2 (some .int) ({ frames := 0, cells := 0, slots := 0, locals := 0 } : Room) n0 Q h 0 0 0 #[.val (.int i), .unset] [] := by
  refine Go.iloadN d11_0 (q := 1) rfl rfl ?_
  refine Go.iconst d11_1 (q := 2) rfl (x := ((-1) : Int32)) (by decide) ?_
  refine Go.ixor d11_2 (q := 3) rfl ?_
  refine Go.iloadN d11_3 (q := 4) rfl rfl ?_
  refine Go.iconst d11_4 (q := 5) rfl (x := (1 : Int32)) (by decide) ?_
  refine Go.isub d11_5 (q := 6) rfl ?_
  refine Go.iand d11_6 (q := 7) rfl ?_
  refine Go.istoreN d11_7 (q := 8) rfl (Ls' := #[.val (.int ((i ^^^ ((-1) : Int32)) &&& (i - (1 : Int32)))), .unset]) rfl ?_
  refine Go.iloadN d11_8 (q := 9) rfl rfl ?_
  refine Go.if_gt d11_9 (q := 17) (q' := 12) (by decide) rfl rfl (fun c11 => ?_) (fun c11 => ?_)
  · skip
    refine Go.iconst d11_17 (q := 18) rfl (x := (1 : Int32)) (by decide) ?_
    refine Go.istoreN d11_18 (q := 19) rfl (Ls' := #[.val (.int ((i ^^^ ((-1) : Int32)) &&& (i - (1 : Int32)))), .val (.int (1 : Int32))]) rfl ?_
    refine Go.iloadN d11_19 (q := 20) rfl rfl ?_
    refine Go.ldcW d11_20 (q := 23) rfl (v := (65536 : Int32)) (w62 hw) ?_
    refine Go.icmp_le d11_23 (q := 34) (q' := 26) (by decide) rfl rfl (fun c12 => ?_) (fun c12 => ?_)
    · skip
      unfold izF at hQ
      rw [if_pos c11, if_neg c12] at hQ
      exact b11_34 l Z a0 hw n0 h ((i ^^^ ((-1) : Int32)) &&& (i - (1 : Int32))) (1 : Int32)  hQ
    · skip
      refine Go.iinc d11_26 (q := 29) rfl rfl (w := ((1 : Int32) + (16 : Int32))) rfl (Ls' := #[.val (.int ((i ^^^ ((-1) : Int32)) &&& (i - (1 : Int32)))), .val (.int ((1 : Int32) + (16 : Int32)))]) rfl ?_
      refine Go.iloadN d11_29 (q := 30) rfl rfl ?_
      refine Go.bipush d11_30 (q := 32) rfl (x := (16 : Int32)) (by decide) ?_
      refine Go.iushr d11_32 (q := 33) rfl ?_
      refine Go.istoreN d11_33 (q := 34) rfl (Ls' := #[.val (.int (XT.ushr ((i ^^^ ((-1) : Int32)) &&& (i - (1 : Int32))) (16 : Int32))), .val (.int ((1 : Int32) + (16 : Int32)))]) rfl ?_
      unfold izF at hQ
      rw [if_pos c11, if_pos c12] at hQ
      exact b11_34 l Z a0 hw n0 h (XT.ushr ((i ^^^ ((-1) : Int32)) &&& (i - (1 : Int32))) (16 : Int32)) ((1 : Int32) + (16 : Int32))  hQ
  · skip
    refine Go.iloadN d11_12 (q := 13) rfl rfl ?_
    refine Go.bipush d11_13 (q := 15) rfl (x := (32 : Int32)) (by decide) ?_
    refine Go.iand d11_15 (q := 16) rfl ?_
    refine Go.ireturn d11_16 (by decide) (by decide) ?_
    unfold izF at hQ
    rw [if_neg c11] at hQ
    exact hQ
def lzF (v : Int64) : Int32 :=
  if v.toInt32 = 0 then ((32 : Int32) + (izF (XT.ushrL v (32 : Int32)).toInt32)) else
  (izF v.toInt32)
set_option maxRecDepth 65536 in
set_option maxHeartbeats 40000000 in
theorem b10 (l : Launch) (Z : State) (a0 : Array Value) (hw : Hw a0 Z) (n0 : Nat) (h : Heap) (v : Int64) {Q : Option Value → Heap → Prop} (hQ : Q (some (.int (lzF v))) h) :
    Go l Z (⟨"java/lang/Long", "numberOfTrailingZeros", "(J)I"⟩ : MethodName) jdk_35_method_49_code 3 (some .int) ({ frames := 1, cells := 0, slots := 0, locals := 14 } : Room) n0 Q h 0 0 0 #[.val (.long v), .second, .unset] [] := by
  refine Go.lloadN d10_0 (q := 1) rfl rfl ?_
  refine Go.l2i d10_1 (q := 2) rfl ?_
  refine Go.istoreN d10_2 (q := 3) rfl (Ls' := #[.val (.long v), .second, .val (.int v.toInt32)]) rfl ?_
  refine Go.iloadN d10_3 (q := 4) rfl rfl ?_
  refine Go.if_ne d10_4 (q := 21) (q' := 7) (by decide) rfl rfl (fun c13 => ?_) (fun c13 => ?_)
  · skip
    refine Go.iloadN d10_21 (q := 22) rfl rfl ?_
    refine Go.callSV (P := fun w h' => w = .int (izF v.toInt32) ∧ h = h') (argsL := [(.int v.toInt32)]) (rest := []) (wd := 0) (Ls1 := #[.val (.int v.toInt32), .unset]) d10_22 (q := 25) rfl (w58 hw) (w59 hw) (w60 hw) (w61 hw) (by decide) pn11 pd11 rfl rfl (fun m => by simp [entryFrame, mkF, argsToLocals, Value.category]) rfl (by decide) rfl (by decide) (by decide) (by decide) (b11 l Z a0 hw n0 h v.toInt32 (Q := RV (fun w h' => w = .int (izF v.toInt32) ∧ h = h')) ⟨_, rfl, rfl, rfl⟩) ?_
    rintro _ _ ⟨rfl, rfl⟩
    refine Go.ireturn d10_25 (by decide) (by decide) ?_
    unfold lzF at hQ
    rw [if_neg c13] at hQ
    exact hQ
  · skip
    refine Go.bipush d10_7 (q := 9) rfl (x := (32 : Int32)) (by decide) ?_
    refine Go.lloadN d10_9 (q := 10) rfl rfl ?_
    refine Go.bipush d10_10 (q := 12) rfl (x := (32 : Int32)) (by decide) ?_
    refine Go.lushr d10_12 (q := 13) rfl ?_
    refine Go.l2i d10_13 (q := 14) rfl ?_
    refine Go.callSV (P := fun w h' => w = .int (izF (XT.ushrL v (32 : Int32)).toInt32) ∧ h = h') (argsL := [(.int (XT.ushrL v (32 : Int32)).toInt32)]) (rest := [(.int (32 : Int32))]) (wd := 1) (Ls1 := #[.val (.int (XT.ushrL v (32 : Int32)).toInt32), .unset]) d10_14 (q := 17) rfl (w58 hw) (w59 hw) (w60 hw) (w61 hw) (by decide) pn11 pd11 rfl rfl (fun m => by simp [entryFrame, mkF, argsToLocals, Value.category]) rfl (by decide) rfl (by decide) (by decide) (by decide) (b11 l Z a0 hw n0 h (XT.ushrL v (32 : Int32)).toInt32 (Q := RV (fun w h' => w = .int (izF (XT.ushrL v (32 : Int32)).toInt32) ∧ h = h')) ⟨_, rfl, rfl, rfl⟩) ?_
    rintro _ _ ⟨rfl, rfl⟩
    refine Go.iadd d10_17 (q := 18) rfl ?_
    refine Go.goto d10_18 (q := 25) (by decide) rfl ?_
    refine Go.ireturn d10_25 (by decide) (by decide) ?_
    unfold lzF at hQ
    rw [if_pos c13] at hQ
    exact hQ
set_option maxRecDepth 65536 in
set_option maxHeartbeats 40000000 in
theorem sk_total (l : Launch) (Z : State) (a0 : Array Value) (hw : Hw a0 Z) (n0 : Nat) (h : Heap) (o : Addr) {cnt chg : Nat → Int64} {tot : Int64} {chs : Int32} (S : SK Z h n0 o cnt chg tot chs) {Q : Option Value → Heap → Prop} (hQ : Q (some (.long tot)) h) :
    Go l Z (⟨"slotwise/storage/SlotKeyCounts", "total", "()J"⟩ : MethodName) prog_30_method_3_code 1 (some .long) ({ frames := 0, cells := 0, slots := 0, locals := 0 } : Room) n0 Q h 0 0 0 #[.val (.ref o)] [] := by
  obtain ⟨pa, ca, kP, kC, ps, cs, S⟩ := S
  refine Go.aloadN d8_0 (q := 1) rfl rfl rfl ?_
  refine Go.getF d8_1 (q := 4) rfl (host := "") (Or.inl (w23 hw)) Via.refl S.2.2.2.2.1 ?_
  refine Go.lreturn d8_4 (by decide) (by decide) ?_
  exact hQ
theorem ar_ne {Z : State} {h : Heap} {a b : Addr} {t1 t2 : FieldType} {k1 k2 : ClassId} {v1 v2 : List Value} (A : Ar Z h a t1 k1 v1) (B : Ar Z h b t2 k2 v2) (ht : t1 ≠ t2) : a ≠ b := fun e => by
  subst e
  obtain ⟨c, A, -⟩ := A
  obtain ⟨c', B, -⟩ := B
  cases A.1.symm.trans B.1
  obtain ⟨-, k, h1, comp, h2⟩ := A.2.1
  obtain ⟨-, k', h1', comp', h2'⟩ := B.2.1
  cases h1.symm.trans h1'
  rw [h2] at h2'
  cases h2'
  exact ht rfl
/-- a write into an int[] -/
theorem SKx.wrI {Z : State} {h h' : Heap} {n0 : Nat} {o pa ca r : Addr} {kP kC kr : ClassId} {ps cs rs : List Value} {cnt chg : Nat → Int64} {tot : Int64} {chs : Int32} {i : Nat} {v : Value} (S : SKx Z h n0 o pa ca kP kC ps cs cnt chg tot chs) (A : Ar Z h r .int kr rs) (hr : o ≠ r) (W : Wr h h' r i v) : SKx Z h' n0 o pa ca kP kC ps cs cnt chg tot chs := by
  obtain ⟨s1, s2, s3, s4, s5, s6, s7, s8, s9, s10, p1, p2, p3⟩ := S
  refine ⟨s1.wr W, s2, s3.other W (Or.inl hr), s4.other W (Or.inl hr), s5.other W (Or.inl hr), s6.other W (Or.inl hr), s7.other W (ar_ne s7 A (by decide)), s8, s9.other W (ar_ne s9 A (by decide)), s10, p1, fun k hk => ?_, p3⟩
  rcases p2 k hk with q | ⟨b, kb, vs, q1, q2, q3, q4, q5⟩
  · exact Or.inl q
  · exact Or.inr ⟨b, kb, vs, q1, q2.other W (ar_ne q2 A (by decide)), q3, q4, q5⟩
theorem ofNat_succ (w : Nat) : Int32.ofNat w + (1 : Int32) = Int32.ofNat (w + 1) := (Int32.ofNat_add w 1).symm
theorem ofNat_nat {w : Nat} (h : w < 2 ^ 31) : ¬ Int32.ofNat w < 0 ∧ (Int32.ofNat w).toNatClampNeg = w := by
  have e : (Int32.ofNat w).toInt = w := Int32.toInt_ofNat_of_lt h
  refine ⟨nonneg_iff.mpr (by omega), ?_⟩
  show (Int32.ofNat w).toInt.toNat = w
  omega
set_option maxRecDepth 65536 in
set_option maxHeartbeats 40000000 in
theorem t25 (l : Launch) (Z : State) (a0 : Array Value) (hw : Hw a0 Z) (n0 : Nat) (h : Heap) {o pa ca r : Addr} {kP kC kr : ClassId} {ps cs rs : List Value} {cnt chg : Nat → Int64} {tot : Int64} {chs : Int32} (S : SKx Z h n0 o pa ca kP kC ps cs cnt chg tot chs) (A : Ar Z h r .int kr rs) (nr : n0 ≤ r) (ne : o ≠ r) (t w : Nat) (left : Int64) (ht : t < rs.length) (ht2 : t < 2 ^ 31) (hl : ¬ left = 0) {Q : Option Value → Heap → Prop}
    (K : ∀ h', SKx Z h' n0 o pa ca kP kC ps cs cnt chg tot chs → Ar Z h' r .int kr (rs.set t (.int (Int32.ofNat w * 64 + lzF left))) → Go l Z (⟨"slotwise/storage/SlotKeyCounts", "takeChanged", "()[I"⟩ : MethodName) prog_30_method_5_code 6 (some (.array .int)) ({ frames := 2, cells := 1, slots := 2, locals := 32 } : Room) n0 Q h' 1 2 25 #[.val (.ref o), .val (.ref r), .val (.int (Int32.ofNat (t + 1))), .val (.int (Int32.ofNat w)), .val (.long (left &&& (left - (1 : Int64)))), .second] []) :
    Go l Z (⟨"slotwise/storage/SlotKeyCounts", "takeChanged", "()[I"⟩ : MethodName) prog_30_method_5_code 6 (some (.array .int)) ({ frames := 2, cells := 1, slots := 2, locals := 32 } : Room) n0 Q h 1 2 25 #[.val (.ref o), .val (.ref r), .val (.int (Int32.ofNat t)), .val (.int (Int32.ofNat w)), .val (.long left), .second] [] := by
  refine Go.lload d9_25 (q := 27) rfl rfl ?_
  refine Go.lconst d9_27 (q := 28) rfl (x := (0 : Int64)) (by decide) ?_
  refine Go.lcmp d9_28 (q := 29) rfl ?_
  refine Go.lif_eq d9_29 (q := 60) (q' := 32) (by decide) rfl rfl (fun c_ => absurd c_ hl) (fun _ => ?_)
  refine Go.aloadN d9_32 (q := 33) rfl rfl rfl ?_
  refine Go.iloadN d9_33 (q := 34) rfl rfl ?_
  refine Go.iinc d9_34 (q := 37) rfl rfl (w := Int32.ofNat (t + 1)) (ofNat_succ t) (Ls' := #[.val (.ref o), .val (.ref r), .val (.int (Int32.ofNat (t + 1))), .val (.int (Int32.ofNat w)), .val (.long left), .second]) rfl ?_
  refine Go.iloadN d9_37 (q := 38) rfl rfl ?_
  refine Go.bipush d9_38 (q := 40) rfl (x := (64 : Int32)) (by decide) ?_
  refine Go.imul d9_40 (q := 41) rfl ?_
  refine Go.lload d9_41 (q := 43) rfl rfl ?_
  refine Go.callSV (P := fun w h' => w = .int (lzF left) ∧ h = h') (argsL := [(.long left)]) (rest := [(.int ((Int32.ofNat w) * (64 : Int32))), (.int (Int32.ofNat t)), (.ref r)]) (wd := 3) (Ls1 := #[.val (.long left), .second, .unset]) d9_43 (q := 46) rfl (w54 hw) (w55 hw) (w56 hw) (w57 hw) (by decide) pn10 pd10 rfl rfl (fun m => by simp [entryFrame, mkF, argsToLocals, Value.category]) rfl (by decide) rfl (by decide) (by decide) (by decide) (b10 l Z a0 hw n0 h left (Q := RV (fun w h' => w = .int (lzF left) ∧ h = h')) ⟨_, rfl, rfl, rfl⟩) ?_
  rintro _ _ ⟨rfl, rfl⟩
  refine Go.iadd d9_46 (q := 47) rfl ?_
  refine Go.iastore d9_47 (q := 48) rfl A (ofNat_nat ht2).1 (by rw [(ofNat_nat ht2).2]; exact ht) nr ?_
  intro h1 W1
  rw [(ofNat_nat ht2).2] at W1
  refine Go.lload d9_48 (q := 50) rfl rfl ?_
  refine Go.lload d9_50 (q := 52) rfl rfl ?_
  refine Go.lconst d9_52 (q := 53) rfl (x := (1 : Int64)) (by decide) ?_
  refine Go.lsub d9_53 (q := 54) rfl ?_
  refine Go.land d9_54 (q := 55) rfl ?_
  refine Go.lstore d9_55 (q := 57) rfl (Ls' := #[.val (.ref o), .val (.ref r), .val (.int (Int32.ofNat (t + 1))), .val (.int (Int32.ofNat w)), .val (.long (left &&& (left - (1 : Int64)))), .second]) rfl ?_
  refine Go.goto d9_57 (q := 25) (by decide) rfl ?_
  exact K h1 (S.wrI A ne W1) (A.set W1)
set_option maxRecDepth 65536 in
set_option maxHeartbeats 40000000 in
theorem t60 (l : Launch) (Z : State) (a0 : Array Value) (hw : Hw a0 Z) (n0 : Nat) (h : Heap) {o pa ca r : Addr} {kP kC kr : ClassId} {ps cs rs : List Value} {cnt chg : Nat → Int64} {tot : Int64} {chs : Int32} (S : SKx Z h n0 o pa ca kP kC ps cs cnt chg tot chs) (A : Ar Z h r .int kr rs) (nr : n0 ≤ r) (ne : o ≠ r) (t w : Nat) (left : Int64) (hw256 : w < 256) {Q : Option Value → Heap → Prop}
    (K : ∀ h' cs', SKx Z h' n0 o pa ca kP kC ps cs' cnt (upd chg w 0) tot chs → Ar Z h' r .int kr rs → Go l Z (⟨"slotwise/storage/SlotKeyCounts", "takeChanged", "()[I"⟩ : MethodName) prog_30_method_5_code 6 (some (.array .int)) ({ frames := 2, cells := 1, slots := 2, locals := 32 } : Room) n0 Q h' 1 2 11 #[.val (.ref o), .val (.ref r), .val (.int (Int32.ofNat t)), .val (.int (Int32.ofNat (w + 1))), .val (.long left), .second] []) :
    Go l Z (⟨"slotwise/storage/SlotKeyCounts", "takeChanged", "()[I"⟩ : MethodName) prog_30_method_5_code 6 (some (.array .int)) ({ frames := 2, cells := 1, slots := 2, locals := 32 } : Room) n0 Q h 1 2 60 #[.val (.ref o), .val (.ref r), .val (.int (Int32.ofNat t)), .val (.int (Int32.ofNat w)), .val (.long left), .second] [] := by
  refine Go.aloadN d9_60 (q := 61) rfl rfl rfl ?_
  refine Go.getF d9_61 (q := 64) rfl (host := "") (Or.inl (w15 hw)) Via.refl S.2.2.2.1 ?_
  refine Go.iloadN d9_64 (q := 65) rfl rfl ?_
  refine Go.lconst d9_65 (q := 66) rfl (x := (0 : Int64)) (by decide) ?_
  refine Go.lastore d9_66 (q := 67) rfl S.2.2.2.2.2.2.2.2.1 (ofNat_nat (show w < 2 ^ 31 by omega)).1 (by rw [(ofNat_nat (show w < 2 ^ 31 by omega)).2, S.2.2.2.2.2.2.2.2.2.1.1]; exact hw256) S.2.1.2.2.1 ?_
  intro h1 W1
  rw [(ofNat_nat (show w < 2 ^ 31 by omega)).2] at W1
  refine Go.iinc d9_67 (q := 70) rfl rfl (w := Int32.ofNat (w + 1)) (ofNat_succ w) (Ls' := #[.val (.ref o), .val (.ref r), .val (.int (Int32.ofNat t)), .val (.int (Int32.ofNat (w + 1))), .val (.long left), .second]) rfl ?_
  refine Go.goto d9_70 (q := 11) (by decide) rfl ?_
  exact K h1 _ (S.word hw256 W1) (A.other W1 (Ne.symm (ar_ne S.2.2.2.2.2.2.2.2.1 A (by decide))))
set_option maxRecDepth 65536 in
set_option maxHeartbeats 40000000 in
theorem t25z (l : Launch) (Z : State) (a0 : Array Value) (hw : Hw a0 Z) (n0 : Nat) (h : Heap) {o r : Addr} (t w : Nat) {Q : Option Value → Heap → Prop} (K : Go l Z (⟨"slotwise/storage/SlotKeyCounts", "takeChanged", "()[I"⟩ : MethodName) prog_30_method_5_code 6 (some (.array .int)) ({ frames := 2, cells := 1, slots := 2, locals := 32 } : Room) n0 Q h 1 2 60 #[.val (.ref o), .val (.ref r), .val (.int (Int32.ofNat t)), .val (.int (Int32.ofNat w)), .val (.long (0 : Int64)), .second] []) :
    Go l Z (⟨"slotwise/storage/SlotKeyCounts", "takeChanged", "()[I"⟩ : MethodName) prog_30_method_5_code 6 (some (.array .int)) ({ frames := 2, cells := 1, slots := 2, locals := 32 } : Room) n0 Q h 1 2 25 #[.val (.ref o), .val (.ref r), .val (.int (Int32.ofNat t)), .val (.int (Int32.ofNat w)), .val (.long (0 : Int64)), .second] [] := by
  refine Go.lload d9_25 (q := 27) rfl rfl ?_
  refine Go.lconst d9_27 (q := 28) rfl (x := (0 : Int64)) (by decide) ?_
  refine Go.lcmp d9_28 (q := 29) rfl ?_
  refine Go.lif_eq d9_29 (q := 60) (q' := 32) (by decide) rfl rfl (fun _ => ?_) (fun c_ => absurd rfl c_)
  exact K
theorem lt_of (t n : Nat) (h : t < n) (h2 : n < 2 ^ 31) : Int32.ofNat t < n.toInt32 := by
  rw [Int32.lt_iff_toInt_lt]
  have e1 : (Int32.ofNat t).toInt = t := Int32.toInt_ofNat_of_lt (by omega)
  have e2 : n.toInt32.toInt = n := len_toInt h2
  omega
theorem not_lt_of (n : Nat) : ¬ Int32.ofNat n < n.toInt32 := by
  rw [Int32.lt_iff_toInt_lt]
  show ¬ (Int32.ofNat n).toInt < (Int32.ofNat n).toInt
  omega
set_option maxRecDepth 65536 in
set_option maxHeartbeats 40000000 in
theorem t11 (l : Launch) (Z : State) (a0 : Array Value) (hw : Hw a0 Z) (n0 : Nat) (h : Heap) {o pa ca r : Addr} {kP kC kr : ClassId} {ps cs rs : List Value} {cnt chg : Nat → Int64} {tot : Int64} {chs : Int32} (S : SKx Z h n0 o pa ca kP kC ps cs cnt chg tot chs) (A : Ar Z h r .int kr rs) (nr : n0 ≤ r) (ne : o ≠ r) (t w : Nat) (left : Int64) (ht : t < rs.length) (ht2 : rs.length < 2 ^ 31) (hw256 : w < 256) {Q : Option Value → Heap → Prop}
    (K : Go l Z (⟨"slotwise/storage/SlotKeyCounts", "takeChanged", "()[I"⟩ : MethodName) prog_30_method_5_code 6 (some (.array .int)) ({ frames := 2, cells := 1, slots := 2, locals := 32 } : Room) n0 Q h 1 2 25 #[.val (.ref o), .val (.ref r), .val (.int (Int32.ofNat t)), .val (.int (Int32.ofNat w)), .val (.long (chg w)), .second] []) :
    Go l Z (⟨"slotwise/storage/SlotKeyCounts", "takeChanged", "()[I"⟩ : MethodName) prog_30_method_5_code 6 (some (.array .int)) ({ frames := 2, cells := 1, slots := 2, locals := 32 } : Room) n0 Q h 1 2 11 #[.val (.ref o), .val (.ref r), .val (.int (Int32.ofNat t)), .val (.int (Int32.ofNat w)), .val (.long left), .second] [] := by
  refine Go.iloadN d9_11 (q := 12) rfl rfl ?_
  refine Go.aloadN d9_12 (q := 13) rfl rfl rfl ?_
  refine Go.arraylength d9_13 (q := 14) rfl A rfl ?_
  refine Go.icmp_ge d9_14 (q := 73) (q' := 17) (by decide) rfl rfl (fun c_ => absurd (lt_of t rs.length ht ht2) c_) (fun _ => ?_)
  refine Go.aloadN d9_17 (q := 18) rfl rfl rfl ?_
  refine Go.getF d9_18 (q := 21) rfl (host := "") (Or.inl (w15 hw)) Via.refl S.2.2.2.1 ?_
  refine Go.iloadN d9_21 (q := 22) rfl rfl ?_
  refine Go.laload d9_22 (q := 23) rfl S.2.2.2.2.2.2.2.2.1 (ofNat_nat (show w < 2 ^ 31 by omega)).1 (by rw [(ofNat_nat (show w < 2 ^ 31 by omega)).2]; exact S.2.2.2.2.2.2.2.2.2.1.2 w hw256) ?_
  refine Go.lstore d9_23 (q := 25) rfl (Ls' := #[.val (.ref o), .val (.ref r), .val (.int (Int32.ofNat t)), .val (.int (Int32.ofNat w)), .val (.long (chg w)), .second]) rfl ?_
  exact K
set_option maxRecDepth 65536 in
set_option maxHeartbeats 40000000 in
theorem t11u (l : Launch) (Z : State) (a0 : Array Value) (hw : Hw a0 Z) (n0 : Nat) (h : Heap) {o pa ca r : Addr} {kP kC kr : ClassId} {ps cs rs : List Value} {cnt chg : Nat → Int64} {tot : Int64} {chs : Int32} (S : SKx Z h n0 o pa ca kP kC ps cs cnt chg tot chs) (A : Ar Z h r .int kr rs) (nr : n0 ≤ r) (ne : o ≠ r) (t w : Nat) (ht : t < rs.length) (ht2 : rs.length < 2 ^ 31) (hw256 : w < 256) {Q : Option Value → Heap → Prop}
    (K : Go l Z (⟨"slotwise/storage/SlotKeyCounts", "takeChanged", "()[I"⟩ : MethodName) prog_30_method_5_code 6 (some (.array .int)) ({ frames := 2, cells := 1, slots := 2, locals := 32 } : Room) n0 Q h 1 2 25 #[.val (.ref o), .val (.ref r), .val (.int (Int32.ofNat t)), .val (.int (Int32.ofNat w)), .val (.long (chg w)), .second] []) :
    Go l Z (⟨"slotwise/storage/SlotKeyCounts", "takeChanged", "()[I"⟩ : MethodName) prog_30_method_5_code 6 (some (.array .int)) ({ frames := 2, cells := 1, slots := 2, locals := 32 } : Room) n0 Q h 1 2 11 #[.val (.ref o), .val (.ref r), .val (.int (Int32.ofNat t)), .val (.int (Int32.ofNat w)), .unset, .unset] [] := by
  refine Go.iloadN d9_11 (q := 12) rfl rfl ?_
  refine Go.aloadN d9_12 (q := 13) rfl rfl rfl ?_
  refine Go.arraylength d9_13 (q := 14) rfl A rfl ?_
  refine Go.icmp_ge d9_14 (q := 73) (q' := 17) (by decide) rfl rfl (fun c_ => absurd (lt_of t rs.length ht ht2) c_) (fun _ => ?_)
  refine Go.aloadN d9_17 (q := 18) rfl rfl rfl ?_
  refine Go.getF d9_18 (q := 21) rfl (host := "") (Or.inl (w15 hw)) Via.refl S.2.2.2.1 ?_
  refine Go.iloadN d9_21 (q := 22) rfl rfl ?_
  refine Go.laload d9_22 (q := 23) rfl S.2.2.2.2.2.2.2.2.1 (ofNat_nat (show w < 2 ^ 31 by omega)).1 (by rw [(ofNat_nat (show w < 2 ^ 31 by omega)).2]; exact S.2.2.2.2.2.2.2.2.2.1.2 w hw256) ?_
  refine Go.lstore d9_23 (q := 25) rfl (Ls' := #[.val (.ref o), .val (.ref r), .val (.int (Int32.ofNat t)), .val (.int (Int32.ofNat w)), .val (.long (chg w)), .second]) rfl ?_
  exact K
set_option maxRecDepth 65536 in
set_option maxHeartbeats 40000000 in
theorem t73 (l : Launch) (Z : State) (a0 : Array Value) (hw : Hw a0 Z) (n0 : Nat) (h : Heap) {o pa ca r : Addr} {kP kC kr : ClassId} {ps cs rs : List Value} {cnt chg : Nat → Int64} {tot : Int64} {chs : Int32} (S : SKx Z h n0 o pa ca kP kC ps cs cnt chg tot chs) (A : Ar Z h r .int kr rs) (nr : n0 ≤ r) (ne : o ≠ r) (wd : Int32) (left : Int64) {Q : Option Value → Heap → Prop} (hQ : ∀ h' r', Ar Z h' r' .int kr rs → Q (some (.ref r')) h') :
    Go l Z (⟨"slotwise/storage/SlotKeyCounts", "takeChanged", "()[I"⟩ : MethodName) prog_30_method_5_code 6 (some (.array .int)) ({ frames := 2, cells := 1, slots := 2, locals := 32 } : Room) n0 Q h 1 2 11 #[.val (.ref o), .val (.ref r), .val (.int (Int32.ofNat rs.length)), .val (.int wd), .val (.long left), .second] [] := by
  refine Go.iloadN d9_11 (q := 12) rfl rfl ?_
  refine Go.aloadN d9_12 (q := 13) rfl rfl rfl ?_
  refine Go.arraylength d9_13 (q := 14) rfl A rfl ?_
  refine Go.icmp_ge d9_14 (q := 73) (q' := 17) (by decide) rfl rfl (fun _ => ?_) (fun c_ => absurd c_ (not_lt_of rs.length))
  refine Go.aloadN d9_73 (q := 74) rfl rfl rfl ?_
  refine Go.iconst d9_74 (q := 75) rfl (x := (0 : Int32)) (by decide) ?_
  refine Go.putF d9_75 (q := 78) rfl (host := "") (Or.inl (w25 hw)) Via.refl S.2.2.2.2.2.1 S.1 (Or.inl (w26 hw)) (w2 hw) pT4 rfl rfl S.2.1.1 ?_
  intro h1 W1
  refine Go.aloadN d9_78 (q := 79) rfl rfl rfl ?_
  refine Go.areturn d9_79 (by decide) (by decide) rfl rfl ?_
  exact hQ h1 _ (A.other W1 (Ne.symm ne))
def LS (s4 s5 : Slot) : Prop := (s4 = .unset ∧ s5 = .unset) ∨ ∃ q : Int64, s4 = .val (.long q) ∧ s5 = .second
theorem t11g (l : Launch) (Z : State) (a0 : Array Value) (hw : Hw a0 Z) (n0 : Nat) (h : Heap) {o pa ca r : Addr} {kP kC kr : ClassId} {ps cs rs : List Value} {cnt chg : Nat → Int64} {tot : Int64} {chs : Int32} (S : SKx Z h n0 o pa ca kP kC ps cs cnt chg tot chs) (A : Ar Z h r .int kr rs) (nr : n0 ≤ r) (ne : o ≠ r) (t w : Nat) {s4 s5 : Slot} (hs : LS s4 s5) (ht : t < rs.length) (ht2 : rs.length < 2 ^ 31) (hw256 : w < 256) {Q : Option Value → Heap → Prop}
    (K : Go l Z (⟨"slotwise/storage/SlotKeyCounts", "takeChanged", "()[I"⟩ : MethodName) prog_30_method_5_code 6 (some (.array .int)) ({ frames := 2, cells := 1, slots := 2, locals := 32 } : Room) n0 Q h 1 2 25 #[.val (.ref o), .val (.ref r), .val (.int (Int32.ofNat t)), .val (.int (Int32.ofNat w)), .val (.long (chg w)), .second] []) :
    Go l Z (⟨"slotwise/storage/SlotKeyCounts", "takeChanged", "()[I"⟩ : MethodName) prog_30_method_5_code 6 (some (.array .int)) ({ frames := 2, cells := 1, slots := 2, locals := 32 } : Room) n0 Q h 1 2 11 #[.val (.ref o), .val (.ref r), .val (.int (Int32.ofNat t)), .val (.int (Int32.ofNat w)), s4, s5] [] := by
  rcases hs with ⟨rfl, rfl⟩ | ⟨q, rfl, rfl⟩
  · exact t11u l Z a0 hw n0 h S A nr ne t w ht ht2 hw256 K
  · exact t11 l Z a0 hw n0 h S A nr ne t w q ht ht2 hw256 K
/-- the bit of a place in its word -/
def bitK (k : Nat) : Int64 := (1 : Int64) <<< ((Int32.ofNat k).toInt64 &&& 63)
theorem bit1 : ∀ k : Fin 64, (¬ bitK k.val = 0) ∧ (0 ||| bitK k.val) = bitK k.val ∧ (bitK k.val &&& (bitK k.val - 1)) = 0 ∧ lzF (bitK k.val) = Int32.ofNat k.val ∧ (¬ (bitK k.val &&& bitK k.val) = 0) ∧ (0 &&& bitK k.val) = 0 := by decide +kernel
theorem bit2 : ∀ j k : Fin 64, j.val < k.val → ((bitK j.val &&& bitK k.val) = 0 ∧ (bitK k.val &&& bitK j.val) = 0 ∧ (¬ (bitK j.val ||| bitK k.val) = 0) ∧ (bitK k.val ||| bitK j.val) = (bitK j.val ||| bitK k.val) ∧ lzF (bitK j.val ||| bitK k.val) = Int32.ofNat j.val ∧ ((bitK j.val ||| bitK k.val) &&& ((bitK j.val ||| bitK k.val) - 1)) = bitK k.val) := by decide +kernel
theorem wd0 (l : Launch) (Z : State) (a0 : Array Value) (hw : Hw a0 Z) (n0 : Nat) (h : Heap) {o pa ca r : Addr} {kP kC kr : ClassId} {ps cs rs : List Value} {cnt chg : Nat → Int64} {tot : Int64} {chs : Int32} (S : SKx Z h n0 o pa ca kP kC ps cs cnt chg tot chs) (A : Ar Z h r .int kr rs) (nr : n0 ≤ r) (ne : o ≠ r) (t w : Nat) {s4 s5 : Slot} (hs : LS s4 s5) (ht : t < rs.length) (ht2 : rs.length < 2 ^ 31) (hw256 : w < 256) (hz : chg w = 0) {Q : Option Value → Heap → Prop}
    (K : ∀ h' cs', SKx Z h' n0 o pa ca kP kC ps cs' cnt (upd chg w 0) tot chs → Ar Z h' r .int kr rs → Go l Z (⟨"slotwise/storage/SlotKeyCounts", "takeChanged", "()[I"⟩ : MethodName) prog_30_method_5_code 6 (some (.array .int)) ({ frames := 2, cells := 1, slots := 2, locals := 32 } : Room) n0 Q h' 1 2 11 #[.val (.ref o), .val (.ref r), .val (.int (Int32.ofNat t)), .val (.int (Int32.ofNat (w + 1))), .val (.long (0 : Int64)), .second] []) :
    Go l Z (⟨"slotwise/storage/SlotKeyCounts", "takeChanged", "()[I"⟩ : MethodName) prog_30_method_5_code 6 (some (.array .int)) ({ frames := 2, cells := 1, slots := 2, locals := 32 } : Room) n0 Q h 1 2 11 #[.val (.ref o), .val (.ref r), .val (.int (Int32.ofNat t)), .val (.int (Int32.ofNat w)), s4, s5] [] := by
  refine t11g l Z a0 hw n0 h S A nr ne t w hs ht ht2 hw256 ?_
  rw [hz]
  exact t25z l Z a0 hw n0 h t w (t60 l Z a0 hw n0 h S A nr ne t w 0 hw256 K)
theorem wd1 (l : Launch) (Z : State) (a0 : Array Value) (hw : Hw a0 Z) (n0 : Nat) (h : Heap) {o pa ca r : Addr} {kP kC kr : ClassId} {ps cs rs : List Value} {cnt chg : Nat → Int64} {tot : Int64} {chs : Int32} (S : SKx Z h n0 o pa ca kP kC ps cs cnt chg tot chs) (A : Ar Z h r .int kr rs) (nr : n0 ≤ r) (ne : o ≠ r) (t w k : Nat) {s4 s5 : Slot} (hs : LS s4 s5) (ht : t < rs.length) (ht2 : rs.length < 2 ^ 31) (hw256 : w < 256) (hk : k < 64) (hz : chg w = bitK k) {Q : Option Value → Heap → Prop}
    (K : ∀ h' cs', SKx Z h' n0 o pa ca kP kC ps cs' cnt (upd chg w 0) tot chs → Ar Z h' r .int kr (rs.set t (.int (Int32.ofNat w * 64 + Int32.ofNat k))) → Go l Z (⟨"slotwise/storage/SlotKeyCounts", "takeChanged", "()[I"⟩ : MethodName) prog_30_method_5_code 6 (some (.array .int)) ({ frames := 2, cells := 1, slots := 2, locals := 32 } : Room) n0 Q h' 1 2 11 #[.val (.ref o), .val (.ref r), .val (.int (Int32.ofNat (t + 1))), .val (.int (Int32.ofNat (w + 1))), .val (.long (0 : Int64)), .second] []) :
    Go l Z (⟨"slotwise/storage/SlotKeyCounts", "takeChanged", "()[I"⟩ : MethodName) prog_30_method_5_code 6 (some (.array .int)) ({ frames := 2, cells := 1, slots := 2, locals := 32 } : Room) n0 Q h 1 2 11 #[.val (.ref o), .val (.ref r), .val (.int (Int32.ofNat t)), .val (.int (Int32.ofNat w)), s4, s5] [] := by
  obtain ⟨b1, b2, b3, b4, -⟩ := bit1 ⟨k, hk⟩
  refine t11g l Z a0 hw n0 h S A nr ne t w hs ht ht2 hw256 ?_
  rw [hz]
  refine t25 l Z a0 hw n0 h S A nr ne t w (bitK k) ht (by omega) b1 fun h1 S1 A1 => ?_
  dsimp only at b3 b4
  rw [b3]; rw [b4] at A1
  exact t25z l Z a0 hw n0 h1 (t + 1) w (t60 l Z a0 hw n0 h1 S1 A1 nr ne (t + 1) w 0 hw256 K)
theorem wd2 (l : Launch) (Z : State) (a0 : Array Value) (hw : Hw a0 Z) (n0 : Nat) (h : Heap) {o pa ca r : Addr} {kP kC kr : ClassId} {ps cs rs : List Value} {cnt chg : Nat → Int64} {tot : Int64} {chs : Int32} (S : SKx Z h n0 o pa ca kP kC ps cs cnt chg tot chs) (A : Ar Z h r .int kr rs) (nr : n0 ≤ r) (ne : o ≠ r) (t w j k : Nat) {s4 s5 : Slot} (hs : LS s4 s5) (ht : t + 1 < rs.length) (ht2 : rs.length < 2 ^ 31) (hw256 : w < 256) (hj : j < k) (hk : k < 64) (hz : chg w = (bitK j ||| bitK k)) {Q : Option Value → Heap → Prop}
    (K : ∀ h' cs', SKx Z h' n0 o pa ca kP kC ps cs' cnt (upd chg w 0) tot chs → Ar Z h' r .int kr ((rs.set t (.int (Int32.ofNat w * 64 + Int32.ofNat j))).set (t + 1) (.int (Int32.ofNat w * 64 + Int32.ofNat k))) → Go l Z (⟨"slotwise/storage/SlotKeyCounts", "takeChanged", "()[I"⟩ : MethodName) prog_30_method_5_code 6 (some (.array .int)) ({ frames := 2, cells := 1, slots := 2, locals := 32 } : Room) n0 Q h' 1 2 11 #[.val (.ref o), .val (.ref r), .val (.int (Int32.ofNat (t + 1 + 1))), .val (.int (Int32.ofNat (w + 1))), .val (.long (0 : Int64)), .second] []) :
    Go l Z (⟨"slotwise/storage/SlotKeyCounts", "takeChanged", "()[I"⟩ : MethodName) prog_30_method_5_code 6 (some (.array .int)) ({ frames := 2, cells := 1, slots := 2, locals := 32 } : Room) n0 Q h 1 2 11 #[.val (.ref o), .val (.ref r), .val (.int (Int32.ofNat t)), .val (.int (Int32.ofNat w)), s4, s5] [] := by
  obtain ⟨-, -, b1, -, b4, b5⟩ := bit2 ⟨j, by omega⟩ ⟨k, hk⟩ hj
  obtain ⟨c1, -, c3, c4, -⟩ := bit1 ⟨k, hk⟩
  dsimp only at b4 b5 c3 c4
  refine t11g l Z a0 hw n0 h S A nr ne t w hs (by omega) ht2 hw256 ?_
  rw [hz]
  refine t25 l Z a0 hw n0 h S A nr ne t w _ (by omega) (by omega) b1 fun h1 S1 A1 => ?_
  rw [b5]; rw [b4] at A1
  refine t25 l Z a0 hw n0 h1 S1 A1 nr ne (t + 1) w (bitK k) (by rw [List.length_set]; exact ht) (by omega) c1 fun h2 S2 A2 => ?_
  rw [c3]; rw [c4] at A2
  exact t25z l Z a0 hw n0 h2 (t + 1 + 1) w (t60 l Z a0 hw n0 h2 S2 A2 nr ne (t + 1 + 1) w 0 hw256 K)
/-- words of no bit are passed by -/
theorem skip (l : Launch) (Z : State) (a0 : Array Value) (hw : Hw a0 Z) (n0 : Nat) {o pa ca r : Addr} {kP kC kr : ClassId} {ps rs : List Value} {cnt : Nat → Int64} {tot : Int64} {chs : Int32} (nr : n0 ≤ r) (ne : o ≠ r) (t : Nat) (ht : t < rs.length) (ht2 : rs.length < 2 ^ 31) {Q : Option Value → Heap → Prop} (d : Nat) :
    ∀ (w : Nat) (h : Heap) (chg : Nat → Int64) (cs : List Value) (s4 s5 : Slot) (hs : LS s4 s5) (S : SKx Z h n0 o pa ca kP kC ps cs cnt chg tot chs) (A : Ar Z h r .int kr rs) (hd : w + d ≤ 256) (hz : ∀ i, w ≤ i → i < w + d → chg i = 0)
      (K : ∀ h' chg' cs' s4 s5, LS s4 s5 → SKx Z h' n0 o pa ca kP kC ps cs' cnt chg' tot chs → Ar Z h' r .int kr rs → (∀ i, w + d ≤ i → chg' i = chg i) → Go l Z (⟨"slotwise/storage/SlotKeyCounts", "takeChanged", "()[I"⟩ : MethodName) prog_30_method_5_code 6 (some (.array .int)) ({ frames := 2, cells := 1, slots := 2, locals := 32 } : Room) n0 Q h' 1 2 11 #[.val (.ref o), .val (.ref r), .val (.int (Int32.ofNat t)), .val (.int (Int32.ofNat (w + d))), s4, s5] []),
      Go l Z (⟨"slotwise/storage/SlotKeyCounts", "takeChanged", "()[I"⟩ : MethodName) prog_30_method_5_code 6 (some (.array .int)) ({ frames := 2, cells := 1, slots := 2, locals := 32 } : Room) n0 Q h 1 2 11 #[.val (.ref o), .val (.ref r), .val (.int (Int32.ofNat t)), .val (.int (Int32.ofNat w)), s4, s5] [] := by
  induction d with
  | zero => intro w h chg cs s4 s5 hs S A hd hz K; exact K h chg cs s4 s5 hs S A (fun _ _ => rfl)
  | succ d ih =>
    intro w h chg cs s4 s5 hs S A hd hz K
    refine wd0 l Z a0 hw n0 h S A nr ne t w hs ht ht2 (by omega) (hz w (by omega) (by omega)) fun h1 cs1 S1 A1 => ?_
    refine ih (w + 1) h1 _ cs1 _ _ (Or.inr ⟨0, rfl, rfl⟩) S1 A1 (by omega) (fun i hi1 hi2 => by rw [upd_ne _ _ (by omega)]; exact hz i (by omega) (by omega)) fun h' chg' cs' s4' s5' hs' S' A' e' => ?_
    have q : w + 1 + d = w + (d + 1) := by omega
    rw [q]
    exact K h' chg' cs' s4' s5' hs' S' A' (fun i hi => by rw [e' i (by omega), upd_ne _ _ (by omega)])
set_option maxRecDepth 65536 in
set_option maxHeartbeats 40000000 in
theorem t0_1 (l : Launch) (Z : State) (a0 : Array Value) (hw : Hw a0 Z) (n0 : Nat) (h : Heap) {o pa ca : Addr} {kP kC : ClassId} {ps cs : List Value} {cnt chg : Nat → Int64} {tot : Int64} (S : SKx Z h n0 o pa ca kP kC ps cs cnt chg tot 1) {Q : Option Value → Heap → Prop}
    (K : ∀ h' r kr, SKx Z h' n0 o pa ca kP kC ps cs cnt chg tot 1 → Ar Z h' r .int kr (List.replicate 1 (.int 0)) → n0 ≤ r → o ≠ r → Go l Z (⟨"slotwise/storage/SlotKeyCounts", "takeChanged", "()[I"⟩ : MethodName) prog_30_method_5_code 6 (some (.array .int)) ({ frames := 2, cells := 1, slots := 2, locals := 32 } : Room) n0 Q h' 1 2 11 #[.val (.ref o), .val (.ref r), .val (.int (0 : Int32)), .val (.int (0 : Int32)), .unset, .unset] []) :
    Go l Z (⟨"slotwise/storage/SlotKeyCounts", "takeChanged", "()[I"⟩ : MethodName) prog_30_method_5_code 6 (some (.array .int)) ({ frames := 2, cells := 1, slots := 2, locals := 32 } : Room) n0 Q h 0 0 0 #[.val (.ref o), .unset, .unset, .unset, .unset, .unset] [] := by
  refine Go.aloadN d9_0 (q := 1) rfl rfl rfl ?_
  refine Go.getF d9_1 (q := 4) rfl (host := "") (Or.inl (w25 hw)) Via.refl S.2.2.2.2.2.1 ?_
  refine Go.newarray (cap := 2) d9_4 (q := 6) rfl (w0 hw) (by decide) (by decide) (by decide) (by decide) (by decide) ?_
  intro h1 r kr e1 X1 A1
  refine Go.astoreN d9_6 (q := 7) rfl rfl (Ls' := #[.val (.ref o), .val (.ref r), .unset, .unset, .unset, .unset]) rfl ?_
  refine Go.iconst d9_7 (q := 8) rfl (x := (0 : Int32)) (by decide) ?_
  refine Go.istoreN d9_8 (q := 9) rfl (Ls' := #[.val (.ref o), .val (.ref r), .val (.int (0 : Int32)), .unset, .unset, .unset]) rfl ?_
  refine Go.iconst d9_9 (q := 10) rfl (x := (0 : Int32)) (by decide) ?_
  refine Go.istoreN d9_10 (q := 11) rfl (Ls' := #[.val (.ref o), .val (.ref r), .val (.int (0 : Int32)), .val (.int (0 : Int32)), .unset, .unset]) rfl ?_
  exact K h1 r kr (S.ext X1) A1 (new_le (le_size S.1.lt S.2.1.1) e1) (new_ne S.1.lt e1)
set_option maxRecDepth 65536 in
set_option maxHeartbeats 40000000 in
theorem t0_2 (l : Launch) (Z : State) (a0 : Array Value) (hw : Hw a0 Z) (n0 : Nat) (h : Heap) {o pa ca : Addr} {kP kC : ClassId} {ps cs : List Value} {cnt chg : Nat → Int64} {tot : Int64} (S : SKx Z h n0 o pa ca kP kC ps cs cnt chg tot 2) {Q : Option Value → Heap → Prop}
    (K : ∀ h' r kr, SKx Z h' n0 o pa ca kP kC ps cs cnt chg tot 2 → Ar Z h' r .int kr (List.replicate 2 (.int 0)) → n0 ≤ r → o ≠ r → Go l Z (⟨"slotwise/storage/SlotKeyCounts", "takeChanged", "()[I"⟩ : MethodName) prog_30_method_5_code 6 (some (.array .int)) ({ frames := 2, cells := 1, slots := 2, locals := 32 } : Room) n0 Q h' 1 2 11 #[.val (.ref o), .val (.ref r), .val (.int (0 : Int32)), .val (.int (0 : Int32)), .unset, .unset] []) :
    Go l Z (⟨"slotwise/storage/SlotKeyCounts", "takeChanged", "()[I"⟩ : MethodName) prog_30_method_5_code 6 (some (.array .int)) ({ frames := 2, cells := 1, slots := 2, locals := 32 } : Room) n0 Q h 0 0 0 #[.val (.ref o), .unset, .unset, .unset, .unset, .unset] [] := by
  refine Go.aloadN d9_0 (q := 1) rfl rfl rfl ?_
  refine Go.getF d9_1 (q := 4) rfl (host := "") (Or.inl (w25 hw)) Via.refl S.2.2.2.2.2.1 ?_
  refine Go.newarray (cap := 2) d9_4 (q := 6) rfl (w0 hw) (by decide) (by decide) (by decide) (by decide) (by decide) ?_
  intro h1 r kr e1 X1 A1
  refine Go.astoreN d9_6 (q := 7) rfl rfl (Ls' := #[.val (.ref o), .val (.ref r), .unset, .unset, .unset, .unset]) rfl ?_
  refine Go.iconst d9_7 (q := 8) rfl (x := (0 : Int32)) (by decide) ?_
  refine Go.istoreN d9_8 (q := 9) rfl (Ls' := #[.val (.ref o), .val (.ref r), .val (.int (0 : Int32)), .unset, .unset, .unset]) rfl ?_
  refine Go.iconst d9_9 (q := 10) rfl (x := (0 : Int32)) (by decide) ?_
  refine Go.istoreN d9_10 (q := 11) rfl (Ls' := #[.val (.ref o), .val (.ref r), .val (.int (0 : Int32)), .val (.int (0 : Int32)), .unset, .unset]) rfl ?_
  exact K h1 r kr (S.ext X1) A1 (new_le (le_size S.1.lt S.2.1.1) e1) (new_ne S.1.lt e1)
theorem ls0 : LS .unset .unset := Or.inl ⟨rfl, rfl⟩
theorem take1 (l : Launch) (Z : State) (a0 : Array Value) (hw : Hw a0 Z) (n0 : Nat) (h : Heap) {o pa ca : Addr} {kP kC : ClassId} {ps cs : List Value} {cnt chg : Nat → Int64} {tot : Int64} (S : SKx Z h n0 o pa ca kP kC ps cs cnt chg tot 1) (w k : Nat) (hw256 : w < 256) (hk : k < 64) (h1 : chg w = bitK k) (hz : ∀ i, i < w → chg i = 0) {Q : Option Value → Heap → Prop} (hQ : ∀ h' r kr, Ar Z h' r .int kr [.int (Int32.ofNat w * 64 + Int32.ofNat k)] → Q (some (.ref r)) h') :
    Go l Z (⟨"slotwise/storage/SlotKeyCounts", "takeChanged", "()[I"⟩ : MethodName) prog_30_method_5_code 6 (some (.array .int)) ({ frames := 2, cells := 1, slots := 2, locals := 32 } : Room) n0 Q h 0 0 0 #[.val (.ref o), .unset, .unset, .unset, .unset, .unset] [] := by
  refine t0_1 l Z a0 hw n0 h S fun h1 r kr S1 A1 nr ne => ?_
  refine skip l Z a0 hw n0 nr ne 0 (by rw [List.length_replicate]; decide) (by rw [List.length_replicate]; decide) w 0 h1 chg cs _ _ ls0 S1 A1 (by omega) (fun i _ hi => hz i (by omega)) fun h2 chg2 cs2 s4 s5 hs S2 A2 e2 => ?_
  have q : 0 + w = w := by omega
  rw [q] at e2 ⊢
  refine wd1 l Z a0 hw n0 h2 S2 A2 nr ne 0 w k hs (by rw [List.length_replicate]; decide) (by rw [List.length_replicate]; decide) hw256 hk (by rw [e2 w (by omega)]; assumption) fun h3 cs3 S3 A3 => ?_
  exact t73 l Z a0 hw n0 h3 S3 A3 nr ne _ _ (fun h' r' A' => hQ h' r' kr A')
theorem take2 (l : Launch) (Z : State) (a0 : Array Value) (hw : Hw a0 Z) (n0 : Nat) (h : Heap) {o pa ca : Addr} {kP kC : ClassId} {ps cs : List Value} {cnt chg : Nat → Int64} {tot : Int64} (S : SKx Z h n0 o pa ca kP kC ps cs cnt chg tot 2) (w j k : Nat) (hw256 : w < 256) (hj : j < k) (hk : k < 64) (h1 : chg w = (bitK j ||| bitK k)) (hz : ∀ i, i < w → chg i = 0) {Q : Option Value → Heap → Prop} (hQ : ∀ h' r kr, Ar Z h' r .int kr [.int (Int32.ofNat w * 64 + Int32.ofNat j), .int (Int32.ofNat w * 64 + Int32.ofNat k)] → Q (some (.ref r)) h') :
    Go l Z (⟨"slotwise/storage/SlotKeyCounts", "takeChanged", "()[I"⟩ : MethodName) prog_30_method_5_code 6 (some (.array .int)) ({ frames := 2, cells := 1, slots := 2, locals := 32 } : Room) n0 Q h 0 0 0 #[.val (.ref o), .unset, .unset, .unset, .unset, .unset] [] := by
  refine t0_2 l Z a0 hw n0 h S fun h1 r kr S1 A1 nr ne => ?_
  refine skip l Z a0 hw n0 nr ne 0 (by rw [List.length_replicate]; decide) (by rw [List.length_replicate]; decide) w 0 h1 chg cs _ _ ls0 S1 A1 (by omega) (fun i _ hi => hz i (by omega)) fun h2 chg2 cs2 s4 s5 hs S2 A2 e2 => ?_
  have q : 0 + w = w := by omega
  rw [q] at e2 ⊢
  refine wd2 l Z a0 hw n0 h2 S2 A2 nr ne 0 w j k hs (by rw [List.length_replicate]; decide) (by rw [List.length_replicate]; decide) hw256 hj hk (by rw [e2 w (by omega)]; assumption) fun h3 cs3 S3 A3 => ?_
  exact t73 l Z a0 hw n0 h3 S3 A3 nr ne _ _ (fun h' r' A' => hQ h' r' kr A')
theorem take3 (l : Launch) (Z : State) (a0 : Array Value) (HW : Hw a0 Z) (n0 : Nat) (h : Heap) {o pa ca : Addr} {kP kC : ClassId} {ps cs : List Value} {cnt chg : Nat → Int64} {tot : Int64} (S : SKx Z h n0 o pa ca kP kC ps cs cnt chg tot 2) (w w' j k : Nat) (hw : w < w') (hw256 : w' < 256) (hj : j < 64) (hk : k < 64) (h1 : chg w = bitK j) (h2 : chg w' = bitK k) (hz : ∀ i, i < w' → i ≠ w → chg i = 0) {Q : Option Value → Heap → Prop} (hQ : ∀ h' r kr, Ar Z h' r .int kr [.int (Int32.ofNat w * 64 + Int32.ofNat j), .int (Int32.ofNat w' * 64 + Int32.ofNat k)] → Q (some (.ref r)) h') :
    Go l Z (⟨"slotwise/storage/SlotKeyCounts", "takeChanged", "()[I"⟩ : MethodName) prog_30_method_5_code 6 (some (.array .int)) ({ frames := 2, cells := 1, slots := 2, locals := 32 } : Room) n0 Q h 0 0 0 #[.val (.ref o), .unset, .unset, .unset, .unset, .unset] [] := by
  refine t0_2 l Z a0 HW n0 h S fun g1 r kr S1 A1 nr ne => ?_
  refine skip l Z a0 HW n0 nr ne 0 (by rw [List.length_replicate]; decide) (by rw [List.length_replicate]; decide) w 0 g1 chg cs _ _ ls0 S1 A1 (by omega) (fun i _ hi => hz i (by omega) (by omega)) fun g2 chg2 cs2 s4 s5 hs S2 A2 e2 => ?_
  have q : 0 + w = w := by omega
  rw [q] at e2 ⊢
  refine wd1 l Z a0 HW n0 g2 S2 A2 nr ne 0 w j hs (by rw [List.length_replicate]; decide) (by rw [List.length_replicate]; decide) (by omega) hj (by rw [e2 w (by omega)]; exact h1) fun g3 cs3 S3 A3 => ?_
  refine skip l Z a0 HW n0 nr ne 1 (by rw [List.length_set, List.length_replicate]; decide) (by rw [List.length_set, List.length_replicate]; decide) (w' - (w + 1)) (w + 1) g3 _ cs3 _ _ (Or.inr ⟨0, rfl, rfl⟩) S3 A3 (by omega) (fun i hi hi2 => by rw [upd_ne _ _ (by omega), e2 i (by omega)]; exact hz i (by omega) (by omega)) fun g4 chg4 cs4 s4' s5' hs' S4 A4 e4 => ?_
  have q' : w + 1 + (w' - (w + 1)) = w' := by omega
  rw [q'] at e4 ⊢
  refine wd1 l Z a0 HW n0 g4 S4 A4 nr ne 1 w' k hs' (by rw [List.length_set, List.length_replicate]; decide) (by rw [List.length_set, List.length_replicate]; decide) hw256 hk (by rw [e4 w' (by omega), upd_ne _ _ (by omega), e2 w' (by omega)]; exact h2) fun g5 cs5 S5 A5 => ?_
  exact t73 l Z a0 HW n0 g5 S5 A5 nr ne _ _ (fun h' r' A' => hQ h' r' kr A')
def RG (s : Int32) : Prop := ¬ s < 0 ∧ s.toNatClampNeg < 16384
theorem rg_mask (a : Int32) : RG (a &&& 16383) := by
  have e := c_mask a 16383 14 (by decide) (by decide)
  refine ⟨nonneg_iff.mpr (by omega), ?_⟩
  show (a &&& 16383).toInt.toNat < 16384
  omega
theorem nat_inj {a b : Int32} (ha : ¬ a < 0) (hb : ¬ b < 0) (e : a.toNatClampNeg = b.toNatClampNeg) : a = b := by
  rw [← (back32 ha).1, ← (back32 hb).1, e]
theorem bitOf_eq {a : Int32} (ha : RG a) : bitOf a = bitK (a.toNatClampNeg % 64) := by
  have r := irem_nat (x := a) (y := 64) (d := 64) ha.1 rfl (by decide)
  have e : a % 64 = Int32.ofNat (a.toNatClampNeg % 64) := by rw [← r.2]; exact (back32 r.1).1.symm
  unfold bitOf bitK
  rw [e]
theorem slot_eq {a : Int32} (ha : RG a) : Int32.ofNat (a.toNatClampNeg / 64) * 64 + Int32.ofNat (a.toNatClampNeg % 64) = a := by
  have h0 := nonneg_iff.mp ha.1
  have h1 : a.toInt.toNat < 16384 := ha.2
  have e0 : a.toNatClampNeg = a.toInt.toNat := rfl
  have e1 : (Int32.ofNat (a.toNatClampNeg / 64)).toInt = ((a.toNatClampNeg / 64 : Nat) : Int) := Int32.toInt_ofNat_of_lt (by omega)
  have e2 : (Int32.ofNat (a.toNatClampNeg % 64)).toInt = ((a.toNatClampNeg % 64 : Nat) : Int) := Int32.toInt_ofNat_of_lt (by omega)
  have c1 := c_imul (Int32.ofNat (a.toNatClampNeg / 64)) 64
  have c2 := c_iadd (Int32.ofNat (a.toNatClampNeg / 64) * 64) (Int32.ofNat (a.toNatClampNeg % 64))
  have r1 := rng32 (Int32.ofNat (a.toNatClampNeg / 64) * 64)
  have r2 := rng32 (Int32.ofNat (a.toNatClampNeg / 64) * 64 + Int32.ofNat (a.toNatClampNeg % 64))
  have e3 : (64 : Int32).toInt = 64 := rfl
  rw [← Int32.toInt_inj]
  rw [e3] at c1
  omega
theorem chg1_eq {a : Int32} (ha : RG a) : chgN zeroC a = upd zeroC (a.toNatClampNeg / 64) (bitK (a.toNatClampNeg % 64)) ∧ chsN zeroC a 0 = 1 := by
  obtain ⟨-, b2, -, -, -, b6⟩ := bit1 ⟨a.toNatClampNeg % 64, by omega⟩
  have z : ∀ i, zeroC i = 0 := fun _ => rfl
  unfold chgN chsN
  rw [bitOf_eq ha, z]
  dsimp only at b2 b6
  rw [if_pos b6, if_pos b6, b2]
  exact ⟨rfl, rfl⟩
theorem lt_nat {a b : Int32} (ha : RG a) (hb : RG b) : a < b ↔ a.toNatClampNeg < b.toNatClampNeg := by
  have h0 := nonneg_iff.mp ha.1
  have h1 := nonneg_iff.mp hb.1
  rw [Int32.lt_iff_toInt_lt]
  show a.toInt < b.toInt ↔ a.toInt.toNat < b.toInt.toNat
  omega
def two (a b : Int32) : List Value := if a = b then [.int a] else if a < b then [.int a, .int b] else [.int b, .int a]
theorem sk_take (l : Launch) (Z : State) (a0 : Array Value) (hw : Hw a0 Z) (n0 : Nat) (h : Heap) (o : Addr) (a b : Int32) (ha : RG a) (hb : RG b) {cnt : Nat → Int64} {tot : Int64} (S : SK Z h n0 o cnt (chgN (chgN zeroC a) b) tot (chsN (chgN zeroC a) b (chsN zeroC a 0))) {Q : Option Value → Heap → Prop} (hQ : ∀ h' r kr, Ar Z h' r .int kr (two a b) → Q (some (.ref r)) h') :
    Go l Z (⟨"slotwise/storage/SlotKeyCounts", "takeChanged", "()[I"⟩ : MethodName) prog_30_method_5_code 6 (some (.array .int)) ({ frames := 2, cells := 1, slots := 2, locals := 32 } : Room) n0 Q h 0 0 0 #[.val (.ref o), .unset, .unset, .unset, .unset, .unset] [] := by
  obtain ⟨pa, ca, kP, kC, ps, cs, S⟩ := S
  rw [(chg1_eq ha).1, (chg1_eq ha).2] at S
  have z : ∀ i, zeroC i = 0 := fun _ => rfl
  have la := ha.2
  have lb := hb.2
  have ea := slot_eq ha
  have eb := slot_eq hb
  have ba := bit1 ⟨a.toNatClampNeg % 64, by omega⟩
  have bb := bit1 ⟨b.toNatClampNeg % 64, by omega⟩
  dsimp only at ba bb
  unfold two at hQ
  unfold chgN chsN at S
  rw [bitOf_eq hb] at S
  by_cases e : a = b
  · subst e
    rw [upd_same, if_neg ba.2.2.2.2.1, if_neg ba.2.2.2.2.1] at S
    rw [if_pos rfl] at hQ
    refine take1 l Z a0 hw n0 h S (a.toNatClampNeg / 64) (a.toNatClampNeg % 64) (by omega) (by omega) (upd_same _ _ _) (fun i hi => by rw [upd_ne _ _ (by omega)]; rfl) fun h' r kr A' => ?_
    rw [ea] at A'
    exact hQ h' r kr A'
  · rw [if_neg e] at hQ
    by_cases ew : b.toNatClampNeg / 64 = a.toNatClampNeg / 64
    · rw [ew, upd_same] at S
      rw [ew] at eb
      have ek : a.toNatClampNeg % 64 ≠ b.toNatClampNeg % 64 := fun q => e (nat_inj ha.1 hb.1 (by omega))
      rcases Nat.lt_or_gt_of_ne ek with q | q
      · have b2 := bit2 ⟨a.toNatClampNeg % 64, by omega⟩ ⟨b.toNatClampNeg % 64, by omega⟩ q
        dsimp only at b2
        rw [if_pos b2.1, if_pos b2.1] at S
        rw [if_pos ((lt_nat ha hb).mpr (by omega))] at hQ
        refine take2 l Z a0 hw n0 h S (a.toNatClampNeg / 64) (a.toNatClampNeg % 64) (b.toNatClampNeg % 64) (by omega) q (by omega) (upd_same _ _ _) (fun i hi => by rw [upd_ne _ _ (by omega), upd_ne _ _ (by omega)]; rfl) fun h' r kr A' => ?_
        rw [ea, eb] at A'
        exact hQ h' r kr A'
      · have b2 := bit2 ⟨b.toNatClampNeg % 64, by omega⟩ ⟨a.toNatClampNeg % 64, by omega⟩ q
        dsimp only at b2
        rw [if_pos b2.2.1, if_pos b2.2.1, b2.2.2.2.1] at S
        rw [if_neg (fun q' => by have := (lt_nat ha hb).mp q'; omega)] at hQ
        refine take2 l Z a0 hw n0 h S (a.toNatClampNeg / 64) (b.toNatClampNeg % 64) (a.toNatClampNeg % 64) (by omega) q (by omega) (upd_same _ _ _) (fun i hi => by rw [upd_ne _ _ (by omega), upd_ne _ _ (by omega)]; rfl) fun h' r kr A' => ?_
        rw [ea, eb] at A'
        exact hQ h' r kr A'
    · rw [upd_ne _ _ ew, z, if_pos bb.2.2.2.2.2, if_pos bb.2.2.2.2.2, bb.2.1] at S
      rcases Nat.lt_or_gt_of_ne ew with q | q
      · rw [if_neg (fun q' => by have := (lt_nat ha hb).mp q'; omega)] at hQ
        refine take3 l Z a0 hw n0 h S (b.toNatClampNeg / 64) (a.toNatClampNeg / 64) (b.toNatClampNeg % 64) (a.toNatClampNeg % 64) q (by omega) (by omega) (by omega) (upd_same _ _ _) (by rw [upd_ne _ _ (by omega), upd_same]) (fun i hi hi2 => by rw [upd_ne _ _ hi2, upd_ne _ _ (by omega)]; rfl) fun h' r kr A' => ?_
        rw [ea, eb] at A'
        exact hQ h' r kr A'
      · rw [if_pos ((lt_nat ha hb).mpr (by omega))] at hQ
        refine take3 l Z a0 hw n0 h S (a.toNatClampNeg / 64) (b.toNatClampNeg / 64) (a.toNatClampNeg % 64) (b.toNatClampNeg % 64) q (by omega) (by omega) (by omega) (by rw [upd_ne _ _ (by omega), upd_same]) (upd_same _ _ _) (fun i hi hi2 => by rw [upd_ne _ _ (by omega), upd_ne _ _ hi2]; rfl) fun h' r kr A' => ?_
        rw [ea, eb] at A'
        exact hQ h' r kr A'
theorem SK.exa {Z : State} {h : Heap} {n0 : Nat} {o : Addr} {cnt chg : Nat → Int64} {tot : Int64} {chs : Int32} (S : SK Z h n0 o cnt chg tot chs) : Exa Z h o SKC := by
  obtain ⟨_, _, _, _, _, _, S⟩ := S; exact S.1
def c1 (sa : Int32) (g1 : Int64) : Nat → Int64 := upd zeroC sa.toNatClampNeg (zeroC sa.toNatClampNeg + g1)
def c2 (sa sb : Int32) (g1 g2 : Int64) : Nat → Int64 := upd (c1 sa g1) sb.toNatClampNeg (c1 sa g1 sb.toNatClampNeg + g2)
theorem c1_eq (sa sc : Int32) (ha : RG sa) (hc : RG sc) (g1 : Int64) : c1 sa g1 sc.toNatClampNeg = if sc = sa then g1 else 0 := by
  unfold c1
  by_cases e : sc = sa
  · rw [if_pos e, e, upd_same]; exact Int64.zero_add _
  · rw [if_neg e, upd_ne _ _ (fun q => e (nat_inj hc.1 ha.1 q))]; rfl
theorem c2_eq (sa sb sc : Int32) (ha : RG sa) (hb : RG sb) (hc : RG sc) (g1 g2 : Int64) : c2 sa sb g1 g2 sc.toNatClampNeg = (if sc = sa then g1 else 0) + (if sc = sb then g2 else 0) := by
  unfold c2
  by_cases e : sc = sb
  · rw [if_pos e, e, upd_same, c1_eq sa sb ha hb]
  · rw [if_neg e, upd_ne _ _ (fun q => e (nat_inj hc.1 hb.1 q)), c1_eq sa sc ha hc, Int64.add_zero]
def LS2 (s5 s6 : Slot) : Prop := (s5 = .unset ∧ s6 = .unset) ∨ ∃ (q : Int32) (v : Value), s5 = .val (.int q) ∧ s6 = .val v ∧ v.isRef = true
set_option maxRecDepth 65536 in
set_option maxHeartbeats 40000000 in
theorem clr_step (l : Launch) (Z : State) (a0 : Array Value) (hw : Hw a0 Z) (n0 : Nat) (h : Heap) {o r : Addr} {kr : ClassId} {rs : List Value} {cnt chg : Nat → Int64} {tot : Int64} {chs : Int32} (S : SK Z h n0 o cnt chg tot chs) (Aa : Ar Z h r .int kr rs) (ne : o ≠ r) (nn : Int32) (i : Nat) (sl : Int32) (hs : RG sl) (hi : rs[i]? = some (.int sl)) (hi2 : i < 2 ^ 31) (hlt : Int32.ofNat i < nn) {s5 s6 : Slot} (h56 : LS2 s5 s6) {Q : Option Value → Heap → Prop}
    (K : ∀ h' s5 s6, LS2 s5 s6 → SK Z h' n0 o (upd cnt sl.toNatClampNeg 0) chg (tot - cnt sl.toNatClampNeg) chs → Ar Z h' r .int kr rs → Go l Z (⟨"slotwise/storage/SlotKeyCounts", "clear", "([I)V"⟩ : MethodName) prog_30_method_10_code 7 none ({ frames := 0, cells := 0, slots := 0, locals := 0 } : Room) n0 Q h' 0 0 8 #[.val (.ref o), .val (.ref r), .val (.ref r), .val (.int nn), .val (.int (Int32.ofNat (i + 1))), s5, s6] []) :
    Go l Z (⟨"slotwise/storage/SlotKeyCounts", "clear", "([I)V"⟩ : MethodName) prog_30_method_10_code 7 none ({ frames := 0, cells := 0, slots := 0, locals := 0 } : Room) n0 Q h 0 0 8 #[.val (.ref o), .val (.ref r), .val (.ref r), .val (.int nn), .val (.int (Int32.ofNat i)), s5, s6] [] := by
  obtain ⟨pa, ca, kP, kC, ps, cs, S⟩ := S
  have hS := S
  obtain ⟨s1, s2, s3, s4, t5, t6, s7, s8, s9, s10, s11⟩ := hS
  have d := idiv_nat (y := 256) (d := 256) hs.1 rfl (by decide)
  have r_ := irem_nat (y := 256) (d := 256) hs.1 rfl (by decide)
  have hb := hs.2
  have hip : sl.toNatClampNeg / 256 < 64 := by omega
  have e256 : 256 * (sl.toNatClampNeg / 256) + sl.toNatClampNeg % 256 = sl.toNatClampNeg := by omega
  have key : s11.2.1 _ hip = s11.2.1 _ hip := rfl
  rcases s11.2.1 _ hip with ⟨q1, q2⟩ | ⟨b, kb, vs, q1, q2, q3, q4, q5⟩
  · rcases h56 with ⟨rfl, rfl⟩ | ⟨q, v, rfl, rfl, hv⟩
    · skip
      refine Go.iload d4_8 (q := 10) rfl rfl ?_
      refine Go.iloadN d4_10 (q := 11) rfl rfl ?_
      refine Go.icmp_ge d4_11 (q := 72) (q' := 14) (by decide) rfl rfl (fun c_ => absurd hlt c_) (fun _ => ?_)
      refine Go.aloadN d4_14 (q := 15) rfl rfl rfl ?_
      refine Go.iload d4_15 (q := 17) rfl rfl ?_
      refine Go.iaload d4_17 (q := 18) rfl Aa (ofNat_nat hi2).1 (by rw [(ofNat_nat hi2).2]; exact hi) ?_
      refine Go.istore d4_18 (q := 20) rfl (Ls' := #[.val (.ref o), .val (.ref r), .val (.ref r), .val (.int nn), .val (.int (Int32.ofNat i)), .val (.int sl), .unset]) rfl ?_
      refine Go.aloadN d4_20 (q := 21) rfl rfl rfl ?_
      refine Go.getF d4_21 (q := 24) rfl (host := "") (Or.inl (w12 hw)) Via.refl s3 ?_
      refine Go.iload d4_24 (q := 26) rfl rfl ?_
      refine Go.sipush d4_26 (q := 29) rfl (x := (256 : Int32)) (by decide) ?_
      refine Go.idiv d4_29 (q := 30) rfl (by decide) ?_
      refine Go.aaload d4_30 (q := 31) rfl s7 rfl d.1 (by rw [d.2]; exact q1) ?_
      refine Go.astore d4_31 (q := 33) rfl rfl (Ls' := #[.val (.ref o), .val (.ref r), .val (.ref r), .val (.int nn), .val (.int (Int32.ofNat i)), .val (.int sl), .val .null]) rfl ?_
      refine Go.aload d4_33 (q := 35) rfl rfl rfl ?_
      refine Go.ifnull d4_35 (q := 66) (q' := 38) (by decide) rfl rfl rfl (fun _ => ?_) (fun _ e => by cases e)
      refine Go.iinc d4_66 (q := 69) rfl rfl (w := Int32.ofNat (i + 1)) (ofNat_succ i) (Ls' := #[.val (.ref o), .val (.ref r), .val (.ref r), .val (.int nn), .val (.int (Int32.ofNat (i + 1))), .val (.int sl), .val .null]) rfl ?_
      refine Go.goto d4_69 (q := 8) (by decide) rfl ?_
      have z : cnt sl.toNatClampNeg = 0 := by have q := q2 (sl.toNatClampNeg % 256) (Nat.mod_lt _ (by decide)); rw [e256] at q; exact q
      have f1 : upd cnt sl.toNatClampNeg 0 = cnt := by funext j; unfold upd; by_cases e : j = sl.toNatClampNeg; rw [if_pos e, e, z]; rw [if_neg e]
      exact K h _ _ (Or.inr ⟨sl, .null, rfl, rfl, rfl⟩) ⟨pa, ca, kP, kC, ps, cs, by rw [f1, z, Int64.sub_zero]; exact S⟩ Aa
    · rcases ref_cases hv with rfl | ⟨vb, rfl⟩
      · skip
        refine Go.iload d4_8 (q := 10) rfl rfl ?_
        refine Go.iloadN d4_10 (q := 11) rfl rfl ?_
        refine Go.icmp_ge d4_11 (q := 72) (q' := 14) (by decide) rfl rfl (fun c_ => absurd hlt c_) (fun _ => ?_)
        refine Go.aloadN d4_14 (q := 15) rfl rfl rfl ?_
        refine Go.iload d4_15 (q := 17) rfl rfl ?_
        refine Go.iaload d4_17 (q := 18) rfl Aa (ofNat_nat hi2).1 (by rw [(ofNat_nat hi2).2]; exact hi) ?_
        refine Go.istore d4_18 (q := 20) rfl (Ls' := #[.val (.ref o), .val (.ref r), .val (.ref r), .val (.int nn), .val (.int (Int32.ofNat i)), .val (.int sl), .val .null]) rfl ?_
        refine Go.aloadN d4_20 (q := 21) rfl rfl rfl ?_
        refine Go.getF d4_21 (q := 24) rfl (host := "") (Or.inl (w12 hw)) Via.refl s3 ?_
        refine Go.iload d4_24 (q := 26) rfl rfl ?_
        refine Go.sipush d4_26 (q := 29) rfl (x := (256 : Int32)) (by decide) ?_
        refine Go.idiv d4_29 (q := 30) rfl (by decide) ?_
        refine Go.aaload d4_30 (q := 31) rfl s7 rfl d.1 (by rw [d.2]; exact q1) ?_
        refine Go.astore d4_31 (q := 33) rfl rfl (Ls' := #[.val (.ref o), .val (.ref r), .val (.ref r), .val (.int nn), .val (.int (Int32.ofNat i)), .val (.int sl), .val .null]) rfl ?_
        refine Go.aload d4_33 (q := 35) rfl rfl rfl ?_
        refine Go.ifnull d4_35 (q := 66) (q' := 38) (by decide) rfl rfl rfl (fun _ => ?_) (fun _ e => by cases e)
        refine Go.iinc d4_66 (q := 69) rfl rfl (w := Int32.ofNat (i + 1)) (ofNat_succ i) (Ls' := #[.val (.ref o), .val (.ref r), .val (.ref r), .val (.int nn), .val (.int (Int32.ofNat (i + 1))), .val (.int sl), .val .null]) rfl ?_
        refine Go.goto d4_69 (q := 8) (by decide) rfl ?_
        have z : cnt sl.toNatClampNeg = 0 := by have q := q2 (sl.toNatClampNeg % 256) (Nat.mod_lt _ (by decide)); rw [e256] at q; exact q
        have f1 : upd cnt sl.toNatClampNeg 0 = cnt := by funext j; unfold upd; by_cases e : j = sl.toNatClampNeg; rw [if_pos e, e, z]; rw [if_neg e]
        exact K h _ _ (Or.inr ⟨sl, .null, rfl, rfl, rfl⟩) ⟨pa, ca, kP, kC, ps, cs, by rw [f1, z, Int64.sub_zero]; exact S⟩ Aa
      · skip
        refine Go.iload d4_8 (q := 10) rfl rfl ?_
        refine Go.iloadN d4_10 (q := 11) rfl rfl ?_
        refine Go.icmp_ge d4_11 (q := 72) (q' := 14) (by decide) rfl rfl (fun c_ => absurd hlt c_) (fun _ => ?_)
        refine Go.aloadN d4_14 (q := 15) rfl rfl rfl ?_
        refine Go.iload d4_15 (q := 17) rfl rfl ?_
        refine Go.iaload d4_17 (q := 18) rfl Aa (ofNat_nat hi2).1 (by rw [(ofNat_nat hi2).2]; exact hi) ?_
        refine Go.istore d4_18 (q := 20) rfl (Ls' := #[.val (.ref o), .val (.ref r), .val (.ref r), .val (.int nn), .val (.int (Int32.ofNat i)), .val (.int sl), .val (.ref vb)]) rfl ?_
        refine Go.aloadN d4_20 (q := 21) rfl rfl rfl ?_
        refine Go.getF d4_21 (q := 24) rfl (host := "") (Or.inl (w12 hw)) Via.refl s3 ?_
        refine Go.iload d4_24 (q := 26) rfl rfl ?_
        refine Go.sipush d4_26 (q := 29) rfl (x := (256 : Int32)) (by decide) ?_
        refine Go.idiv d4_29 (q := 30) rfl (by decide) ?_
        refine Go.aaload d4_30 (q := 31) rfl s7 rfl d.1 (by rw [d.2]; exact q1) ?_
        refine Go.astore d4_31 (q := 33) rfl rfl (Ls' := #[.val (.ref o), .val (.ref r), .val (.ref r), .val (.int nn), .val (.int (Int32.ofNat i)), .val (.int sl), .val .null]) rfl ?_
        refine Go.aload d4_33 (q := 35) rfl rfl rfl ?_
        refine Go.ifnull d4_35 (q := 66) (q' := 38) (by decide) rfl rfl rfl (fun _ => ?_) (fun _ e => by cases e)
        refine Go.iinc d4_66 (q := 69) rfl rfl (w := Int32.ofNat (i + 1)) (ofNat_succ i) (Ls' := #[.val (.ref o), .val (.ref r), .val (.ref r), .val (.int nn), .val (.int (Int32.ofNat (i + 1))), .val (.int sl), .val .null]) rfl ?_
        refine Go.goto d4_69 (q := 8) (by decide) rfl ?_
        have z : cnt sl.toNatClampNeg = 0 := by have q := q2 (sl.toNatClampNeg % 256) (Nat.mod_lt _ (by decide)); rw [e256] at q; exact q
        have f1 : upd cnt sl.toNatClampNeg 0 = cnt := by funext j; unfold upd; by_cases e : j = sl.toNatClampNeg; rw [if_pos e, e, z]; rw [if_neg e]
        exact K h _ _ (Or.inr ⟨sl, .null, rfl, rfl, rfl⟩) ⟨pa, ca, kP, kC, ps, cs, by rw [f1, z, Int64.sub_zero]; exact S⟩ Aa
  · rcases h56 with ⟨rfl, rfl⟩ | ⟨q, v, rfl, rfl, hv⟩
    · skip
      refine Go.iload d4_8 (q := 10) rfl rfl ?_
      refine Go.iloadN d4_10 (q := 11) rfl rfl ?_
      refine Go.icmp_ge d4_11 (q := 72) (q' := 14) (by decide) rfl rfl (fun c_ => absurd hlt c_) (fun _ => ?_)
      refine Go.aloadN d4_14 (q := 15) rfl rfl rfl ?_
      refine Go.iload d4_15 (q := 17) rfl rfl ?_
      refine Go.iaload d4_17 (q := 18) rfl Aa (ofNat_nat hi2).1 (by rw [(ofNat_nat hi2).2]; exact hi) ?_
      refine Go.istore d4_18 (q := 20) rfl (Ls' := #[.val (.ref o), .val (.ref r), .val (.ref r), .val (.int nn), .val (.int (Int32.ofNat i)), .val (.int sl), .unset]) rfl ?_
      refine Go.aloadN d4_20 (q := 21) rfl rfl rfl ?_
      refine Go.getF d4_21 (q := 24) rfl (host := "") (Or.inl (w12 hw)) Via.refl s3 ?_
      refine Go.iload d4_24 (q := 26) rfl rfl ?_
      refine Go.sipush d4_26 (q := 29) rfl (x := (256 : Int32)) (by decide) ?_
      refine Go.idiv d4_29 (q := 30) rfl (by decide) ?_
      refine Go.aaload d4_30 (q := 31) rfl s7 rfl d.1 (by rw [d.2]; exact q1) ?_
      refine Go.astore d4_31 (q := 33) rfl rfl (Ls' := #[.val (.ref o), .val (.ref r), .val (.ref r), .val (.int nn), .val (.int (Int32.ofNat i)), .val (.int sl), .val (.ref b)]) rfl ?_
      refine Go.aload d4_33 (q := 35) rfl rfl rfl ?_
      refine Go.ifnull d4_35 (q := 66) (q' := 38) (by decide) rfl rfl rfl (fun e => by cases e) (fun _ _ => ?_)
      refine Go.aloadN d4_38 (q := 39) rfl rfl rfl ?_
      refine Go.dup d4_39 (q := 40) rfl rfl ?_
      refine Go.getF d4_40 (q := 43) rfl (host := "") (Or.inl (w23 hw)) Via.refl t5 ?_
      refine Go.aload d4_43 (q := 45) rfl rfl rfl ?_
      refine Go.iload d4_45 (q := 47) rfl rfl ?_
      refine Go.sipush d4_47 (q := 50) rfl (x := (256 : Int32)) (by decide) ?_
      refine Go.irem d4_50 (q := 51) rfl (by decide) ?_
      refine Go.laload d4_51 (q := 52) rfl q2 r_.1 (by rw [r_.2]; exact q5 _ (Nat.mod_lt _ (by decide))) ?_
      rw [e256]
      refine Go.lsub d4_52 (q := 53) rfl ?_
      refine Go.putF d4_53 (q := 56) rfl (host := "") (Or.inl (w23 hw)) Via.refl t5 s1 (Or.inl (w24 hw)) (w2 hw) pT3 rfl rfl s2.1 ?_
      intro h1 W1
      have S1 := S.tot hw W1
      refine Go.aload d4_56 (q := 58) rfl rfl rfl ?_
      refine Go.iload d4_58 (q := 60) rfl rfl ?_
      refine Go.sipush d4_60 (q := 63) rfl (x := (256 : Int32)) (by decide) ?_
      refine Go.irem d4_63 (q := 64) rfl (by decide) ?_
      refine Go.lconst d4_64 (q := 65) rfl (x := (0 : Int64)) (by decide) ?_
      refine Go.lastore d4_65 (q := 66) rfl (q2.other W1 q4.2.1) r_.1 (by rw [r_.2, q3]; exact Nat.mod_lt _ (by decide)) q4.1 ?_
      intro h2 W2
      rw [r_.2] at W2
      have S2 := S1.put hip (Nat.mod_lt _ (by decide)) q1 W2
      rw [e256] at S2
      refine Go.iinc d4_66 (q := 69) rfl rfl (w := Int32.ofNat (i + 1)) (ofNat_succ i) (Ls' := #[.val (.ref o), .val (.ref r), .val (.ref r), .val (.int nn), .val (.int (Int32.ofNat (i + 1))), .val (.int sl), .val (.ref b)]) rfl ?_
      refine Go.goto d4_69 (q := 8) (by decide) rfl ?_
      exact K h2 _ _ (Or.inr ⟨sl, (.ref b), rfl, rfl, rfl⟩) ⟨pa, ca, kP, kC, ps, cs, S2⟩ ((Aa.other W1 (Ne.symm ne)).other W2 (Ne.symm (ar_ne (q2.other W1 q4.2.1) (Aa.other W1 (Ne.symm ne)) (by decide))))
    · rcases ref_cases hv with rfl | ⟨vb, rfl⟩
      · skip
        refine Go.iload d4_8 (q := 10) rfl rfl ?_
        refine Go.iloadN d4_10 (q := 11) rfl rfl ?_
        refine Go.icmp_ge d4_11 (q := 72) (q' := 14) (by decide) rfl rfl (fun c_ => absurd hlt c_) (fun _ => ?_)
        refine Go.aloadN d4_14 (q := 15) rfl rfl rfl ?_
        refine Go.iload d4_15 (q := 17) rfl rfl ?_
        refine Go.iaload d4_17 (q := 18) rfl Aa (ofNat_nat hi2).1 (by rw [(ofNat_nat hi2).2]; exact hi) ?_
        refine Go.istore d4_18 (q := 20) rfl (Ls' := #[.val (.ref o), .val (.ref r), .val (.ref r), .val (.int nn), .val (.int (Int32.ofNat i)), .val (.int sl), .val .null]) rfl ?_
        refine Go.aloadN d4_20 (q := 21) rfl rfl rfl ?_
        refine Go.getF d4_21 (q := 24) rfl (host := "") (Or.inl (w12 hw)) Via.refl s3 ?_
        refine Go.iload d4_24 (q := 26) rfl rfl ?_
        refine Go.sipush d4_26 (q := 29) rfl (x := (256 : Int32)) (by decide) ?_
        refine Go.idiv d4_29 (q := 30) rfl (by decide) ?_
        refine Go.aaload d4_30 (q := 31) rfl s7 rfl d.1 (by rw [d.2]; exact q1) ?_
        refine Go.astore d4_31 (q := 33) rfl rfl (Ls' := #[.val (.ref o), .val (.ref r), .val (.ref r), .val (.int nn), .val (.int (Int32.ofNat i)), .val (.int sl), .val (.ref b)]) rfl ?_
        refine Go.aload d4_33 (q := 35) rfl rfl rfl ?_
        refine Go.ifnull d4_35 (q := 66) (q' := 38) (by decide) rfl rfl rfl (fun e => by cases e) (fun _ _ => ?_)
        refine Go.aloadN d4_38 (q := 39) rfl rfl rfl ?_
        refine Go.dup d4_39 (q := 40) rfl rfl ?_
        refine Go.getF d4_40 (q := 43) rfl (host := "") (Or.inl (w23 hw)) Via.refl t5 ?_
        refine Go.aload d4_43 (q := 45) rfl rfl rfl ?_
        refine Go.iload d4_45 (q := 47) rfl rfl ?_
        refine Go.sipush d4_47 (q := 50) rfl (x := (256 : Int32)) (by decide) ?_
        refine Go.irem d4_50 (q := 51) rfl (by decide) ?_
        refine Go.laload d4_51 (q := 52) rfl q2 r_.1 (by rw [r_.2]; exact q5 _ (Nat.mod_lt _ (by decide))) ?_
        rw [e256]
        refine Go.lsub d4_52 (q := 53) rfl ?_
        refine Go.putF d4_53 (q := 56) rfl (host := "") (Or.inl (w23 hw)) Via.refl t5 s1 (Or.inl (w24 hw)) (w2 hw) pT3 rfl rfl s2.1 ?_
        intro h1 W1
        have S1 := S.tot hw W1
        refine Go.aload d4_56 (q := 58) rfl rfl rfl ?_
        refine Go.iload d4_58 (q := 60) rfl rfl ?_
        refine Go.sipush d4_60 (q := 63) rfl (x := (256 : Int32)) (by decide) ?_
        refine Go.irem d4_63 (q := 64) rfl (by decide) ?_
        refine Go.lconst d4_64 (q := 65) rfl (x := (0 : Int64)) (by decide) ?_
        refine Go.lastore d4_65 (q := 66) rfl (q2.other W1 q4.2.1) r_.1 (by rw [r_.2, q3]; exact Nat.mod_lt _ (by decide)) q4.1 ?_
        intro h2 W2
        rw [r_.2] at W2
        have S2 := S1.put hip (Nat.mod_lt _ (by decide)) q1 W2
        rw [e256] at S2
        refine Go.iinc d4_66 (q := 69) rfl rfl (w := Int32.ofNat (i + 1)) (ofNat_succ i) (Ls' := #[.val (.ref o), .val (.ref r), .val (.ref r), .val (.int nn), .val (.int (Int32.ofNat (i + 1))), .val (.int sl), .val (.ref b)]) rfl ?_
        refine Go.goto d4_69 (q := 8) (by decide) rfl ?_
        exact K h2 _ _ (Or.inr ⟨sl, (.ref b), rfl, rfl, rfl⟩) ⟨pa, ca, kP, kC, ps, cs, S2⟩ ((Aa.other W1 (Ne.symm ne)).other W2 (Ne.symm (ar_ne (q2.other W1 q4.2.1) (Aa.other W1 (Ne.symm ne)) (by decide))))
      · skip
        refine Go.iload d4_8 (q := 10) rfl rfl ?_
        refine Go.iloadN d4_10 (q := 11) rfl rfl ?_
        refine Go.icmp_ge d4_11 (q := 72) (q' := 14) (by decide) rfl rfl (fun c_ => absurd hlt c_) (fun _ => ?_)
        refine Go.aloadN d4_14 (q := 15) rfl rfl rfl ?_
        refine Go.iload d4_15 (q := 17) rfl rfl ?_
        refine Go.iaload d4_17 (q := 18) rfl Aa (ofNat_nat hi2).1 (by rw [(ofNat_nat hi2).2]; exact hi) ?_
        refine Go.istore d4_18 (q := 20) rfl (Ls' := #[.val (.ref o), .val (.ref r), .val (.ref r), .val (.int nn), .val (.int (Int32.ofNat i)), .val (.int sl), .val (.ref vb)]) rfl ?_
        refine Go.aloadN d4_20 (q := 21) rfl rfl rfl ?_
        refine Go.getF d4_21 (q := 24) rfl (host := "") (Or.inl (w12 hw)) Via.refl s3 ?_
        refine Go.iload d4_24 (q := 26) rfl rfl ?_
        refine Go.sipush d4_26 (q := 29) rfl (x := (256 : Int32)) (by decide) ?_
        refine Go.idiv d4_29 (q := 30) rfl (by decide) ?_
        refine Go.aaload d4_30 (q := 31) rfl s7 rfl d.1 (by rw [d.2]; exact q1) ?_
        refine Go.astore d4_31 (q := 33) rfl rfl (Ls' := #[.val (.ref o), .val (.ref r), .val (.ref r), .val (.int nn), .val (.int (Int32.ofNat i)), .val (.int sl), .val (.ref b)]) rfl ?_
        refine Go.aload d4_33 (q := 35) rfl rfl rfl ?_
        refine Go.ifnull d4_35 (q := 66) (q' := 38) (by decide) rfl rfl rfl (fun e => by cases e) (fun _ _ => ?_)
        refine Go.aloadN d4_38 (q := 39) rfl rfl rfl ?_
        refine Go.dup d4_39 (q := 40) rfl rfl ?_
        refine Go.getF d4_40 (q := 43) rfl (host := "") (Or.inl (w23 hw)) Via.refl t5 ?_
        refine Go.aload d4_43 (q := 45) rfl rfl rfl ?_
        refine Go.iload d4_45 (q := 47) rfl rfl ?_
        refine Go.sipush d4_47 (q := 50) rfl (x := (256 : Int32)) (by decide) ?_
        refine Go.irem d4_50 (q := 51) rfl (by decide) ?_
        refine Go.laload d4_51 (q := 52) rfl q2 r_.1 (by rw [r_.2]; exact q5 _ (Nat.mod_lt _ (by decide))) ?_
        rw [e256]
        refine Go.lsub d4_52 (q := 53) rfl ?_
        refine Go.putF d4_53 (q := 56) rfl (host := "") (Or.inl (w23 hw)) Via.refl t5 s1 (Or.inl (w24 hw)) (w2 hw) pT3 rfl rfl s2.1 ?_
        intro h1 W1
        have S1 := S.tot hw W1
        refine Go.aload d4_56 (q := 58) rfl rfl rfl ?_
        refine Go.iload d4_58 (q := 60) rfl rfl ?_
        refine Go.sipush d4_60 (q := 63) rfl (x := (256 : Int32)) (by decide) ?_
        refine Go.irem d4_63 (q := 64) rfl (by decide) ?_
        refine Go.lconst d4_64 (q := 65) rfl (x := (0 : Int64)) (by decide) ?_
        refine Go.lastore d4_65 (q := 66) rfl (q2.other W1 q4.2.1) r_.1 (by rw [r_.2, q3]; exact Nat.mod_lt _ (by decide)) q4.1 ?_
        intro h2 W2
        rw [r_.2] at W2
        have S2 := S1.put hip (Nat.mod_lt _ (by decide)) q1 W2
        rw [e256] at S2
        refine Go.iinc d4_66 (q := 69) rfl rfl (w := Int32.ofNat (i + 1)) (ofNat_succ i) (Ls' := #[.val (.ref o), .val (.ref r), .val (.ref r), .val (.int nn), .val (.int (Int32.ofNat (i + 1))), .val (.int sl), .val (.ref b)]) rfl ?_
        refine Go.goto d4_69 (q := 8) (by decide) rfl ?_
        exact K h2 _ _ (Or.inr ⟨sl, (.ref b), rfl, rfl, rfl⟩) ⟨pa, ca, kP, kC, ps, cs, S2⟩ ((Aa.other W1 (Ne.symm ne)).other W2 (Ne.symm (ar_ne (q2.other W1 q4.2.1) (Aa.other W1 (Ne.symm ne)) (by decide))))
set_option maxRecDepth 65536 in
set_option maxHeartbeats 40000000 in
theorem clr_out (l : Launch) (Z : State) (a0 : Array Value) (hw : Hw a0 Z) (n0 : Nat) (h : Heap) {o r : Addr} (nn : Int32) (i : Int32) (hge : ¬ i < nn) {s5 s6 : Slot} {Q : Option Value → Heap → Prop} (hQ : Q none h) :
    Go l Z (⟨"slotwise/storage/SlotKeyCounts", "clear", "([I)V"⟩ : MethodName) prog_30_method_10_code 7 none ({ frames := 0, cells := 0, slots := 0, locals := 0 } : Room) n0 Q h 0 0 8 #[.val (.ref o), .val (.ref r), .val (.ref r), .val (.int nn), .val (.int i), s5, s6] [] := by
  refine Go.iload d4_8 (q := 10) rfl rfl ?_
  refine Go.iloadN d4_10 (q := 11) rfl rfl ?_
  refine Go.icmp_ge d4_11 (q := 72) (q' := 14) (by decide) rfl rfl (fun _ => ?_) (fun c_ => absurd c_ hge)
  refine Go.vreturn d4_72 (by decide) (by decide) ?_
  exact hQ
set_option maxRecDepth 65536 in
set_option maxHeartbeats 40000000 in
theorem clr0 (l : Launch) (Z : State) (a0 : Array Value) (hw : Hw a0 Z) (n0 : Nat) (h : Heap) {o r : Addr} {kr : ClassId}  {cnt chg : Nat → Int64} {tot : Int64} {chs : Int32} (S : SK Z h n0 o cnt chg tot chs) (Aa : Ar Z h r .int kr []) (ne : o ≠ r) {Q : Option Value → Heap → Prop} (hQ : ∀ h', SK Z h' n0 o cnt chg tot chs → Q none h') :
    Go l Z (⟨"slotwise/storage/SlotKeyCounts", "clear", "([I)V"⟩ : MethodName) prog_30_method_10_code 7 none ({ frames := 0, cells := 0, slots := 0, locals := 0 } : Room) n0 Q h 0 0 0 #[.val (.ref o), .val (.ref r), .unset, .unset, .unset, .unset, .unset] [] := by
  refine Go.aloadN d4_0 (q := 1) rfl rfl rfl ?_
  refine Go.astoreN d4_1 (q := 2) rfl rfl (Ls' := #[.val (.ref o), .val (.ref r), .val (.ref r), .unset, .unset, .unset, .unset]) rfl ?_
  refine Go.aloadN d4_2 (q := 3) rfl rfl rfl ?_
  refine Go.arraylength d4_3 (q := 4) rfl Aa (z := 0) rfl ?_
  refine Go.istoreN d4_4 (q := 5) rfl (Ls' := #[.val (.ref o), .val (.ref r), .val (.ref r), .val (.int (0 : Int32)), .unset, .unset, .unset]) rfl ?_
  refine Go.iconst d4_5 (q := 6) rfl (x := (0 : Int32)) (by decide) ?_
  refine Go.istore d4_6 (q := 8) rfl (Ls' := #[.val (.ref o), .val (.ref r), .val (.ref r), .val (.int (0 : Int32)), .val (.int (0 : Int32)), .unset, .unset]) rfl ?_
  exact clr_out l Z a0 hw n0 _ 0 0 (by decide) (hQ _ S)
set_option maxRecDepth 65536 in
set_option maxHeartbeats 40000000 in
theorem clr1 (l : Launch) (Z : State) (a0 : Array Value) (hw : Hw a0 Z) (n0 : Nat) (h : Heap) {o r : Addr} {kr : ClassId} (p0 : Int32) (h0 : RG p0) {cnt chg : Nat → Int64} {tot : Int64} {chs : Int32} (S : SK Z h n0 o cnt chg tot chs) (Aa : Ar Z h r .int kr [.int p0]) (ne : o ≠ r) {Q : Option Value → Heap → Prop} (hQ : ∀ h', SK Z h' n0 o (upd cnt p0.toNatClampNeg 0) chg (tot - cnt p0.toNatClampNeg) chs → Q none h') :
    Go l Z (⟨"slotwise/storage/SlotKeyCounts", "clear", "([I)V"⟩ : MethodName) prog_30_method_10_code 7 none ({ frames := 0, cells := 0, slots := 0, locals := 0 } : Room) n0 Q h 0 0 0 #[.val (.ref o), .val (.ref r), .unset, .unset, .unset, .unset, .unset] [] := by
  refine Go.aloadN d4_0 (q := 1) rfl rfl rfl ?_
  refine Go.astoreN d4_1 (q := 2) rfl rfl (Ls' := #[.val (.ref o), .val (.ref r), .val (.ref r), .unset, .unset, .unset, .unset]) rfl ?_
  refine Go.aloadN d4_2 (q := 3) rfl rfl rfl ?_
  refine Go.arraylength d4_3 (q := 4) rfl Aa (z := 1) rfl ?_
  refine Go.istoreN d4_4 (q := 5) rfl (Ls' := #[.val (.ref o), .val (.ref r), .val (.ref r), .val (.int (1 : Int32)), .unset, .unset, .unset]) rfl ?_
  refine Go.iconst d4_5 (q := 6) rfl (x := (0 : Int32)) (by decide) ?_
  refine Go.istore d4_6 (q := 8) rfl (Ls' := #[.val (.ref o), .val (.ref r), .val (.ref r), .val (.int (1 : Int32)), .val (.int (0 : Int32)), .unset, .unset]) rfl ?_
  refine clr_step l Z a0 hw n0 _ S Aa ne 1 0 p0 h0 rfl (by decide) (by decide) (Or.inl ⟨rfl, rfl⟩) fun g1 a5 a6 l1 S1 A1 => ?_
  exact clr_out l Z a0 hw n0 _ 1 1 (by decide) (hQ _ S1)
set_option maxRecDepth 65536 in
set_option maxHeartbeats 40000000 in
theorem clr2 (l : Launch) (Z : State) (a0 : Array Value) (hw : Hw a0 Z) (n0 : Nat) (h : Heap) {o r : Addr} {kr : ClassId} (p0 p1 : Int32) (h0 : RG p0) (h1 : RG p1) {cnt chg : Nat → Int64} {tot : Int64} {chs : Int32} (S : SK Z h n0 o cnt chg tot chs) (Aa : Ar Z h r .int kr [.int p0, .int p1]) (ne : o ≠ r) {Q : Option Value → Heap → Prop} (hQ : ∀ h', SK Z h' n0 o (upd (upd cnt p0.toNatClampNeg 0) p1.toNatClampNeg 0) chg ((tot - cnt p0.toNatClampNeg) - (upd cnt p0.toNatClampNeg 0) p1.toNatClampNeg) chs → Q none h') :
    Go l Z (⟨"slotwise/storage/SlotKeyCounts", "clear", "([I)V"⟩ : MethodName) prog_30_method_10_code 7 none ({ frames := 0, cells := 0, slots := 0, locals := 0 } : Room) n0 Q h 0 0 0 #[.val (.ref o), .val (.ref r), .unset, .unset, .unset, .unset, .unset] [] := by
  refine Go.aloadN d4_0 (q := 1) rfl rfl rfl ?_
  refine Go.astoreN d4_1 (q := 2) rfl rfl (Ls' := #[.val (.ref o), .val (.ref r), .val (.ref r), .unset, .unset, .unset, .unset]) rfl ?_
  refine Go.aloadN d4_2 (q := 3) rfl rfl rfl ?_
  refine Go.arraylength d4_3 (q := 4) rfl Aa (z := 2) rfl ?_
  refine Go.istoreN d4_4 (q := 5) rfl (Ls' := #[.val (.ref o), .val (.ref r), .val (.ref r), .val (.int (2 : Int32)), .unset, .unset, .unset]) rfl ?_
  refine Go.iconst d4_5 (q := 6) rfl (x := (0 : Int32)) (by decide) ?_
  refine Go.istore d4_6 (q := 8) rfl (Ls' := #[.val (.ref o), .val (.ref r), .val (.ref r), .val (.int (2 : Int32)), .val (.int (0 : Int32)), .unset, .unset]) rfl ?_
  refine clr_step l Z a0 hw n0 _ S Aa ne 2 0 p0 h0 rfl (by decide) (by decide) (Or.inl ⟨rfl, rfl⟩) fun g1 a5 a6 l1 S1 A1 => ?_
  refine clr_step l Z a0 hw n0 _ S1 A1 ne 2 1 p1 h1 rfl (by decide) (by decide) l1 fun g2 a5 a6 l2 S2 A2 => ?_
  exact clr_out l Z a0 hw n0 _ 2 2 (by decide) (hQ _ S2)
set_option maxRecDepth 65536 in
set_option maxHeartbeats 40000000 in
theorem clr3 (l : Launch) (Z : State) (a0 : Array Value) (hw : Hw a0 Z) (n0 : Nat) (h : Heap) {o r : Addr} {kr : ClassId} (p0 p1 p2 : Int32) (h0 : RG p0) (h1 : RG p1) (h2 : RG p2) {cnt chg : Nat → Int64} {tot : Int64} {chs : Int32} (S : SK Z h n0 o cnt chg tot chs) (Aa : Ar Z h r .int kr [.int p0, .int p1, .int p2]) (ne : o ≠ r) {Q : Option Value → Heap → Prop} (hQ : ∀ h', SK Z h' n0 o (upd (upd (upd cnt p0.toNatClampNeg 0) p1.toNatClampNeg 0) p2.toNatClampNeg 0) chg (((tot - cnt p0.toNatClampNeg) - (upd cnt p0.toNatClampNeg 0) p1.toNatClampNeg) - (upd (upd cnt p0.toNatClampNeg 0) p1.toNatClampNeg 0) p2.toNatClampNeg) chs → Q none h') :
    Go l Z (⟨"slotwise/storage/SlotKeyCounts", "clear", "([I)V"⟩ : MethodName) prog_30_method_10_code 7 none ({ frames := 0, cells := 0, slots := 0, locals := 0 } : Room) n0 Q h 0 0 0 #[.val (.ref o), .val (.ref r), .unset, .unset, .unset, .unset, .unset] [] := by
  refine Go.aloadN d4_0 (q := 1) rfl rfl rfl ?_
  refine Go.astoreN d4_1 (q := 2) rfl rfl (Ls' := #[.val (.ref o), .val (.ref r), .val (.ref r), .unset, .unset, .unset, .unset]) rfl ?_
  refine Go.aloadN d4_2 (q := 3) rfl rfl rfl ?_
  refine Go.arraylength d4_3 (q := 4) rfl Aa (z := 3) rfl ?_
  refine Go.istoreN d4_4 (q := 5) rfl (Ls' := #[.val (.ref o), .val (.ref r), .val (.ref r), .val (.int (3 : Int32)), .unset, .unset, .unset]) rfl ?_
  refine Go.iconst d4_5 (q := 6) rfl (x := (0 : Int32)) (by decide) ?_
  refine Go.istore d4_6 (q := 8) rfl (Ls' := #[.val (.ref o), .val (.ref r), .val (.ref r), .val (.int (3 : Int32)), .val (.int (0 : Int32)), .unset, .unset]) rfl ?_
  refine clr_step l Z a0 hw n0 _ S Aa ne 3 0 p0 h0 rfl (by decide) (by decide) (Or.inl ⟨rfl, rfl⟩) fun g1 a5 a6 l1 S1 A1 => ?_
  refine clr_step l Z a0 hw n0 _ S1 A1 ne 3 1 p1 h1 rfl (by decide) (by decide) l1 fun g2 a5 a6 l2 S2 A2 => ?_
  refine clr_step l Z a0 hw n0 _ S2 A2 ne 3 2 p2 h2 rfl (by decide) (by decide) l2 fun g3 a5 a6 l3 S3 A3 => ?_
  exact clr_out l Z a0 hw n0 _ 3 3 (by decide) (hQ _ S3)
def clF (s : Int32) (n : Int32) (p0 : Int32) (p1 : Int32) (p2 : Int32) : Int32 :=
  if 0 < n then if p0 = s then (1 : Int32) else
    if (1 : Int32) < n then if p1 = s then (1 : Int32) else
      if (2 : Int32) < n then if p2 = s then (1 : Int32) else
        (0 : Int32) else
      (0 : Int32) else
    if (2 : Int32) < n then if p2 = s then (1 : Int32) else
      (0 : Int32) else
    (0 : Int32) else
  if (1 : Int32) < n then if p1 = s then (1 : Int32) else
    if (2 : Int32) < n then if p2 = s then (1 : Int32) else
      (0 : Int32) else
    (0 : Int32) else
  if (2 : Int32) < n then if p2 = s then (1 : Int32) else
    (0 : Int32) else
  (0 : Int32)
set_option maxRecDepth 65536 in
set_option maxHeartbeats 40000000 in
theorem b6 (l : Launch) (Z : State) (a0 : Array Value) (hw : Hw a0 Z) (n0 : Nat) (h : Heap) (s : Int32) (n : Int32) (p0 : Int32) (p1 : Int32) (p2 : Int32) {Q : Option Value → Heap → Prop} (hQ : Q (some (.int (clF s n p0 p1 p2))) h) :
    Go l Z (⟨"slotwise/storage/SlotKeyCountsClearPinLaw", "cleared", "(IIIII)Z"⟩ : MethodName) method_3_code 5 (some .boolean) ({ frames := 0, cells := 0, slots := 0, locals := 0 } : Room) n0 Q h 0 0 0 #[.val (.int s), .val (.int n), .val (.int p0), .val (.int p1), .val (.int p2)] [] := by
  refine Go.iloadN d6_0 (q := 1) rfl rfl ?_
  refine Go.if_le d6_1 (q := 9) (q' := 4) (by decide) rfl rfl (fun c32 => ?_) (fun c32 => ?_)
  · skip
    refine Go.iloadN d6_9 (q := 10) rfl rfl ?_
    refine Go.iconst d6_10 (q := 11) rfl (x := (1 : Int32)) (by decide) ?_
    refine Go.icmp_le d6_11 (q := 19) (q' := 14) (by decide) rfl rfl (fun c33 => ?_) (fun c33 => ?_)
    · skip
      refine Go.iloadN d6_19 (q := 20) rfl rfl ?_
      refine Go.iconst d6_20 (q := 21) rfl (x := (2 : Int32)) (by decide) ?_
      refine Go.icmp_le d6_21 (q := 34) (q' := 24) (by decide) rfl rfl (fun c34 => ?_) (fun c34 => ?_)
      · skip
        refine Go.iconst d6_34 (q := 35) rfl (x := (0 : Int32)) (by decide) ?_
        refine Go.zreturn d6_35 (by decide) (by decide) (by decide) ?_
        unfold clF at hQ
        rw [if_neg c32, if_neg c33, if_neg c34] at hQ
        exact hQ
      · skip
        refine Go.iload d6_24 (q := 26) rfl rfl ?_
        refine Go.iloadN d6_26 (q := 27) rfl rfl ?_
        refine Go.icmp_ne d6_27 (q := 34) (q' := 30) (by decide) rfl rfl (fun c35 => ?_) (fun c35 => ?_)
        · skip
          refine Go.iconst d6_34 (q := 35) rfl (x := (0 : Int32)) (by decide) ?_
          refine Go.zreturn d6_35 (by decide) (by decide) (by decide) ?_
          unfold clF at hQ
          rw [if_neg c32, if_neg c33, if_pos c34, if_neg c35] at hQ
          exact hQ
        · skip
          refine Go.iconst d6_30 (q := 31) rfl (x := (1 : Int32)) (by decide) ?_
          refine Go.goto d6_31 (q := 35) (by decide) rfl ?_
          refine Go.zreturn d6_35 (by decide) (by decide) (by decide) ?_
          unfold clF at hQ
          rw [if_neg c32, if_neg c33, if_pos c34, if_pos c35] at hQ
          exact hQ
    · skip
      refine Go.iloadN d6_14 (q := 15) rfl rfl ?_
      refine Go.iloadN d6_15 (q := 16) rfl rfl ?_
      refine Go.icmp_eq d6_16 (q := 30) (q' := 19) (by decide) rfl rfl (fun c36 => ?_) (fun c36 => ?_)
      · skip
        refine Go.iconst d6_30 (q := 31) rfl (x := (1 : Int32)) (by decide) ?_
        refine Go.goto d6_31 (q := 35) (by decide) rfl ?_
        refine Go.zreturn d6_35 (by decide) (by decide) (by decide) ?_
        unfold clF at hQ
        rw [if_neg c32, if_pos c33, if_pos c36] at hQ
        exact hQ
      · skip
        refine Go.iloadN d6_19 (q := 20) rfl rfl ?_
        refine Go.iconst d6_20 (q := 21) rfl (x := (2 : Int32)) (by decide) ?_
        refine Go.icmp_le d6_21 (q := 34) (q' := 24) (by decide) rfl rfl (fun c37 => ?_) (fun c37 => ?_)
        · skip
          refine Go.iconst d6_34 (q := 35) rfl (x := (0 : Int32)) (by decide) ?_
          refine Go.zreturn d6_35 (by decide) (by decide) (by decide) ?_
          unfold clF at hQ
          rw [if_neg c32, if_pos c33, if_neg c36, if_neg c37] at hQ
          exact hQ
        · skip
          refine Go.iload d6_24 (q := 26) rfl rfl ?_
          refine Go.iloadN d6_26 (q := 27) rfl rfl ?_
          refine Go.icmp_ne d6_27 (q := 34) (q' := 30) (by decide) rfl rfl (fun c38 => ?_) (fun c38 => ?_)
          · skip
            refine Go.iconst d6_34 (q := 35) rfl (x := (0 : Int32)) (by decide) ?_
            refine Go.zreturn d6_35 (by decide) (by decide) (by decide) ?_
            unfold clF at hQ
            rw [if_neg c32, if_pos c33, if_neg c36, if_pos c37, if_neg c38] at hQ
            exact hQ
          · skip
            refine Go.iconst d6_30 (q := 31) rfl (x := (1 : Int32)) (by decide) ?_
            refine Go.goto d6_31 (q := 35) (by decide) rfl ?_
            refine Go.zreturn d6_35 (by decide) (by decide) (by decide) ?_
            unfold clF at hQ
            rw [if_neg c32, if_pos c33, if_neg c36, if_pos c37, if_pos c38] at hQ
            exact hQ
  · skip
    refine Go.iloadN d6_4 (q := 5) rfl rfl ?_
    refine Go.iloadN d6_5 (q := 6) rfl rfl ?_
    refine Go.icmp_eq d6_6 (q := 30) (q' := 9) (by decide) rfl rfl (fun c39 => ?_) (fun c39 => ?_)
    · skip
      refine Go.iconst d6_30 (q := 31) rfl (x := (1 : Int32)) (by decide) ?_
      refine Go.goto d6_31 (q := 35) (by decide) rfl ?_
      refine Go.zreturn d6_35 (by decide) (by decide) (by decide) ?_
      unfold clF at hQ
      rw [if_pos c32, if_pos c39] at hQ
      exact hQ
    · skip
      refine Go.iloadN d6_9 (q := 10) rfl rfl ?_
      refine Go.iconst d6_10 (q := 11) rfl (x := (1 : Int32)) (by decide) ?_
      refine Go.icmp_le d6_11 (q := 19) (q' := 14) (by decide) rfl rfl (fun c40 => ?_) (fun c40 => ?_)
      · skip
        refine Go.iloadN d6_19 (q := 20) rfl rfl ?_
        refine Go.iconst d6_20 (q := 21) rfl (x := (2 : Int32)) (by decide) ?_
        refine Go.icmp_le d6_21 (q := 34) (q' := 24) (by decide) rfl rfl (fun c41 => ?_) (fun c41 => ?_)
        · skip
          refine Go.iconst d6_34 (q := 35) rfl (x := (0 : Int32)) (by decide) ?_
          refine Go.zreturn d6_35 (by decide) (by decide) (by decide) ?_
          unfold clF at hQ
          rw [if_pos c32, if_neg c39, if_neg c40, if_neg c41] at hQ
          exact hQ
        · skip
          refine Go.iload d6_24 (q := 26) rfl rfl ?_
          refine Go.iloadN d6_26 (q := 27) rfl rfl ?_
          refine Go.icmp_ne d6_27 (q := 34) (q' := 30) (by decide) rfl rfl (fun c42 => ?_) (fun c42 => ?_)
          · skip
            refine Go.iconst d6_34 (q := 35) rfl (x := (0 : Int32)) (by decide) ?_
            refine Go.zreturn d6_35 (by decide) (by decide) (by decide) ?_
            unfold clF at hQ
            rw [if_pos c32, if_neg c39, if_neg c40, if_pos c41, if_neg c42] at hQ
            exact hQ
          · skip
            refine Go.iconst d6_30 (q := 31) rfl (x := (1 : Int32)) (by decide) ?_
            refine Go.goto d6_31 (q := 35) (by decide) rfl ?_
            refine Go.zreturn d6_35 (by decide) (by decide) (by decide) ?_
            unfold clF at hQ
            rw [if_pos c32, if_neg c39, if_neg c40, if_pos c41, if_pos c42] at hQ
            exact hQ
      · skip
        refine Go.iloadN d6_14 (q := 15) rfl rfl ?_
        refine Go.iloadN d6_15 (q := 16) rfl rfl ?_
        refine Go.icmp_eq d6_16 (q := 30) (q' := 19) (by decide) rfl rfl (fun c43 => ?_) (fun c43 => ?_)
        · skip
          refine Go.iconst d6_30 (q := 31) rfl (x := (1 : Int32)) (by decide) ?_
          refine Go.goto d6_31 (q := 35) (by decide) rfl ?_
          refine Go.zreturn d6_35 (by decide) (by decide) (by decide) ?_
          unfold clF at hQ
          rw [if_pos c32, if_neg c39, if_pos c40, if_pos c43] at hQ
          exact hQ
        · skip
          refine Go.iloadN d6_19 (q := 20) rfl rfl ?_
          refine Go.iconst d6_20 (q := 21) rfl (x := (2 : Int32)) (by decide) ?_
          refine Go.icmp_le d6_21 (q := 34) (q' := 24) (by decide) rfl rfl (fun c44 => ?_) (fun c44 => ?_)
          · skip
            refine Go.iconst d6_34 (q := 35) rfl (x := (0 : Int32)) (by decide) ?_
            refine Go.zreturn d6_35 (by decide) (by decide) (by decide) ?_
            unfold clF at hQ
            rw [if_pos c32, if_neg c39, if_pos c40, if_neg c43, if_neg c44] at hQ
            exact hQ
          · skip
            refine Go.iload d6_24 (q := 26) rfl rfl ?_
            refine Go.iloadN d6_26 (q := 27) rfl rfl ?_
            refine Go.icmp_ne d6_27 (q := 34) (q' := 30) (by decide) rfl rfl (fun c45 => ?_) (fun c45 => ?_)
            · skip
              refine Go.iconst d6_34 (q := 35) rfl (x := (0 : Int32)) (by decide) ?_
              refine Go.zreturn d6_35 (by decide) (by decide) (by decide) ?_
              unfold clF at hQ
              rw [if_pos c32, if_neg c39, if_pos c40, if_neg c43, if_pos c44, if_neg c45] at hQ
              exact hQ
            · skip
              refine Go.iconst d6_30 (q := 31) rfl (x := (1 : Int32)) (by decide) ?_
              refine Go.goto d6_31 (q := 35) (by decide) rfl ?_
              refine Go.zreturn d6_35 (by decide) (by decide) (by decide) ?_
              unfold clF at hQ
              rw [if_pos c32, if_neg c39, if_pos c40, if_neg c43, if_pos c44, if_pos c45] at hQ
              exact hQ
def afF (s : Int32) (t1 : Int32) (t2 : Int32) (u : Int64) (v : Int64) (n : Int32) (p0 : Int32) (p1 : Int32) (p2 : Int32) : Int64 :=
  if (clF s n p0 p1 p2) = 0 then if s = t1 then if s = t2 then (((0 : Int64) + u) + v) else
      ((0 : Int64) + u) else
    if s = t2 then ((0 : Int64) + v) else
    (0 : Int64) else
  (0 : Int64)
set_option maxRecDepth 65536 in
set_option maxHeartbeats 40000000 in
theorem b5 (l : Launch) (Z : State) (a0 : Array Value) (hw : Hw a0 Z) (n0 : Nat) (h : Heap) (s : Int32) (t1 : Int32) (t2 : Int32) (u : Int64) (v : Int64) (n : Int32) (p0 : Int32) (p1 : Int32) (p2 : Int32) {Q : Option Value → Heap → Prop} (hQ : Q (some (.long (afF s t1 t2 u v n p0 p1 p2))) h) :
    Go l Z (⟨"slotwise/storage/SlotKeyCountsClearPinLaw", "after", "(IIIJJIIII)J"⟩ : MethodName) method_4_code 13 (some .long) ({ frames := 1, cells := 0, slots := 0, locals := 16 } : Room) n0 Q h 0 0 0 #[.val (.int s), .val (.int t1), .val (.int t2), .val (.long u), .second, .val (.long v), .second, .val (.int n), .val (.int p0), .val (.int p1), .val (.int p2), .unset, .unset] [] := by
  refine Go.iloadN d5_0 (q := 1) rfl rfl ?_
  refine Go.iload d5_1 (q := 3) rfl rfl ?_
  refine Go.iload d5_3 (q := 5) rfl rfl ?_
  refine Go.iload d5_5 (q := 7) rfl rfl ?_
  refine Go.iload d5_7 (q := 9) rfl rfl ?_
  refine Go.callSV (P := fun w h' => w = .int (clF s n p0 p1 p2) ∧ h = h') (argsL := [(.int s), (.int n), (.int p0), (.int p1), (.int p2)]) (rest := []) (wd := 0) (Ls1 := #[.val (.int s), .val (.int n), .val (.int p0), .val (.int p1), .val (.int p2)]) d5_9 (q := 12) rfl (w36 hw) (w37 hw) (w34 hw) (w38 hw) (by decide) pn6 pd6 rfl rfl (fun m => by simp [entryFrame, mkF, argsToLocals, Value.category]) rfl (by decide) rfl (by decide) (by decide) (by decide) (b6 l Z a0 hw n0 h s n p0 p1 p2 (Q := RV (fun w h' => w = .int (clF s n p0 p1 p2) ∧ h = h')) ⟨_, rfl, rfl, rfl⟩) ?_
  rintro _ _ ⟨rfl, rfl⟩
  refine Go.if_eq d5_12 (q := 17) (q' := 15) (by decide) rfl rfl (fun c46 => ?_) (fun c46 => ?_)
  · skip
    refine Go.lconst d5_17 (q := 18) rfl (x := (0 : Int64)) (by decide) ?_
    refine Go.lstore d5_18 (q := 20) rfl (Ls' := #[.val (.int s), .val (.int t1), .val (.int t2), .val (.long u), .second, .val (.long v), .second, .val (.int n), .val (.int p0), .val (.int p1), .val (.int p2), .val (.long (0 : Int64)), .second]) rfl ?_
    refine Go.iloadN d5_20 (q := 21) rfl rfl ?_
    refine Go.iloadN d5_21 (q := 22) rfl rfl ?_
    refine Go.icmp_ne d5_22 (q := 31) (q' := 25) (by decide) rfl rfl (fun c47 => ?_) (fun c47 => ?_)
    · skip
      refine Go.iloadN d5_31 (q := 32) rfl rfl ?_
      refine Go.iloadN d5_32 (q := 33) rfl rfl ?_
      refine Go.icmp_ne d5_33 (q := 43) (q' := 36) (by decide) rfl rfl (fun c48 => ?_) (fun c48 => ?_)
      · skip
        refine Go.lload d5_43 (q := 45) rfl rfl ?_
        refine Go.lreturn d5_45 (by decide) (by decide) ?_
        unfold afF at hQ
        rw [if_pos c46, if_neg c47, if_neg c48] at hQ
        exact hQ
      · skip
        refine Go.lload d5_36 (q := 38) rfl rfl ?_
        refine Go.lload d5_38 (q := 40) rfl rfl ?_
        refine Go.ladd d5_40 (q := 41) rfl ?_
        refine Go.lstore d5_41 (q := 43) rfl (Ls' := #[.val (.int s), .val (.int t1), .val (.int t2), .val (.long u), .second, .val (.long v), .second, .val (.int n), .val (.int p0), .val (.int p1), .val (.int p2), .val (.long ((0 : Int64) + v)), .second]) rfl ?_
        refine Go.lload d5_43 (q := 45) rfl rfl ?_
        refine Go.lreturn d5_45 (by decide) (by decide) ?_
        unfold afF at hQ
        rw [if_pos c46, if_neg c47, if_pos c48] at hQ
        exact hQ
    · skip
      refine Go.lload d5_25 (q := 27) rfl rfl ?_
      refine Go.lloadN d5_27 (q := 28) rfl rfl ?_
      refine Go.ladd d5_28 (q := 29) rfl ?_
      refine Go.lstore d5_29 (q := 31) rfl (Ls' := #[.val (.int s), .val (.int t1), .val (.int t2), .val (.long u), .second, .val (.long v), .second, .val (.int n), .val (.int p0), .val (.int p1), .val (.int p2), .val (.long ((0 : Int64) + u)), .second]) rfl ?_
      refine Go.iloadN d5_31 (q := 32) rfl rfl ?_
      refine Go.iloadN d5_32 (q := 33) rfl rfl ?_
      refine Go.icmp_ne d5_33 (q := 43) (q' := 36) (by decide) rfl rfl (fun c49 => ?_) (fun c49 => ?_)
      · skip
        refine Go.lload d5_43 (q := 45) rfl rfl ?_
        refine Go.lreturn d5_45 (by decide) (by decide) ?_
        unfold afF at hQ
        rw [if_pos c46, if_pos c47, if_neg c49] at hQ
        exact hQ
      · skip
        refine Go.lload d5_36 (q := 38) rfl rfl ?_
        refine Go.lload d5_38 (q := 40) rfl rfl ?_
        refine Go.ladd d5_40 (q := 41) rfl ?_
        refine Go.lstore d5_41 (q := 43) rfl (Ls' := #[.val (.int s), .val (.int t1), .val (.int t2), .val (.long u), .second, .val (.long v), .second, .val (.int n), .val (.int p0), .val (.int p1), .val (.int p2), .val (.long (((0 : Int64) + u) + v)), .second]) rfl ?_
        refine Go.lload d5_43 (q := 45) rfl rfl ?_
        refine Go.lreturn d5_45 (by decide) (by decide) ?_
        unfold afF at hQ
        rw [if_pos c46, if_pos c47, if_pos c49] at hQ
        exact hQ
  · skip
    refine Go.lconst d5_15 (q := 16) rfl (x := (0 : Int64)) (by decide) ?_
    refine Go.lreturn d5_16 (by decide) (by decide) ?_
    unfold afF at hQ
    rw [if_neg c46] at hQ
    exact hQ
theorem upd_at {f : Nat → Int64} {p q : Int32} (hp : RG p) (hq : RG q) : upd f p.toNatClampNeg 0 q.toNatClampNeg = if p = q then 0 else f q.toNatClampNeg := by
  by_cases e : p = q
  · rw [if_pos e, e, upd_same]
  · rw [if_neg e, upd_ne _ _ (fun z => e (nat_inj hp.1 hq.1 z.symm))]
theorem sum_eq (q t1 t2 : Int32) (u v : Int64) : (if q = t1 then u else 0) + (if q = t2 then v else 0) = if q = t1 then (if q = t2 then (0 : Int64) + u + v else (0 : Int64) + u) else (if q = t2 then (0 : Int64) + v else 0) := by
  by_cases e1 : q = t1
  · rw [if_pos e1, if_pos e1]
    by_cases e2 : q = t2
    · rw [if_pos e2, if_pos e2, Int64.zero_add]
    · rw [if_neg e2, if_neg e2, Int64.zero_add, Int64.add_zero]
  · rw [if_neg e1, if_neg e1]
    by_cases e2 : q = t2
    · rw [if_pos e2, if_pos e2]
    · rw [if_neg e2, if_neg e2, Int64.add_zero]
theorem af0 (t1 t2 q p0 p1 p2 : Int32) (u v : Int64) (h1 : RG t1) (h2 : RG t2) (hq : RG q) (h_0 : RG p0) (h_1 : RG p1) (h_2 : RG p2) : (c2 t1 t2 u v) q.toNatClampNeg = afF q t1 t2 u v 0 p0 p1 p2 := by
  unfold afF clF
  rw [c2_eq t1 t2 q h1 h2 hq, sum_eq]
  have z0 : ((0 : Int32) < (0 : Int32)) = False := by decide
  have z1 : ((1 : Int32) < (0 : Int32)) = False := by decide
  have z2 : ((2 : Int32) < (0 : Int32)) = False := by decide
  have w1 : ((1 : Int32) = 0) = False := by decide
  have w0 : ((0 : Int32) = 0) = True := by simp
  simp only [z0, z1, z2, if_true, if_false]

theorem af1 (t1 t2 q p0 p1 p2 : Int32) (u v : Int64) (h1 : RG t1) (h2 : RG t2) (hq : RG q) (h_0 : RG p0) (h_1 : RG p1) (h_2 : RG p2) : (upd (c2 t1 t2 u v) p0.toNatClampNeg 0) q.toNatClampNeg = afF q t1 t2 u v 1 p0 p1 p2 := by
  unfold afF clF
  rw [upd_at h_0 hq, c2_eq t1 t2 q h1 h2 hq, sum_eq]
  have z0 : ((0 : Int32) < (1 : Int32)) = True := by decide
  have z1 : ((1 : Int32) < (1 : Int32)) = False := by decide
  have z2 : ((2 : Int32) < (1 : Int32)) = False := by decide
  have w1 : ((1 : Int32) = 0) = False := by decide
  have w0 : ((0 : Int32) = 0) = True := by simp
  simp only [z0, z1, z2, if_true, if_false]
  by_cases e0 : p0 = q <;> by_cases e1 : p1 = q <;> by_cases e2 : p2 = q <;> simp [e0, e1, e2, w1]
theorem af2 (t1 t2 q p0 p1 p2 : Int32) (u v : Int64) (h1 : RG t1) (h2 : RG t2) (hq : RG q) (h_0 : RG p0) (h_1 : RG p1) (h_2 : RG p2) : (upd (upd (c2 t1 t2 u v) p0.toNatClampNeg 0) p1.toNatClampNeg 0) q.toNatClampNeg = afF q t1 t2 u v 2 p0 p1 p2 := by
  unfold afF clF
  rw [upd_at h_1 hq, upd_at h_0 hq, c2_eq t1 t2 q h1 h2 hq, sum_eq]
  have z0 : ((0 : Int32) < (2 : Int32)) = True := by decide
  have z1 : ((1 : Int32) < (2 : Int32)) = True := by decide
  have z2 : ((2 : Int32) < (2 : Int32)) = False := by decide
  have w1 : ((1 : Int32) = 0) = False := by decide
  have w0 : ((0 : Int32) = 0) = True := by simp
  simp only [z0, z1, z2, if_true, if_false]
  by_cases e0 : p0 = q <;> by_cases e1 : p1 = q <;> by_cases e2 : p2 = q <;> simp [e0, e1, e2, w1]
theorem af3 (t1 t2 q p0 p1 p2 : Int32) (u v : Int64) (h1 : RG t1) (h2 : RG t2) (hq : RG q) (h_0 : RG p0) (h_1 : RG p1) (h_2 : RG p2) : (upd (upd (upd (c2 t1 t2 u v) p0.toNatClampNeg 0) p1.toNatClampNeg 0) p2.toNatClampNeg 0) q.toNatClampNeg = afF q t1 t2 u v 3 p0 p1 p2 := by
  unfold afF clF
  rw [upd_at h_2 hq, upd_at h_1 hq, upd_at h_0 hq, c2_eq t1 t2 q h1 h2 hq, sum_eq]
  have z0 : ((0 : Int32) < (3 : Int32)) = True := by decide
  have z1 : ((1 : Int32) < (3 : Int32)) = True := by decide
  have z2 : ((2 : Int32) < (3 : Int32)) = True := by decide
  have w1 : ((1 : Int32) = 0) = False := by decide
  have w0 : ((0 : Int32) = 0) = True := by simp
  simp only [z0, z1, z2, if_true, if_false]
  by_cases e0 : p0 = q <;> by_cases e1 : p1 = q <;> by_cases e2 : p2 = q <;> simp [e0, e1, e2, w1]
/-- what the total is: of the two slots, whatever was cleared -/
def TI (t1 t2 : Int32) (c : Nat → Int64) (tot : Int64) : Prop := tot = c t1.toNatClampNeg + (if t2 = t1 then 0 else c t2.toNatClampNeg) ∧ ∀ q, RG q → ¬ q = t1 → ¬ q = t2 → c q.toNatClampNeg = 0
theorem ti_start (t1 t2 : Int32) (u v : Int64) (h1 : RG t1) (h2 : RG t2) : TI t1 t2 (c2 t1 t2 u v) (0 + u + v) := by
  refine ⟨?_, fun q hq e1 e2 => by rw [c2_eq t1 t2 q h1 h2 hq, if_neg e1, if_neg e2]; rfl⟩
  rw [c2_eq t1 t2 t1 h1 h2 h1, c2_eq t1 t2 t2 h1 h2 h2, if_pos rfl, if_pos rfl]
  by_cases e : t2 = t1
  · rw [if_pos e, if_pos e.symm]; simp
  · rw [if_neg e, if_neg (fun q => e q.symm), if_neg e]; simp
theorem ti_step {t1 t2 p : Int32} {c : Nat → Int64} {tot : Int64} (h1 : RG t1) (h2 : RG t2) (hp : RG p) (T : TI t1 t2 c tot) : TI t1 t2 (upd c p.toNatClampNeg 0) (tot - c p.toNatClampNeg) := by
  obtain ⟨e, z⟩ := T
  refine ⟨?_, fun q hq n1 n2 => ?_⟩
  · rw [upd_at hp h1, upd_at hp h2, e]
    by_cases q1 : p = t1
    · subst q1
      rw [if_pos rfl]
      by_cases q2 : t2 = p
      · rw [if_pos q2, if_pos q2]; simp [Int64.sub_eq_add_neg, Int64.add_right_neg]
      · rw [if_neg q2, if_neg q2, if_neg (fun y => q2 y.symm)]
        rw [Int64.sub_eq_add_neg, Int64.add_comm (c p.toNatClampNeg), Int64.add_assoc, Int64.add_right_neg, Int64.add_zero, Int64.zero_add]
    · rw [if_neg q1]
      by_cases q2 : t2 = t1
      · rw [if_pos q2, if_pos q2]
        rw [z p hp q1 (by rw [q2]; exact q1), Int64.sub_zero]
      · rw [if_neg q2, if_neg q2]
        by_cases q3 : p = t2
        · subst q3
          rw [if_pos rfl, Int64.sub_eq_add_neg, Int64.add_assoc, Int64.add_right_neg]
        · rw [if_neg q3, z p hp q1 q3, Int64.sub_zero]
  · rw [upd_at hp hq]
    by_cases q1 : p = q
    · rw [if_pos q1]
    · rw [if_neg q1]; exact z q hq n1 n2
set_option maxRecDepth 65536 in
set_option maxHeartbeats 40000000 in
theorem j77_0 (l : Launch) (Z : State) (a0 : Array Value) (hw : Hw a0 Z) (n0 : Nat) (h : Heap) (O : Old Z n0 h) (a b c fl t1 t2 t3 p0 p1 p2 : Int32) (u v : Int64) (g1 : RG t1) (g2 : RG t2) (g3 : RG t3) (q0 : RG p0) (q1 : RG p1) (q2 : RG p2) :
    Go l Z x code maxLocals ret room_1 n0 (fun v _ => v = some (.int 1)) h 0 0 77 #[.val (.int a), .val (.int b), .val (.int c), .val (.long u), .second, .val (.long v), .second, .val (.int fl), .val (.int t1), .val (.int t2), .val (.int t3), .val (.int (0 : Int32)), .val (.int p0), .val (.int p1), .val (.int p2), .unset, .unset, .unset, .unset, .unset, .unset, .unset, .unset, .unset, .unset, .unset, .unset, .unset] [] := by
  refine Go.iload at_77 (q := 79) rfl rfl ?_
  refine Go.newarray (cap := 3) at_79 (q := 81) rfl (w0 hw) (by decide) (by decide) (by decide) (by decide) (by decide) ?_
  intro x0 r kr er Xr Ar0
  have nr : n0 ≤ r := new_le (O.1 ▸ O.2.1) er
  have O0 := O.ext Xr
  have A0 : Ar Z x0 r .int kr [] := Ar0
  refine Go.astore at_81 (q := 83) rfl rfl (Ls' := #[.val (.int a), .val (.int b), .val (.int c), .val (.long u), .second, .val (.long v), .second, .val (.int fl), .val (.int t1), .val (.int t2), .val (.int t3), .val (.int (0 : Int32)), .val (.int p0), .val (.int p1), .val (.int p2), .val (.ref r), .unset, .unset, .unset, .unset, .unset, .unset, .unset, .unset, .unset, .unset, .unset, .unset]) rfl ?_
  refine Go.iload at_83 (q := 85) rfl rfl ?_
  refine Go.if_le at_85 (q := 94) (q' := 88) (by decide) rfl rfl (fun _ => ?_) (fun c_ => absurd c_ (by decide))
  refine Go.iload at_94 (q := 96) rfl rfl ?_
  refine Go.iconst at_96 (q := 97) rfl (x := (1 : Int32)) (by decide) ?_
  refine Go.icmp_le at_97 (q := 106) (q' := 100) (by decide) rfl rfl (fun _ => ?_) (fun c_ => absurd c_ (by decide))
  refine Go.iload at_106 (q := 108) rfl rfl ?_
  refine Go.iconst at_108 (q := 109) rfl (x := (2 : Int32)) (by decide) ?_
  refine Go.icmp_le at_109 (q := 118) (q' := 112) (by decide) rfl rfl (fun _ => ?_) (fun c_ => absurd c_ (by decide))
  refine Go.new at_118 (q := 121) rfl (w1 hw) (w2 hw) (w3 hw) (by decide) (by decide) ?_
  intro y1 o e1 X1 E1 D1
  have no : n0 ≤ o := new_le (O0.1 ▸ O0.2.1) e1
  have B1 := A0.ext X1
  have ne : o ≠ r := Ne.symm (new_ne A0.lt e1)
  refine Go.dup at_121 (q := 122) rfl rfl ?_
  refine Go.callIN (P := fun h' => IK Z o y1 h' ∧ SK Z h' n0 o zeroC zeroC 0 0) (argsL := []) (rest := [(.ref o)]) (wd := 1) (Ls1 := #[.val (.ref o)]) at_122 (q := 125) rfl rfl (w4 hw) (w5 hw) (w3 hw) (w6 hw) (by decide) pn1 pd1 rfl rfl (fun m => by simp [entryFrame, mkF, argsToLocals, Value.category]) rfl (by decide) rfl (by decide) (by decide) (by decide) (sk_init l Z a0 hw n0 y1 o no E1 (D1 (Or.inr (w13 hw)) pT1) (D1 (Or.inr (w16 hw)) pT2) (D1 (Or.inl (w24 hw)) pT3) (D1 (Or.inl (w26 hw)) pT4) (Q := RN (fun h' => IK Z o y1 h' ∧ SK Z h' n0 o zeroC zeroC 0 0)) (fun h' i q => ⟨rfl, i, q⟩)) ?_
  rintro y2 ⟨i2, S2⟩
  have B2 := i2 _ _ _ ne B1
  refine Go.astore at_125 (q := 127) rfl rfl (Ls' := #[.val (.int a), .val (.int b), .val (.int c), .val (.long u), .second, .val (.long v), .second, .val (.int fl), .val (.int t1), .val (.int t2), .val (.int t3), .val (.int (0 : Int32)), .val (.int p0), .val (.int p1), .val (.int p2), .val (.ref r), .val (.ref o), .unset, .unset, .unset, .unset, .unset, .unset, .unset, .unset, .unset, .unset, .unset]) rfl ?_
  refine Go.aload at_127 (q := 129) rfl rfl rfl ?_
  refine Go.iload at_129 (q := 131) rfl rfl ?_
  refine Go.lloadN at_131 (q := 132) rfl rfl ?_
  refine Go.callVN (P := fun h' => IK Z o y2 h' ∧ SK Z h' n0 o (c1 t1 u) (chgN zeroC t1) (0 + u) (chsN zeroC t1 0)) (argsL := [(.int t1), (.long u)]) (rest := []) (wd := 0) (Ls1 := #[.val (.ref o), .val (.int t1), .val (.long u), .second, .unset, .unset, .unset]) at_132 (q := 135) rfl (w17 hw) (w18 hw) (w20 hw) (w19 hw) (w21 hw) (w3 hw) (by decide) pn3 pd3 rfl rfl S2.exa (fun m => by simp [entryFrame, mkF, argsToLocals, Value.category]) rfl (by decide) rfl (by decide) (by decide) (by decide) (sk_add l Z a0 hw n0 y2 o t1 g1 u S2 (Q := RN (fun h' => IK Z o y2 h' ∧ SK Z h' n0 o (c1 t1 u) (chgN zeroC t1) (0 + u) (chsN zeroC t1 0))) (fun h' i q => ⟨rfl, i, q⟩)) ?_
  rintro y3 ⟨i3, S3⟩
  have B3 := i3 _ _ _ ne B2
  refine Go.aload at_135 (q := 137) rfl rfl rfl ?_
  refine Go.iload at_137 (q := 139) rfl rfl ?_
  refine Go.lload at_139 (q := 141) rfl rfl ?_
  refine Go.callVN (P := fun h' => IK Z o y3 h' ∧ SK Z h' n0 o (c2 t1 t2 u v) (chgN (chgN zeroC t1) t2) (0 + u + v) (chsN (chgN zeroC t1) t2 (chsN zeroC t1 0))) (argsL := [(.int t2), (.long v)]) (rest := []) (wd := 0) (Ls1 := #[.val (.ref o), .val (.int t2), .val (.long v), .second, .unset, .unset, .unset]) at_141 (q := 144) rfl (w17 hw) (w18 hw) (w20 hw) (w19 hw) (w21 hw) (w3 hw) (by decide) pn3 pd3 rfl rfl S3.exa (fun m => by simp [entryFrame, mkF, argsToLocals, Value.category]) rfl (by decide) rfl (by decide) (by decide) (by decide) (sk_add l Z a0 hw n0 y3 o t2 g2 v S3 (Q := RN (fun h' => IK Z o y3 h' ∧ SK Z h' n0 o (c2 t1 t2 u v) (chgN (chgN zeroC t1) t2) (0 + u + v) (chsN (chgN zeroC t1) t2 (chsN zeroC t1 0)))) (fun h' i q => ⟨rfl, i, q⟩)) ?_
  rintro y4 ⟨i4, S4⟩
  have B4 := i4 _ _ _ ne B3
  refine Go.aload at_144 (q := 146) rfl rfl rfl ?_
  refine Go.aload at_146 (q := 148) rfl rfl rfl ?_
  refine Go.callVN (P := fun h' => SK Z h' n0 o (c2 t1 t2 u v) (chgN (chgN zeroC t1) t2) (0 + u + v) (chsN (chgN zeroC t1) t2 (chsN zeroC t1 0))) (argsL := [(.ref r)]) (rest := []) (wd := 0) (Ls1 := #[.val (.ref o), .val (.ref r), .unset, .unset, .unset, .unset, .unset]) at_148 (q := 151) rfl (w27 hw) (w28 hw) (w30 hw) (w29 hw) (w31 hw) (w3 hw) (by decide) pn4 pd4 rfl rfl S4.exa (fun m => by simp [entryFrame, mkF, argsToLocals, Value.category]) rfl (by decide) rfl (by decide) (by decide) (by decide) (clr0 l Z a0 hw n0 y4   S4 B4 ne (Q := RN (fun h' => SK Z h' n0 o (c2 t1 t2 u v) (chgN (chgN zeroC t1) t2) (0 + u + v) (chsN (chgN zeroC t1) t2 (chsN zeroC t1 0)))) (fun h' q => ⟨rfl, q⟩)) ?_
  intro y5 S5
  have T5 := ti_start t1 t2 u v g1 g2
  refine Go.iload at_151 (q := 153) rfl rfl ?_
  refine Go.iload at_153 (q := 155) rfl rfl ?_
  refine Go.iload at_155 (q := 157) rfl rfl ?_
  refine Go.lloadN at_157 (q := 158) rfl rfl ?_
  refine Go.lload at_158 (q := 160) rfl rfl ?_
  refine Go.iload at_160 (q := 162) rfl rfl ?_
  refine Go.iload at_162 (q := 164) rfl rfl ?_
  refine Go.iload at_164 (q := 166) rfl rfl ?_
  refine Go.iload at_166 (q := 168) rfl rfl ?_
  refine Go.callSV (P := fun w h' => w = .long (afF t1 t1 t2 u v (0 : Int32) p0 p1 p2) ∧ y5 = h') (argsL := [(.int t1), (.int t1), (.int t2), (.long u), (.long v), (.int (0 : Int32)), (.int p0), (.int p1), (.int p2)]) (rest := []) (wd := 0) (Ls1 := #[.val (.int t1), .val (.int t1), .val (.int t2), .val (.long u), .second, .val (.long v), .second, .val (.int (0 : Int32)), .val (.int p0), .val (.int p1), .val (.int p2), .unset, .unset]) at_168 (q := 171) rfl (w32 hw) (w33 hw) (w34 hw) (w35 hw) (by decide) pn5 pd5 rfl rfl (fun m => by simp [entryFrame, mkF, argsToLocals, Value.category]) rfl (by decide) rfl (by decide) (by decide) (by decide) (b5 l Z a0 hw n0 y5 t1 t1 t2 u v (0 : Int32) p0 p1 p2 (Q := RV (fun w h' => w = .long (afF t1 t1 t2 u v (0 : Int32) p0 p1 p2) ∧ y5 = h')) ⟨_, rfl, rfl, rfl⟩) ?_
  rintro _ _ ⟨rfl, rfl⟩
  refine Go.lstore at_171 (q := 173) rfl (Ls' := #[.val (.int a), .val (.int b), .val (.int c), .val (.long u), .second, .val (.long v), .second, .val (.int fl), .val (.int t1), .val (.int t2), .val (.int t3), .val (.int (0 : Int32)), .val (.int p0), .val (.int p1), .val (.int p2), .val (.ref r), .val (.ref o), .val (.long (afF t1 t1 t2 u v (0 : Int32) p0 p1 p2)), .second, .unset, .unset, .unset, .unset, .unset, .unset, .unset, .unset, .unset]) rfl ?_
  refine Go.iload at_173 (q := 175) rfl rfl ?_
  refine Go.iload at_175 (q := 177) rfl rfl ?_
  refine Go.iload at_177 (q := 179) rfl rfl ?_
  refine Go.lloadN at_179 (q := 180) rfl rfl ?_
  refine Go.lload at_180 (q := 182) rfl rfl ?_
  refine Go.iload at_182 (q := 184) rfl rfl ?_
  refine Go.iload at_184 (q := 186) rfl rfl ?_
  refine Go.iload at_186 (q := 188) rfl rfl ?_
  refine Go.iload at_188 (q := 190) rfl rfl ?_
  refine Go.callSV (P := fun w h' => w = .long (afF t2 t1 t2 u v (0 : Int32) p0 p1 p2) ∧ y5 = h') (argsL := [(.int t2), (.int t1), (.int t2), (.long u), (.long v), (.int (0 : Int32)), (.int p0), (.int p1), (.int p2)]) (rest := []) (wd := 0) (Ls1 := #[.val (.int t2), .val (.int t1), .val (.int t2), .val (.long u), .second, .val (.long v), .second, .val (.int (0 : Int32)), .val (.int p0), .val (.int p1), .val (.int p2), .unset, .unset]) at_190 (q := 193) rfl (w32 hw) (w33 hw) (w34 hw) (w35 hw) (by decide) pn5 pd5 rfl rfl (fun m => by simp [entryFrame, mkF, argsToLocals, Value.category]) rfl (by decide) rfl (by decide) (by decide) (by decide) (b5 l Z a0 hw n0 y5 t2 t1 t2 u v (0 : Int32) p0 p1 p2 (Q := RV (fun w h' => w = .long (afF t2 t1 t2 u v (0 : Int32) p0 p1 p2) ∧ y5 = h')) ⟨_, rfl, rfl, rfl⟩) ?_
  rintro _ _ ⟨rfl, rfl⟩
  refine Go.lstore at_193 (q := 195) rfl (Ls' := #[.val (.int a), .val (.int b), .val (.int c), .val (.long u), .second, .val (.long v), .second, .val (.int fl), .val (.int t1), .val (.int t2), .val (.int t3), .val (.int (0 : Int32)), .val (.int p0), .val (.int p1), .val (.int p2), .val (.ref r), .val (.ref o), .val (.long (afF t1 t1 t2 u v (0 : Int32) p0 p1 p2)), .second, .val (.long (afF t2 t1 t2 u v (0 : Int32) p0 p1 p2)), .second, .unset, .unset, .unset, .unset, .unset, .unset, .unset]) rfl ?_
  refine Go.iload at_195 (q := 197) rfl rfl ?_
  refine Go.iload at_197 (q := 199) rfl rfl ?_
  refine Go.iload at_199 (q := 201) rfl rfl ?_
  refine Go.lloadN at_201 (q := 202) rfl rfl ?_
  refine Go.lload at_202 (q := 204) rfl rfl ?_
  refine Go.iload at_204 (q := 206) rfl rfl ?_
  refine Go.iload at_206 (q := 208) rfl rfl ?_
  refine Go.iload at_208 (q := 210) rfl rfl ?_
  refine Go.iload at_210 (q := 212) rfl rfl ?_
  refine Go.callSV (P := fun w h' => w = .long (afF t3 t1 t2 u v (0 : Int32) p0 p1 p2) ∧ y5 = h') (argsL := [(.int t3), (.int t1), (.int t2), (.long u), (.long v), (.int (0 : Int32)), (.int p0), (.int p1), (.int p2)]) (rest := []) (wd := 0) (Ls1 := #[.val (.int t3), .val (.int t1), .val (.int t2), .val (.long u), .second, .val (.long v), .second, .val (.int (0 : Int32)), .val (.int p0), .val (.int p1), .val (.int p2), .unset, .unset]) at_212 (q := 215) rfl (w32 hw) (w33 hw) (w34 hw) (w35 hw) (by decide) pn5 pd5 rfl rfl (fun m => by simp [entryFrame, mkF, argsToLocals, Value.category]) rfl (by decide) rfl (by decide) (by decide) (by decide) (b5 l Z a0 hw n0 y5 t3 t1 t2 u v (0 : Int32) p0 p1 p2 (Q := RV (fun w h' => w = .long (afF t3 t1 t2 u v (0 : Int32) p0 p1 p2) ∧ y5 = h')) ⟨_, rfl, rfl, rfl⟩) ?_
  rintro _ _ ⟨rfl, rfl⟩
  refine Go.lstore at_215 (q := 217) rfl (Ls' := #[.val (.int a), .val (.int b), .val (.int c), .val (.long u), .second, .val (.long v), .second, .val (.int fl), .val (.int t1), .val (.int t2), .val (.int t3), .val (.int (0 : Int32)), .val (.int p0), .val (.int p1), .val (.int p2), .val (.ref r), .val (.ref o), .val (.long (afF t1 t1 t2 u v (0 : Int32) p0 p1 p2)), .second, .val (.long (afF t2 t1 t2 u v (0 : Int32) p0 p1 p2)), .second, .val (.long (afF t3 t1 t2 u v (0 : Int32) p0 p1 p2)), .second, .unset, .unset, .unset, .unset, .unset]) rfl ?_
  refine Go.lload at_217 (q := 219) rfl rfl ?_
  refine Go.iload at_219 (q := 221) rfl rfl ?_
  refine Go.iload at_221 (q := 223) rfl rfl ?_
  refine Go.icmp_eq at_223 (q := 231) (q' := 226) (by decide) rfl rfl (fun c53 => ?_) (fun c53 => ?_)
  · skip
    refine Go.lconst at_231 (q := 232) rfl (x := (0 : Int64)) (by decide) ?_
    refine Go.ladd at_232 (q := 233) rfl ?_
    refine Go.lstore at_233 (q := 235) rfl (Ls' := #[.val (.int a), .val (.int b), .val (.int c), .val (.long u), .second, .val (.long v), .second, .val (.int fl), .val (.int t1), .val (.int t2), .val (.int t3), .val (.int (0 : Int32)), .val (.int p0), .val (.int p1), .val (.int p2), .val (.ref r), .val (.ref o), .val (.long (afF t1 t1 t2 u v (0 : Int32) p0 p1 p2)), .second, .val (.long (afF t2 t1 t2 u v (0 : Int32) p0 p1 p2)), .second, .val (.long (afF t3 t1 t2 u v (0 : Int32) p0 p1 p2)), .second, .val (.long ((afF t1 t1 t2 u v (0 : Int32) p0 p1 p2) + (0 : Int64))), .second, .unset, .unset, .unset]) rfl ?_
    refine Go.aload at_235 (q := 237) rfl rfl rfl ?_
    refine Go.iload at_237 (q := 239) rfl rfl ?_
    refine Go.callVV (P := fun w h' => w = .long ((c2 t1 t2 u v) t1.toNatClampNeg) ∧ y5 = h') (argsL := [(.int t1)]) (rest := []) (wd := 0) (Ls1 := #[.val (.ref o), .val (.int t1), .unset]) at_239 (q := 242) rfl (w39 hw) (w40 hw) (w42 hw) (w41 hw) (w43 hw) (w3 hw) (by decide) pn7 pd7 rfl rfl S5.exa (fun m => by simp [entryFrame, mkF, argsToLocals, Value.category]) rfl (by decide) rfl (by decide) (by decide) (by decide) (sk_of l Z a0 hw n0 y5 o t1 g1 S5 (Q := RV (fun w h' => w = .long ((c2 t1 t2 u v) t1.toNatClampNeg) ∧ y5 = h')) ⟨_, rfl, rfl, rfl⟩) ?_
    rintro _ _ ⟨rfl, rfl⟩
    refine Go.lload at_242 (q := 244) rfl rfl ?_
    refine Go.lcmp at_244 (q := 245) rfl ?_
    refine Go.lif_ne at_245 (q := 289) (q' := 248) (by decide) rfl rfl (fun c_ => absurd (af0 t1 t2 t1 p0 p1 p2 u v g1 g2 g1 q0 q1 q2) c_) (fun _ => ?_)
    refine Go.aload at_248 (q := 250) rfl rfl rfl ?_
    refine Go.iload at_250 (q := 252) rfl rfl ?_
    refine Go.callVV (P := fun w h' => w = .long ((c2 t1 t2 u v) t2.toNatClampNeg) ∧ y5 = h') (argsL := [(.int t2)]) (rest := []) (wd := 0) (Ls1 := #[.val (.ref o), .val (.int t2), .unset]) at_252 (q := 255) rfl (w39 hw) (w40 hw) (w42 hw) (w41 hw) (w43 hw) (w3 hw) (by decide) pn7 pd7 rfl rfl S5.exa (fun m => by simp [entryFrame, mkF, argsToLocals, Value.category]) rfl (by decide) rfl (by decide) (by decide) (by decide) (sk_of l Z a0 hw n0 y5 o t2 g2 S5 (Q := RV (fun w h' => w = .long ((c2 t1 t2 u v) t2.toNatClampNeg) ∧ y5 = h')) ⟨_, rfl, rfl, rfl⟩) ?_
    rintro _ _ ⟨rfl, rfl⟩
    refine Go.lload at_255 (q := 257) rfl rfl ?_
    refine Go.lcmp at_257 (q := 258) rfl ?_
    refine Go.lif_ne at_258 (q := 289) (q' := 261) (by decide) rfl rfl (fun c_ => absurd (af0 t1 t2 t2 p0 p1 p2 u v g1 g2 g2 q0 q1 q2) c_) (fun _ => ?_)
    refine Go.aload at_261 (q := 263) rfl rfl rfl ?_
    refine Go.iload at_263 (q := 265) rfl rfl ?_
    refine Go.callVV (P := fun w h' => w = .long ((c2 t1 t2 u v) t3.toNatClampNeg) ∧ y5 = h') (argsL := [(.int t3)]) (rest := []) (wd := 0) (Ls1 := #[.val (.ref o), .val (.int t3), .unset]) at_265 (q := 268) rfl (w39 hw) (w40 hw) (w42 hw) (w41 hw) (w43 hw) (w3 hw) (by decide) pn7 pd7 rfl rfl S5.exa (fun m => by simp [entryFrame, mkF, argsToLocals, Value.category]) rfl (by decide) rfl (by decide) (by decide) (by decide) (sk_of l Z a0 hw n0 y5 o t3 g3 S5 (Q := RV (fun w h' => w = .long ((c2 t1 t2 u v) t3.toNatClampNeg) ∧ y5 = h')) ⟨_, rfl, rfl, rfl⟩) ?_
    rintro _ _ ⟨rfl, rfl⟩
    refine Go.lload at_268 (q := 270) rfl rfl ?_
    refine Go.lcmp at_270 (q := 271) rfl ?_
    refine Go.lif_ne at_271 (q := 289) (q' := 274) (by decide) rfl rfl (fun c_ => absurd (af0 t1 t2 t3 p0 p1 p2 u v g1 g2 g3 q0 q1 q2) c_) (fun _ => ?_)
    refine Go.aload at_274 (q := 276) rfl rfl rfl ?_
    refine Go.callVV (P := fun w h' => w = .long (0 + u + v) ∧ y5 = h') (argsL := []) (rest := []) (wd := 0) (Ls1 := #[.val (.ref o)]) at_276 (q := 279) rfl (w44 hw) (w45 hw) (w47 hw) (w46 hw) (w48 hw) (w3 hw) (by decide) pn8 pd8 rfl rfl S5.exa (fun m => by simp [entryFrame, mkF, argsToLocals, Value.category]) rfl (by decide) rfl (by decide) (by decide) (by decide) (sk_total l Z a0 hw n0 y5 o S5 (Q := RV (fun w h' => w = .long (0 + u + v) ∧ y5 = h')) ⟨_, rfl, rfl, rfl⟩) ?_
    rintro _ _ ⟨rfl, rfl⟩
    refine Go.lload at_279 (q := 281) rfl rfl ?_
    refine Go.lcmp at_281 (q := 282) rfl ?_
    refine Go.lif_ne at_282 (q := 289) (q' := 285) (by decide) rfl rfl (fun c_ => absurd (by rw [T5.1, (af0 t1 t2 t1 p0 p1 p2 u v g1 g2 g1 q0 q1 q2), (af0 t1 t2 t2 p0 p1 p2 u v g1 g2 g2 q0 q1 q2), if_pos c53]) c_) (fun _ => ?_)
    refine Go.iconst at_285 (q := 286) rfl (x := (1 : Int32)) (by decide) ?_
    refine Go.goto at_286 (q := 290) (by decide) rfl ?_
    refine Go.istore at_290 (q := 292) rfl (Ls' := #[.val (.int a), .val (.int b), .val (.int c), .val (.long u), .second, .val (.long v), .second, .val (.int fl), .val (.int t1), .val (.int t2), .val (.int t3), .val (.int (0 : Int32)), .val (.int p0), .val (.int p1), .val (.int p2), .val (.ref r), .val (.ref o), .val (.long (afF t1 t1 t2 u v (0 : Int32) p0 p1 p2)), .second, .val (.long (afF t2 t1 t2 u v (0 : Int32) p0 p1 p2)), .second, .val (.long (afF t3 t1 t2 u v (0 : Int32) p0 p1 p2)), .second, .val (.long ((afF t1 t1 t2 u v (0 : Int32) p0 p1 p2) + (0 : Int64))), .second, .val (.int (1 : Int32)), .unset, .unset]) rfl ?_
    refine Go.aload at_292 (q := 294) rfl rfl rfl ?_
    refine Go.callVV (P := fun w h' => ∃ r kr, w = .ref r ∧ Ar Z h' r .int kr (two t1 t2)) (argsL := []) (rest := []) (wd := 0) (Ls1 := #[.val (.ref o), .unset, .unset, .unset, .unset, .unset]) at_294 (q := 297) rfl (w49 hw) (w50 hw) (w52 hw) (w51 hw) (w53 hw) (w3 hw) (by decide) pn9 pd9 rfl rfl S5.exa (fun m => by simp [entryFrame, mkF, argsToLocals, Value.category]) rfl (by decide) rfl (by decide) (by decide) (by decide) (sk_take l Z a0 hw n0 y5 o t1 t2 g1 g2 S5 (Q := RV (fun w h' => ∃ r kr, w = .ref r ∧ Ar Z h' r .int kr (two t1 t2))) (fun h' r kr q => ⟨_, rfl, r, kr, rfl, q⟩)) ?_
    rintro _ y6 ⟨r2, kr2, rfl, A5⟩
    refine Go.astore at_297 (q := 299) rfl rfl (Ls' := #[.val (.int a), .val (.int b), .val (.int c), .val (.long u), .second, .val (.long v), .second, .val (.int fl), .val (.int t1), .val (.int t2), .val (.int t3), .val (.int (0 : Int32)), .val (.int p0), .val (.int p1), .val (.int p2), .val (.ref r), .val (.ref o), .val (.long (afF t1 t1 t2 u v (0 : Int32) p0 p1 p2)), .second, .val (.long (afF t2 t1 t2 u v (0 : Int32) p0 p1 p2)), .second, .val (.long (afF t3 t1 t2 u v (0 : Int32) p0 p1 p2)), .second, .val (.long ((afF t1 t1 t2 u v (0 : Int32) p0 p1 p2) + (0 : Int64))), .second, .val (.int (1 : Int32)), .val (.ref r2), .unset]) rfl ?_
    by_cases heq : t1 = t2
    · skip
      have A6 : Ar Z y6 r2 .int kr2 [.int t1] := by have q := A5; unfold two at q; rw [if_pos heq] at q; exact q
      refine Go.iload at_299 (q := 301) rfl rfl ?_
      refine Go.iload at_301 (q := 303) rfl rfl ?_
      refine Go.icmp_ne at_303 (q := 332) (q' := 306) (by decide) rfl rfl (fun c_ => absurd heq c_) (fun _ => ?_)
      refine Go.aload at_306 (q := 308) rfl rfl rfl ?_
      refine Go.arraylength at_308 (q := 309) rfl A6 (z := 1) rfl ?_
      refine Go.iconst at_309 (q := 310) rfl (x := (1 : Int32)) (by decide) ?_
      refine Go.icmp_ne at_310 (q := 326) (q' := 313) (by decide) rfl rfl (fun c_ => absurd (by decide) c_) (fun _ => ?_)
      refine Go.aload at_313 (q := 315) rfl rfl rfl ?_
      refine Go.iconst at_315 (q := 316) rfl (x := (0 : Int32)) (by decide) ?_
      refine Go.iaload at_316 (q := 317) rfl A6 (by decide) rfl ?_
      refine Go.iload at_317 (q := 319) rfl rfl ?_
      refine Go.icmp_ne at_319 (q := 326) (q' := 322) (by decide) rfl rfl (fun c_ => absurd rfl c_) (fun _ => ?_)
      refine Go.iconst at_322 (q := 323) rfl (x := (1 : Int32)) (by decide) ?_
      refine Go.goto at_323 (q := 327) (by decide) rfl ?_
      refine Go.istore at_327 (q := 329) rfl (Ls' := #[.val (.int a), .val (.int b), .val (.int c), .val (.long u), .second, .val (.long v), .second, .val (.int fl), .val (.int t1), .val (.int t2), .val (.int t3), .val (.int (0 : Int32)), .val (.int p0), .val (.int p1), .val (.int p2), .val (.ref r), .val (.ref o), .val (.long (afF t1 t1 t2 u v (0 : Int32) p0 p1 p2)), .second, .val (.long (afF t2 t1 t2 u v (0 : Int32) p0 p1 p2)), .second, .val (.long (afF t3 t1 t2 u v (0 : Int32) p0 p1 p2)), .second, .val (.long ((afF t1 t1 t2 u v (0 : Int32) p0 p1 p2) + (0 : Int64))), .second, .val (.int (1 : Int32)), .val (.ref r2), .val (.int (1 : Int32))]) rfl ?_
      refine Go.goto at_329 (q := 374) (by decide) rfl ?_
      refine Go.iload at_374 (q := 376) rfl rfl ?_
      refine Go.if_eq at_376 (q := 388) (q' := 379) (by decide) rfl rfl (fun c_ => absurd c_ (by decide)) (fun _ => ?_)
      refine Go.iload at_379 (q := 381) rfl rfl ?_
      refine Go.if_eq at_381 (q := 388) (q' := 384) (by decide) rfl rfl (fun c_ => absurd c_ (by decide)) (fun _ => ?_)
      refine Go.iconst at_384 (q := 385) rfl (x := (1 : Int32)) (by decide) ?_
      refine Go.goto at_385 (q := 389) (by decide) rfl ?_
      refine Go.zreturn at_389 (by decide) (by decide) (by decide) ?_
      rfl
    · skip
      by_cases hlt : t1 < t2
      · skip
        have A6 : Ar Z y6 r2 .int kr2 [.int t1, .int t2] := by have q := A5; unfold two at q; rw [if_neg heq, if_pos hlt] at q; exact q
        have m1 : t1 = minF t1 t2 := by unfold minF; rw [if_neg (fun q => by rw [Int32.lt_iff_toInt_lt] at hlt q; omega)]
        have m2 : t2 = maxF t1 t2 := by unfold maxF; rw [if_pos hlt]
        refine Go.iload at_299 (q := 301) rfl rfl ?_
        refine Go.iload at_301 (q := 303) rfl rfl ?_
        refine Go.icmp_ne at_303 (q := 332) (q' := 306) (by decide) rfl rfl (fun _ => ?_) (fun c_ => absurd c_ heq)
        refine Go.aload at_332 (q := 334) rfl rfl rfl ?_
        refine Go.arraylength at_334 (q := 335) rfl A6 (z := 2) rfl ?_
        refine Go.iconst at_335 (q := 336) rfl (x := (2 : Int32)) (by decide) ?_
        refine Go.icmp_ne at_336 (q := 371) (q' := 339) (by decide) rfl rfl (fun c_ => absurd (by decide) c_) (fun _ => ?_)
        refine Go.aload at_339 (q := 341) rfl rfl rfl ?_
        refine Go.iconst at_341 (q := 342) rfl (x := (0 : Int32)) (by decide) ?_
        refine Go.iaload at_342 (q := 343) rfl A6 (by decide) rfl ?_
        refine Go.iload at_343 (q := 345) rfl rfl ?_
        refine Go.iload at_345 (q := 347) rfl rfl ?_
        refine Go.callSV (P := fun w h' => w = .int (minF t1 t2) ∧ y6 = h') (argsL := [(.int t1), (.int t2)]) (rest := [(.int t1)]) (wd := 1) (Ls1 := #[.val (.int t1), .val (.int t2)]) at_347 (q := 350) rfl (w63 hw) (w64 hw) (w65 hw) (w66 hw) (by decide) pn12 pd12 rfl rfl (fun m => by simp [entryFrame, mkF, argsToLocals, Value.category]) rfl (by decide) rfl (by decide) (by decide) (by decide) (b12 l Z a0 hw n0 y6 t1 t2 (Q := RV (fun w h' => w = .int (minF t1 t2) ∧ y6 = h')) ⟨_, rfl, rfl, rfl⟩) ?_
        rintro _ _ ⟨rfl, rfl⟩
        refine Go.icmp_ne at_350 (q := 371) (q' := 353) (by decide) rfl rfl (fun c_ => absurd m1 c_) (fun _ => ?_)
        refine Go.aload at_353 (q := 355) rfl rfl rfl ?_
        refine Go.iconst at_355 (q := 356) rfl (x := (1 : Int32)) (by decide) ?_
        refine Go.iaload at_356 (q := 357) rfl A6 (by decide) rfl ?_
        refine Go.iload at_357 (q := 359) rfl rfl ?_
        refine Go.iload at_359 (q := 361) rfl rfl ?_
        refine Go.callSV (P := fun w h' => w = .int (maxF t1 t2) ∧ y6 = h') (argsL := [(.int t1), (.int t2)]) (rest := [(.int t2)]) (wd := 1) (Ls1 := #[.val (.int t1), .val (.int t2)]) at_361 (q := 364) rfl (w67 hw) (w68 hw) (w65 hw) (w69 hw) (by decide) pn13 pd13 rfl rfl (fun m => by simp [entryFrame, mkF, argsToLocals, Value.category]) rfl (by decide) rfl (by decide) (by decide) (by decide) (b13 l Z a0 hw n0 y6 t1 t2 (Q := RV (fun w h' => w = .int (maxF t1 t2) ∧ y6 = h')) ⟨_, rfl, rfl, rfl⟩) ?_
        rintro _ _ ⟨rfl, rfl⟩
        refine Go.icmp_ne at_364 (q := 371) (q' := 367) (by decide) rfl rfl (fun c_ => absurd m2 c_) (fun _ => ?_)
        refine Go.iconst at_367 (q := 368) rfl (x := (1 : Int32)) (by decide) ?_
        refine Go.goto at_368 (q := 372) (by decide) rfl ?_
        refine Go.istore at_372 (q := 374) rfl (Ls' := #[.val (.int a), .val (.int b), .val (.int c), .val (.long u), .second, .val (.long v), .second, .val (.int fl), .val (.int t1), .val (.int t2), .val (.int t3), .val (.int (0 : Int32)), .val (.int p0), .val (.int p1), .val (.int p2), .val (.ref r), .val (.ref o), .val (.long (afF t1 t1 t2 u v (0 : Int32) p0 p1 p2)), .second, .val (.long (afF t2 t1 t2 u v (0 : Int32) p0 p1 p2)), .second, .val (.long (afF t3 t1 t2 u v (0 : Int32) p0 p1 p2)), .second, .val (.long ((afF t1 t1 t2 u v (0 : Int32) p0 p1 p2) + (0 : Int64))), .second, .val (.int (1 : Int32)), .val (.ref r2), .val (.int (1 : Int32))]) rfl ?_
        refine Go.iload at_374 (q := 376) rfl rfl ?_
        refine Go.if_eq at_376 (q := 388) (q' := 379) (by decide) rfl rfl (fun c_ => absurd c_ (by decide)) (fun _ => ?_)
        refine Go.iload at_379 (q := 381) rfl rfl ?_
        refine Go.if_eq at_381 (q := 388) (q' := 384) (by decide) rfl rfl (fun c_ => absurd c_ (by decide)) (fun _ => ?_)
        refine Go.iconst at_384 (q := 385) rfl (x := (1 : Int32)) (by decide) ?_
        refine Go.goto at_385 (q := 389) (by decide) rfl ?_
        refine Go.zreturn at_389 (by decide) (by decide) (by decide) ?_
        rfl
      · skip
        have A6 : Ar Z y6 r2 .int kr2 [.int t2, .int t1] := by have q := A5; unfold two at q; rw [if_neg heq, if_neg hlt] at q; exact q
        have hgt : t2 < t1 := by rw [Int32.lt_iff_toInt_lt] at hlt ⊢; have q := heq; rw [← Int32.toInt_inj] at q; omega
        have m1 : t2 = minF t1 t2 := by unfold minF; rw [if_pos hgt]
        have m2 : t1 = maxF t1 t2 := by unfold maxF; rw [if_neg hlt]
        refine Go.iload at_299 (q := 301) rfl rfl ?_
        refine Go.iload at_301 (q := 303) rfl rfl ?_
        refine Go.icmp_ne at_303 (q := 332) (q' := 306) (by decide) rfl rfl (fun _ => ?_) (fun c_ => absurd c_ heq)
        refine Go.aload at_332 (q := 334) rfl rfl rfl ?_
        refine Go.arraylength at_334 (q := 335) rfl A6 (z := 2) rfl ?_
        refine Go.iconst at_335 (q := 336) rfl (x := (2 : Int32)) (by decide) ?_
        refine Go.icmp_ne at_336 (q := 371) (q' := 339) (by decide) rfl rfl (fun c_ => absurd (by decide) c_) (fun _ => ?_)
        refine Go.aload at_339 (q := 341) rfl rfl rfl ?_
        refine Go.iconst at_341 (q := 342) rfl (x := (0 : Int32)) (by decide) ?_
        refine Go.iaload at_342 (q := 343) rfl A6 (by decide) rfl ?_
        refine Go.iload at_343 (q := 345) rfl rfl ?_
        refine Go.iload at_345 (q := 347) rfl rfl ?_
        refine Go.callSV (P := fun w h' => w = .int (minF t1 t2) ∧ y6 = h') (argsL := [(.int t1), (.int t2)]) (rest := [(.int t2)]) (wd := 1) (Ls1 := #[.val (.int t1), .val (.int t2)]) at_347 (q := 350) rfl (w63 hw) (w64 hw) (w65 hw) (w66 hw) (by decide) pn12 pd12 rfl rfl (fun m => by simp [entryFrame, mkF, argsToLocals, Value.category]) rfl (by decide) rfl (by decide) (by decide) (by decide) (b12 l Z a0 hw n0 y6 t1 t2 (Q := RV (fun w h' => w = .int (minF t1 t2) ∧ y6 = h')) ⟨_, rfl, rfl, rfl⟩) ?_
        rintro _ _ ⟨rfl, rfl⟩
        refine Go.icmp_ne at_350 (q := 371) (q' := 353) (by decide) rfl rfl (fun c_ => absurd m1 c_) (fun _ => ?_)
        refine Go.aload at_353 (q := 355) rfl rfl rfl ?_
        refine Go.iconst at_355 (q := 356) rfl (x := (1 : Int32)) (by decide) ?_
        refine Go.iaload at_356 (q := 357) rfl A6 (by decide) rfl ?_
        refine Go.iload at_357 (q := 359) rfl rfl ?_
        refine Go.iload at_359 (q := 361) rfl rfl ?_
        refine Go.callSV (P := fun w h' => w = .int (maxF t1 t2) ∧ y6 = h') (argsL := [(.int t1), (.int t2)]) (rest := [(.int t1)]) (wd := 1) (Ls1 := #[.val (.int t1), .val (.int t2)]) at_361 (q := 364) rfl (w67 hw) (w68 hw) (w65 hw) (w69 hw) (by decide) pn13 pd13 rfl rfl (fun m => by simp [entryFrame, mkF, argsToLocals, Value.category]) rfl (by decide) rfl (by decide) (by decide) (by decide) (b13 l Z a0 hw n0 y6 t1 t2 (Q := RV (fun w h' => w = .int (maxF t1 t2) ∧ y6 = h')) ⟨_, rfl, rfl, rfl⟩) ?_
        rintro _ _ ⟨rfl, rfl⟩
        refine Go.icmp_ne at_364 (q := 371) (q' := 367) (by decide) rfl rfl (fun c_ => absurd m2 c_) (fun _ => ?_)
        refine Go.iconst at_367 (q := 368) rfl (x := (1 : Int32)) (by decide) ?_
        refine Go.goto at_368 (q := 372) (by decide) rfl ?_
        refine Go.istore at_372 (q := 374) rfl (Ls' := #[.val (.int a), .val (.int b), .val (.int c), .val (.long u), .second, .val (.long v), .second, .val (.int fl), .val (.int t1), .val (.int t2), .val (.int t3), .val (.int (0 : Int32)), .val (.int p0), .val (.int p1), .val (.int p2), .val (.ref r), .val (.ref o), .val (.long (afF t1 t1 t2 u v (0 : Int32) p0 p1 p2)), .second, .val (.long (afF t2 t1 t2 u v (0 : Int32) p0 p1 p2)), .second, .val (.long (afF t3 t1 t2 u v (0 : Int32) p0 p1 p2)), .second, .val (.long ((afF t1 t1 t2 u v (0 : Int32) p0 p1 p2) + (0 : Int64))), .second, .val (.int (1 : Int32)), .val (.ref r2), .val (.int (1 : Int32))]) rfl ?_
        refine Go.iload at_374 (q := 376) rfl rfl ?_
        refine Go.if_eq at_376 (q := 388) (q' := 379) (by decide) rfl rfl (fun c_ => absurd c_ (by decide)) (fun _ => ?_)
        refine Go.iload at_379 (q := 381) rfl rfl ?_
        refine Go.if_eq at_381 (q := 388) (q' := 384) (by decide) rfl rfl (fun c_ => absurd c_ (by decide)) (fun _ => ?_)
        refine Go.iconst at_384 (q := 385) rfl (x := (1 : Int32)) (by decide) ?_
        refine Go.goto at_385 (q := 389) (by decide) rfl ?_
        refine Go.zreturn at_389 (by decide) (by decide) (by decide) ?_
        rfl
  · skip
    refine Go.lload at_226 (q := 228) rfl rfl ?_
    refine Go.goto at_228 (q := 232) (by decide) rfl ?_
    refine Go.ladd at_232 (q := 233) rfl ?_
    refine Go.lstore at_233 (q := 235) rfl (Ls' := #[.val (.int a), .val (.int b), .val (.int c), .val (.long u), .second, .val (.long v), .second, .val (.int fl), .val (.int t1), .val (.int t2), .val (.int t3), .val (.int (0 : Int32)), .val (.int p0), .val (.int p1), .val (.int p2), .val (.ref r), .val (.ref o), .val (.long (afF t1 t1 t2 u v (0 : Int32) p0 p1 p2)), .second, .val (.long (afF t2 t1 t2 u v (0 : Int32) p0 p1 p2)), .second, .val (.long (afF t3 t1 t2 u v (0 : Int32) p0 p1 p2)), .second, .val (.long ((afF t1 t1 t2 u v (0 : Int32) p0 p1 p2) + (afF t2 t1 t2 u v (0 : Int32) p0 p1 p2))), .second, .unset, .unset, .unset]) rfl ?_
    refine Go.aload at_235 (q := 237) rfl rfl rfl ?_
    refine Go.iload at_237 (q := 239) rfl rfl ?_
    refine Go.callVV (P := fun w h' => w = .long ((c2 t1 t2 u v) t1.toNatClampNeg) ∧ y5 = h') (argsL := [(.int t1)]) (rest := []) (wd := 0) (Ls1 := #[.val (.ref o), .val (.int t1), .unset]) at_239 (q := 242) rfl (w39 hw) (w40 hw) (w42 hw) (w41 hw) (w43 hw) (w3 hw) (by decide) pn7 pd7 rfl rfl S5.exa (fun m => by simp [entryFrame, mkF, argsToLocals, Value.category]) rfl (by decide) rfl (by decide) (by decide) (by decide) (sk_of l Z a0 hw n0 y5 o t1 g1 S5 (Q := RV (fun w h' => w = .long ((c2 t1 t2 u v) t1.toNatClampNeg) ∧ y5 = h')) ⟨_, rfl, rfl, rfl⟩) ?_
    rintro _ _ ⟨rfl, rfl⟩
    refine Go.lload at_242 (q := 244) rfl rfl ?_
    refine Go.lcmp at_244 (q := 245) rfl ?_
    refine Go.lif_ne at_245 (q := 289) (q' := 248) (by decide) rfl rfl (fun c_ => absurd (af0 t1 t2 t1 p0 p1 p2 u v g1 g2 g1 q0 q1 q2) c_) (fun _ => ?_)
    refine Go.aload at_248 (q := 250) rfl rfl rfl ?_
    refine Go.iload at_250 (q := 252) rfl rfl ?_
    refine Go.callVV (P := fun w h' => w = .long ((c2 t1 t2 u v) t2.toNatClampNeg) ∧ y5 = h') (argsL := [(.int t2)]) (rest := []) (wd := 0) (Ls1 := #[.val (.ref o), .val (.int t2), .unset]) at_252 (q := 255) rfl (w39 hw) (w40 hw) (w42 hw) (w41 hw) (w43 hw) (w3 hw) (by decide) pn7 pd7 rfl rfl S5.exa (fun m => by simp [entryFrame, mkF, argsToLocals, Value.category]) rfl (by decide) rfl (by decide) (by decide) (by decide) (sk_of l Z a0 hw n0 y5 o t2 g2 S5 (Q := RV (fun w h' => w = .long ((c2 t1 t2 u v) t2.toNatClampNeg) ∧ y5 = h')) ⟨_, rfl, rfl, rfl⟩) ?_
    rintro _ _ ⟨rfl, rfl⟩
    refine Go.lload at_255 (q := 257) rfl rfl ?_
    refine Go.lcmp at_257 (q := 258) rfl ?_
    refine Go.lif_ne at_258 (q := 289) (q' := 261) (by decide) rfl rfl (fun c_ => absurd (af0 t1 t2 t2 p0 p1 p2 u v g1 g2 g2 q0 q1 q2) c_) (fun _ => ?_)
    refine Go.aload at_261 (q := 263) rfl rfl rfl ?_
    refine Go.iload at_263 (q := 265) rfl rfl ?_
    refine Go.callVV (P := fun w h' => w = .long ((c2 t1 t2 u v) t3.toNatClampNeg) ∧ y5 = h') (argsL := [(.int t3)]) (rest := []) (wd := 0) (Ls1 := #[.val (.ref o), .val (.int t3), .unset]) at_265 (q := 268) rfl (w39 hw) (w40 hw) (w42 hw) (w41 hw) (w43 hw) (w3 hw) (by decide) pn7 pd7 rfl rfl S5.exa (fun m => by simp [entryFrame, mkF, argsToLocals, Value.category]) rfl (by decide) rfl (by decide) (by decide) (by decide) (sk_of l Z a0 hw n0 y5 o t3 g3 S5 (Q := RV (fun w h' => w = .long ((c2 t1 t2 u v) t3.toNatClampNeg) ∧ y5 = h')) ⟨_, rfl, rfl, rfl⟩) ?_
    rintro _ _ ⟨rfl, rfl⟩
    refine Go.lload at_268 (q := 270) rfl rfl ?_
    refine Go.lcmp at_270 (q := 271) rfl ?_
    refine Go.lif_ne at_271 (q := 289) (q' := 274) (by decide) rfl rfl (fun c_ => absurd (af0 t1 t2 t3 p0 p1 p2 u v g1 g2 g3 q0 q1 q2) c_) (fun _ => ?_)
    refine Go.aload at_274 (q := 276) rfl rfl rfl ?_
    refine Go.callVV (P := fun w h' => w = .long (0 + u + v) ∧ y5 = h') (argsL := []) (rest := []) (wd := 0) (Ls1 := #[.val (.ref o)]) at_276 (q := 279) rfl (w44 hw) (w45 hw) (w47 hw) (w46 hw) (w48 hw) (w3 hw) (by decide) pn8 pd8 rfl rfl S5.exa (fun m => by simp [entryFrame, mkF, argsToLocals, Value.category]) rfl (by decide) rfl (by decide) (by decide) (by decide) (sk_total l Z a0 hw n0 y5 o S5 (Q := RV (fun w h' => w = .long (0 + u + v) ∧ y5 = h')) ⟨_, rfl, rfl, rfl⟩) ?_
    rintro _ _ ⟨rfl, rfl⟩
    refine Go.lload at_279 (q := 281) rfl rfl ?_
    refine Go.lcmp at_281 (q := 282) rfl ?_
    refine Go.lif_ne at_282 (q := 289) (q' := 285) (by decide) rfl rfl (fun c_ => absurd (by rw [T5.1, (af0 t1 t2 t1 p0 p1 p2 u v g1 g2 g1 q0 q1 q2), (af0 t1 t2 t2 p0 p1 p2 u v g1 g2 g2 q0 q1 q2), if_neg c53]) c_) (fun _ => ?_)
    refine Go.iconst at_285 (q := 286) rfl (x := (1 : Int32)) (by decide) ?_
    refine Go.goto at_286 (q := 290) (by decide) rfl ?_
    refine Go.istore at_290 (q := 292) rfl (Ls' := #[.val (.int a), .val (.int b), .val (.int c), .val (.long u), .second, .val (.long v), .second, .val (.int fl), .val (.int t1), .val (.int t2), .val (.int t3), .val (.int (0 : Int32)), .val (.int p0), .val (.int p1), .val (.int p2), .val (.ref r), .val (.ref o), .val (.long (afF t1 t1 t2 u v (0 : Int32) p0 p1 p2)), .second, .val (.long (afF t2 t1 t2 u v (0 : Int32) p0 p1 p2)), .second, .val (.long (afF t3 t1 t2 u v (0 : Int32) p0 p1 p2)), .second, .val (.long ((afF t1 t1 t2 u v (0 : Int32) p0 p1 p2) + (afF t2 t1 t2 u v (0 : Int32) p0 p1 p2))), .second, .val (.int (1 : Int32)), .unset, .unset]) rfl ?_
    refine Go.aload at_292 (q := 294) rfl rfl rfl ?_
    refine Go.callVV (P := fun w h' => ∃ r kr, w = .ref r ∧ Ar Z h' r .int kr (two t1 t2)) (argsL := []) (rest := []) (wd := 0) (Ls1 := #[.val (.ref o), .unset, .unset, .unset, .unset, .unset]) at_294 (q := 297) rfl (w49 hw) (w50 hw) (w52 hw) (w51 hw) (w53 hw) (w3 hw) (by decide) pn9 pd9 rfl rfl S5.exa (fun m => by simp [entryFrame, mkF, argsToLocals, Value.category]) rfl (by decide) rfl (by decide) (by decide) (by decide) (sk_take l Z a0 hw n0 y5 o t1 t2 g1 g2 S5 (Q := RV (fun w h' => ∃ r kr, w = .ref r ∧ Ar Z h' r .int kr (two t1 t2))) (fun h' r kr q => ⟨_, rfl, r, kr, rfl, q⟩)) ?_
    rintro _ y6 ⟨r2, kr2, rfl, A5⟩
    refine Go.astore at_297 (q := 299) rfl rfl (Ls' := #[.val (.int a), .val (.int b), .val (.int c), .val (.long u), .second, .val (.long v), .second, .val (.int fl), .val (.int t1), .val (.int t2), .val (.int t3), .val (.int (0 : Int32)), .val (.int p0), .val (.int p1), .val (.int p2), .val (.ref r), .val (.ref o), .val (.long (afF t1 t1 t2 u v (0 : Int32) p0 p1 p2)), .second, .val (.long (afF t2 t1 t2 u v (0 : Int32) p0 p1 p2)), .second, .val (.long (afF t3 t1 t2 u v (0 : Int32) p0 p1 p2)), .second, .val (.long ((afF t1 t1 t2 u v (0 : Int32) p0 p1 p2) + (afF t2 t1 t2 u v (0 : Int32) p0 p1 p2))), .second, .val (.int (1 : Int32)), .val (.ref r2), .unset]) rfl ?_
    by_cases heq : t1 = t2
    · skip
      have A6 : Ar Z y6 r2 .int kr2 [.int t1] := by have q := A5; unfold two at q; rw [if_pos heq] at q; exact q
      refine Go.iload at_299 (q := 301) rfl rfl ?_
      refine Go.iload at_301 (q := 303) rfl rfl ?_
      refine Go.icmp_ne at_303 (q := 332) (q' := 306) (by decide) rfl rfl (fun c_ => absurd heq c_) (fun _ => ?_)
      refine Go.aload at_306 (q := 308) rfl rfl rfl ?_
      refine Go.arraylength at_308 (q := 309) rfl A6 (z := 1) rfl ?_
      refine Go.iconst at_309 (q := 310) rfl (x := (1 : Int32)) (by decide) ?_
      refine Go.icmp_ne at_310 (q := 326) (q' := 313) (by decide) rfl rfl (fun c_ => absurd (by decide) c_) (fun _ => ?_)
      refine Go.aload at_313 (q := 315) rfl rfl rfl ?_
      refine Go.iconst at_315 (q := 316) rfl (x := (0 : Int32)) (by decide) ?_
      refine Go.iaload at_316 (q := 317) rfl A6 (by decide) rfl ?_
      refine Go.iload at_317 (q := 319) rfl rfl ?_
      refine Go.icmp_ne at_319 (q := 326) (q' := 322) (by decide) rfl rfl (fun c_ => absurd rfl c_) (fun _ => ?_)
      refine Go.iconst at_322 (q := 323) rfl (x := (1 : Int32)) (by decide) ?_
      refine Go.goto at_323 (q := 327) (by decide) rfl ?_
      refine Go.istore at_327 (q := 329) rfl (Ls' := #[.val (.int a), .val (.int b), .val (.int c), .val (.long u), .second, .val (.long v), .second, .val (.int fl), .val (.int t1), .val (.int t2), .val (.int t3), .val (.int (0 : Int32)), .val (.int p0), .val (.int p1), .val (.int p2), .val (.ref r), .val (.ref o), .val (.long (afF t1 t1 t2 u v (0 : Int32) p0 p1 p2)), .second, .val (.long (afF t2 t1 t2 u v (0 : Int32) p0 p1 p2)), .second, .val (.long (afF t3 t1 t2 u v (0 : Int32) p0 p1 p2)), .second, .val (.long ((afF t1 t1 t2 u v (0 : Int32) p0 p1 p2) + (afF t2 t1 t2 u v (0 : Int32) p0 p1 p2))), .second, .val (.int (1 : Int32)), .val (.ref r2), .val (.int (1 : Int32))]) rfl ?_
      refine Go.goto at_329 (q := 374) (by decide) rfl ?_
      refine Go.iload at_374 (q := 376) rfl rfl ?_
      refine Go.if_eq at_376 (q := 388) (q' := 379) (by decide) rfl rfl (fun c_ => absurd c_ (by decide)) (fun _ => ?_)
      refine Go.iload at_379 (q := 381) rfl rfl ?_
      refine Go.if_eq at_381 (q := 388) (q' := 384) (by decide) rfl rfl (fun c_ => absurd c_ (by decide)) (fun _ => ?_)
      refine Go.iconst at_384 (q := 385) rfl (x := (1 : Int32)) (by decide) ?_
      refine Go.goto at_385 (q := 389) (by decide) rfl ?_
      refine Go.zreturn at_389 (by decide) (by decide) (by decide) ?_
      rfl
    · skip
      by_cases hlt : t1 < t2
      · skip
        have A6 : Ar Z y6 r2 .int kr2 [.int t1, .int t2] := by have q := A5; unfold two at q; rw [if_neg heq, if_pos hlt] at q; exact q
        have m1 : t1 = minF t1 t2 := by unfold minF; rw [if_neg (fun q => by rw [Int32.lt_iff_toInt_lt] at hlt q; omega)]
        have m2 : t2 = maxF t1 t2 := by unfold maxF; rw [if_pos hlt]
        refine Go.iload at_299 (q := 301) rfl rfl ?_
        refine Go.iload at_301 (q := 303) rfl rfl ?_
        refine Go.icmp_ne at_303 (q := 332) (q' := 306) (by decide) rfl rfl (fun _ => ?_) (fun c_ => absurd c_ heq)
        refine Go.aload at_332 (q := 334) rfl rfl rfl ?_
        refine Go.arraylength at_334 (q := 335) rfl A6 (z := 2) rfl ?_
        refine Go.iconst at_335 (q := 336) rfl (x := (2 : Int32)) (by decide) ?_
        refine Go.icmp_ne at_336 (q := 371) (q' := 339) (by decide) rfl rfl (fun c_ => absurd (by decide) c_) (fun _ => ?_)
        refine Go.aload at_339 (q := 341) rfl rfl rfl ?_
        refine Go.iconst at_341 (q := 342) rfl (x := (0 : Int32)) (by decide) ?_
        refine Go.iaload at_342 (q := 343) rfl A6 (by decide) rfl ?_
        refine Go.iload at_343 (q := 345) rfl rfl ?_
        refine Go.iload at_345 (q := 347) rfl rfl ?_
        refine Go.callSV (P := fun w h' => w = .int (minF t1 t2) ∧ y6 = h') (argsL := [(.int t1), (.int t2)]) (rest := [(.int t1)]) (wd := 1) (Ls1 := #[.val (.int t1), .val (.int t2)]) at_347 (q := 350) rfl (w63 hw) (w64 hw) (w65 hw) (w66 hw) (by decide) pn12 pd12 rfl rfl (fun m => by simp [entryFrame, mkF, argsToLocals, Value.category]) rfl (by decide) rfl (by decide) (by decide) (by decide) (b12 l Z a0 hw n0 y6 t1 t2 (Q := RV (fun w h' => w = .int (minF t1 t2) ∧ y6 = h')) ⟨_, rfl, rfl, rfl⟩) ?_
        rintro _ _ ⟨rfl, rfl⟩
        refine Go.icmp_ne at_350 (q := 371) (q' := 353) (by decide) rfl rfl (fun c_ => absurd m1 c_) (fun _ => ?_)
        refine Go.aload at_353 (q := 355) rfl rfl rfl ?_
        refine Go.iconst at_355 (q := 356) rfl (x := (1 : Int32)) (by decide) ?_
        refine Go.iaload at_356 (q := 357) rfl A6 (by decide) rfl ?_
        refine Go.iload at_357 (q := 359) rfl rfl ?_
        refine Go.iload at_359 (q := 361) rfl rfl ?_
        refine Go.callSV (P := fun w h' => w = .int (maxF t1 t2) ∧ y6 = h') (argsL := [(.int t1), (.int t2)]) (rest := [(.int t2)]) (wd := 1) (Ls1 := #[.val (.int t1), .val (.int t2)]) at_361 (q := 364) rfl (w67 hw) (w68 hw) (w65 hw) (w69 hw) (by decide) pn13 pd13 rfl rfl (fun m => by simp [entryFrame, mkF, argsToLocals, Value.category]) rfl (by decide) rfl (by decide) (by decide) (by decide) (b13 l Z a0 hw n0 y6 t1 t2 (Q := RV (fun w h' => w = .int (maxF t1 t2) ∧ y6 = h')) ⟨_, rfl, rfl, rfl⟩) ?_
        rintro _ _ ⟨rfl, rfl⟩
        refine Go.icmp_ne at_364 (q := 371) (q' := 367) (by decide) rfl rfl (fun c_ => absurd m2 c_) (fun _ => ?_)
        refine Go.iconst at_367 (q := 368) rfl (x := (1 : Int32)) (by decide) ?_
        refine Go.goto at_368 (q := 372) (by decide) rfl ?_
        refine Go.istore at_372 (q := 374) rfl (Ls' := #[.val (.int a), .val (.int b), .val (.int c), .val (.long u), .second, .val (.long v), .second, .val (.int fl), .val (.int t1), .val (.int t2), .val (.int t3), .val (.int (0 : Int32)), .val (.int p0), .val (.int p1), .val (.int p2), .val (.ref r), .val (.ref o), .val (.long (afF t1 t1 t2 u v (0 : Int32) p0 p1 p2)), .second, .val (.long (afF t2 t1 t2 u v (0 : Int32) p0 p1 p2)), .second, .val (.long (afF t3 t1 t2 u v (0 : Int32) p0 p1 p2)), .second, .val (.long ((afF t1 t1 t2 u v (0 : Int32) p0 p1 p2) + (afF t2 t1 t2 u v (0 : Int32) p0 p1 p2))), .second, .val (.int (1 : Int32)), .val (.ref r2), .val (.int (1 : Int32))]) rfl ?_
        refine Go.iload at_374 (q := 376) rfl rfl ?_
        refine Go.if_eq at_376 (q := 388) (q' := 379) (by decide) rfl rfl (fun c_ => absurd c_ (by decide)) (fun _ => ?_)
        refine Go.iload at_379 (q := 381) rfl rfl ?_
        refine Go.if_eq at_381 (q := 388) (q' := 384) (by decide) rfl rfl (fun c_ => absurd c_ (by decide)) (fun _ => ?_)
        refine Go.iconst at_384 (q := 385) rfl (x := (1 : Int32)) (by decide) ?_
        refine Go.goto at_385 (q := 389) (by decide) rfl ?_
        refine Go.zreturn at_389 (by decide) (by decide) (by decide) ?_
        rfl
      · skip
        have A6 : Ar Z y6 r2 .int kr2 [.int t2, .int t1] := by have q := A5; unfold two at q; rw [if_neg heq, if_neg hlt] at q; exact q
        have hgt : t2 < t1 := by rw [Int32.lt_iff_toInt_lt] at hlt ⊢; have q := heq; rw [← Int32.toInt_inj] at q; omega
        have m1 : t2 = minF t1 t2 := by unfold minF; rw [if_pos hgt]
        have m2 : t1 = maxF t1 t2 := by unfold maxF; rw [if_neg hlt]
        refine Go.iload at_299 (q := 301) rfl rfl ?_
        refine Go.iload at_301 (q := 303) rfl rfl ?_
        refine Go.icmp_ne at_303 (q := 332) (q' := 306) (by decide) rfl rfl (fun _ => ?_) (fun c_ => absurd c_ heq)
        refine Go.aload at_332 (q := 334) rfl rfl rfl ?_
        refine Go.arraylength at_334 (q := 335) rfl A6 (z := 2) rfl ?_
        refine Go.iconst at_335 (q := 336) rfl (x := (2 : Int32)) (by decide) ?_
        refine Go.icmp_ne at_336 (q := 371) (q' := 339) (by decide) rfl rfl (fun c_ => absurd (by decide) c_) (fun _ => ?_)
        refine Go.aload at_339 (q := 341) rfl rfl rfl ?_
        refine Go.iconst at_341 (q := 342) rfl (x := (0 : Int32)) (by decide) ?_
        refine Go.iaload at_342 (q := 343) rfl A6 (by decide) rfl ?_
        refine Go.iload at_343 (q := 345) rfl rfl ?_
        refine Go.iload at_345 (q := 347) rfl rfl ?_
        refine Go.callSV (P := fun w h' => w = .int (minF t1 t2) ∧ y6 = h') (argsL := [(.int t1), (.int t2)]) (rest := [(.int t2)]) (wd := 1) (Ls1 := #[.val (.int t1), .val (.int t2)]) at_347 (q := 350) rfl (w63 hw) (w64 hw) (w65 hw) (w66 hw) (by decide) pn12 pd12 rfl rfl (fun m => by simp [entryFrame, mkF, argsToLocals, Value.category]) rfl (by decide) rfl (by decide) (by decide) (by decide) (b12 l Z a0 hw n0 y6 t1 t2 (Q := RV (fun w h' => w = .int (minF t1 t2) ∧ y6 = h')) ⟨_, rfl, rfl, rfl⟩) ?_
        rintro _ _ ⟨rfl, rfl⟩
        refine Go.icmp_ne at_350 (q := 371) (q' := 353) (by decide) rfl rfl (fun c_ => absurd m1 c_) (fun _ => ?_)
        refine Go.aload at_353 (q := 355) rfl rfl rfl ?_
        refine Go.iconst at_355 (q := 356) rfl (x := (1 : Int32)) (by decide) ?_
        refine Go.iaload at_356 (q := 357) rfl A6 (by decide) rfl ?_
        refine Go.iload at_357 (q := 359) rfl rfl ?_
        refine Go.iload at_359 (q := 361) rfl rfl ?_
        refine Go.callSV (P := fun w h' => w = .int (maxF t1 t2) ∧ y6 = h') (argsL := [(.int t1), (.int t2)]) (rest := [(.int t1)]) (wd := 1) (Ls1 := #[.val (.int t1), .val (.int t2)]) at_361 (q := 364) rfl (w67 hw) (w68 hw) (w65 hw) (w69 hw) (by decide) pn13 pd13 rfl rfl (fun m => by simp [entryFrame, mkF, argsToLocals, Value.category]) rfl (by decide) rfl (by decide) (by decide) (by decide) (b13 l Z a0 hw n0 y6 t1 t2 (Q := RV (fun w h' => w = .int (maxF t1 t2) ∧ y6 = h')) ⟨_, rfl, rfl, rfl⟩) ?_
        rintro _ _ ⟨rfl, rfl⟩
        refine Go.icmp_ne at_364 (q := 371) (q' := 367) (by decide) rfl rfl (fun c_ => absurd m2 c_) (fun _ => ?_)
        refine Go.iconst at_367 (q := 368) rfl (x := (1 : Int32)) (by decide) ?_
        refine Go.goto at_368 (q := 372) (by decide) rfl ?_
        refine Go.istore at_372 (q := 374) rfl (Ls' := #[.val (.int a), .val (.int b), .val (.int c), .val (.long u), .second, .val (.long v), .second, .val (.int fl), .val (.int t1), .val (.int t2), .val (.int t3), .val (.int (0 : Int32)), .val (.int p0), .val (.int p1), .val (.int p2), .val (.ref r), .val (.ref o), .val (.long (afF t1 t1 t2 u v (0 : Int32) p0 p1 p2)), .second, .val (.long (afF t2 t1 t2 u v (0 : Int32) p0 p1 p2)), .second, .val (.long (afF t3 t1 t2 u v (0 : Int32) p0 p1 p2)), .second, .val (.long ((afF t1 t1 t2 u v (0 : Int32) p0 p1 p2) + (afF t2 t1 t2 u v (0 : Int32) p0 p1 p2))), .second, .val (.int (1 : Int32)), .val (.ref r2), .val (.int (1 : Int32))]) rfl ?_
        refine Go.iload at_374 (q := 376) rfl rfl ?_
        refine Go.if_eq at_376 (q := 388) (q' := 379) (by decide) rfl rfl (fun c_ => absurd c_ (by decide)) (fun _ => ?_)
        refine Go.iload at_379 (q := 381) rfl rfl ?_
        refine Go.if_eq at_381 (q := 388) (q' := 384) (by decide) rfl rfl (fun c_ => absurd c_ (by decide)) (fun _ => ?_)
        refine Go.iconst at_384 (q := 385) rfl (x := (1 : Int32)) (by decide) ?_
        refine Go.goto at_385 (q := 389) (by decide) rfl ?_
        refine Go.zreturn at_389 (by decide) (by decide) (by decide) ?_
        rfl
set_option maxRecDepth 65536 in
set_option maxHeartbeats 40000000 in
theorem j77_1 (l : Launch) (Z : State) (a0 : Array Value) (hw : Hw a0 Z) (n0 : Nat) (h : Heap) (O : Old Z n0 h) (a b c fl t1 t2 t3 p0 p1 p2 : Int32) (u v : Int64) (g1 : RG t1) (g2 : RG t2) (g3 : RG t3) (q0 : RG p0) (q1 : RG p1) (q2 : RG p2) :
    Go l Z x code maxLocals ret room_1 n0 (fun v _ => v = some (.int 1)) h 0 0 77 #[.val (.int a), .val (.int b), .val (.int c), .val (.long u), .second, .val (.long v), .second, .val (.int fl), .val (.int t1), .val (.int t2), .val (.int t3), .val (.int (1 : Int32)), .val (.int p0), .val (.int p1), .val (.int p2), .unset, .unset, .unset, .unset, .unset, .unset, .unset, .unset, .unset, .unset, .unset, .unset, .unset] [] := by
  refine Go.iload at_77 (q := 79) rfl rfl ?_
  refine Go.newarray (cap := 3) at_79 (q := 81) rfl (w0 hw) (by decide) (by decide) (by decide) (by decide) (by decide) ?_
  intro x0 r kr er Xr Ar0
  have nr : n0 ≤ r := new_le (O.1 ▸ O.2.1) er
  have O0 := O.ext Xr
  have A0 : Ar Z x0 r .int kr [.int 0] := Ar0
  refine Go.astore at_81 (q := 83) rfl rfl (Ls' := #[.val (.int a), .val (.int b), .val (.int c), .val (.long u), .second, .val (.long v), .second, .val (.int fl), .val (.int t1), .val (.int t2), .val (.int t3), .val (.int (1 : Int32)), .val (.int p0), .val (.int p1), .val (.int p2), .val (.ref r), .unset, .unset, .unset, .unset, .unset, .unset, .unset, .unset, .unset, .unset, .unset, .unset]) rfl ?_
  refine Go.iload at_83 (q := 85) rfl rfl ?_
  refine Go.if_le at_85 (q := 94) (q' := 88) (by decide) rfl rfl (fun c_ => absurd (by decide) c_) (fun _ => ?_)
  refine Go.aload at_88 (q := 90) rfl rfl rfl ?_
  refine Go.iconst at_90 (q := 91) rfl (x := (0 : Int32)) (by decide) ?_
  refine Go.iload at_91 (q := 93) rfl rfl ?_
  refine Go.iastore at_93 (q := 94) rfl A0 (by decide) (by simp only [List.length_cons, List.length_nil]; decide) nr ?_
  intro x1 W1
  have A1 : Ar Z x1 r .int kr [.int p0] := A0.set W1
  have O1 := O0.wr W1 nr
  refine Go.iload at_94 (q := 96) rfl rfl ?_
  refine Go.iconst at_96 (q := 97) rfl (x := (1 : Int32)) (by decide) ?_
  refine Go.icmp_le at_97 (q := 106) (q' := 100) (by decide) rfl rfl (fun _ => ?_) (fun c_ => absurd c_ (by decide))
  refine Go.iload at_106 (q := 108) rfl rfl ?_
  refine Go.iconst at_108 (q := 109) rfl (x := (2 : Int32)) (by decide) ?_
  refine Go.icmp_le at_109 (q := 118) (q' := 112) (by decide) rfl rfl (fun _ => ?_) (fun c_ => absurd c_ (by decide))
  refine Go.new at_118 (q := 121) rfl (w1 hw) (w2 hw) (w3 hw) (by decide) (by decide) ?_
  intro y1 o e1 X1 E1 D1
  have no : n0 ≤ o := new_le (O1.1 ▸ O1.2.1) e1
  have B1 := A1.ext X1
  have ne : o ≠ r := Ne.symm (new_ne A1.lt e1)
  refine Go.dup at_121 (q := 122) rfl rfl ?_
  refine Go.callIN (P := fun h' => IK Z o y1 h' ∧ SK Z h' n0 o zeroC zeroC 0 0) (argsL := []) (rest := [(.ref o)]) (wd := 1) (Ls1 := #[.val (.ref o)]) at_122 (q := 125) rfl rfl (w4 hw) (w5 hw) (w3 hw) (w6 hw) (by decide) pn1 pd1 rfl rfl (fun m => by simp [entryFrame, mkF, argsToLocals, Value.category]) rfl (by decide) rfl (by decide) (by decide) (by decide) (sk_init l Z a0 hw n0 y1 o no E1 (D1 (Or.inr (w13 hw)) pT1) (D1 (Or.inr (w16 hw)) pT2) (D1 (Or.inl (w24 hw)) pT3) (D1 (Or.inl (w26 hw)) pT4) (Q := RN (fun h' => IK Z o y1 h' ∧ SK Z h' n0 o zeroC zeroC 0 0)) (fun h' i q => ⟨rfl, i, q⟩)) ?_
  rintro y2 ⟨i2, S2⟩
  have B2 := i2 _ _ _ ne B1
  refine Go.astore at_125 (q := 127) rfl rfl (Ls' := #[.val (.int a), .val (.int b), .val (.int c), .val (.long u), .second, .val (.long v), .second, .val (.int fl), .val (.int t1), .val (.int t2), .val (.int t3), .val (.int (1 : Int32)), .val (.int p0), .val (.int p1), .val (.int p2), .val (.ref r), .val (.ref o), .unset, .unset, .unset, .unset, .unset, .unset, .unset, .unset, .unset, .unset, .unset]) rfl ?_
  refine Go.aload at_127 (q := 129) rfl rfl rfl ?_
  refine Go.iload at_129 (q := 131) rfl rfl ?_
  refine Go.lloadN at_131 (q := 132) rfl rfl ?_
  refine Go.callVN (P := fun h' => IK Z o y2 h' ∧ SK Z h' n0 o (c1 t1 u) (chgN zeroC t1) (0 + u) (chsN zeroC t1 0)) (argsL := [(.int t1), (.long u)]) (rest := []) (wd := 0) (Ls1 := #[.val (.ref o), .val (.int t1), .val (.long u), .second, .unset, .unset, .unset]) at_132 (q := 135) rfl (w17 hw) (w18 hw) (w20 hw) (w19 hw) (w21 hw) (w3 hw) (by decide) pn3 pd3 rfl rfl S2.exa (fun m => by simp [entryFrame, mkF, argsToLocals, Value.category]) rfl (by decide) rfl (by decide) (by decide) (by decide) (sk_add l Z a0 hw n0 y2 o t1 g1 u S2 (Q := RN (fun h' => IK Z o y2 h' ∧ SK Z h' n0 o (c1 t1 u) (chgN zeroC t1) (0 + u) (chsN zeroC t1 0))) (fun h' i q => ⟨rfl, i, q⟩)) ?_
  rintro y3 ⟨i3, S3⟩
  have B3 := i3 _ _ _ ne B2
  refine Go.aload at_135 (q := 137) rfl rfl rfl ?_
  refine Go.iload at_137 (q := 139) rfl rfl ?_
  refine Go.lload at_139 (q := 141) rfl rfl ?_
  refine Go.callVN (P := fun h' => IK Z o y3 h' ∧ SK Z h' n0 o (c2 t1 t2 u v) (chgN (chgN zeroC t1) t2) (0 + u + v) (chsN (chgN zeroC t1) t2 (chsN zeroC t1 0))) (argsL := [(.int t2), (.long v)]) (rest := []) (wd := 0) (Ls1 := #[.val (.ref o), .val (.int t2), .val (.long v), .second, .unset, .unset, .unset]) at_141 (q := 144) rfl (w17 hw) (w18 hw) (w20 hw) (w19 hw) (w21 hw) (w3 hw) (by decide) pn3 pd3 rfl rfl S3.exa (fun m => by simp [entryFrame, mkF, argsToLocals, Value.category]) rfl (by decide) rfl (by decide) (by decide) (by decide) (sk_add l Z a0 hw n0 y3 o t2 g2 v S3 (Q := RN (fun h' => IK Z o y3 h' ∧ SK Z h' n0 o (c2 t1 t2 u v) (chgN (chgN zeroC t1) t2) (0 + u + v) (chsN (chgN zeroC t1) t2 (chsN zeroC t1 0)))) (fun h' i q => ⟨rfl, i, q⟩)) ?_
  rintro y4 ⟨i4, S4⟩
  have B4 := i4 _ _ _ ne B3
  refine Go.aload at_144 (q := 146) rfl rfl rfl ?_
  refine Go.aload at_146 (q := 148) rfl rfl rfl ?_
  refine Go.callVN (P := fun h' => SK Z h' n0 o (upd (c2 t1 t2 u v) p0.toNatClampNeg 0) (chgN (chgN zeroC t1) t2) ((0 + u + v) - (c2 t1 t2 u v) p0.toNatClampNeg) (chsN (chgN zeroC t1) t2 (chsN zeroC t1 0))) (argsL := [(.ref r)]) (rest := []) (wd := 0) (Ls1 := #[.val (.ref o), .val (.ref r), .unset, .unset, .unset, .unset, .unset]) at_148 (q := 151) rfl (w27 hw) (w28 hw) (w30 hw) (w29 hw) (w31 hw) (w3 hw) (by decide) pn4 pd4 rfl rfl S4.exa (fun m => by simp [entryFrame, mkF, argsToLocals, Value.category]) rfl (by decide) rfl (by decide) (by decide) (by decide) (clr1 l Z a0 hw n0 y4 p0 q0 S4 B4 ne (Q := RN (fun h' => SK Z h' n0 o (upd (c2 t1 t2 u v) p0.toNatClampNeg 0) (chgN (chgN zeroC t1) t2) ((0 + u + v) - (c2 t1 t2 u v) p0.toNatClampNeg) (chsN (chgN zeroC t1) t2 (chsN zeroC t1 0)))) (fun h' q => ⟨rfl, q⟩)) ?_
  intro y5 S5
  have T5 := ti_step g1 g2 q0 (ti_start t1 t2 u v g1 g2)
  refine Go.iload at_151 (q := 153) rfl rfl ?_
  refine Go.iload at_153 (q := 155) rfl rfl ?_
  refine Go.iload at_155 (q := 157) rfl rfl ?_
  refine Go.lloadN at_157 (q := 158) rfl rfl ?_
  refine Go.lload at_158 (q := 160) rfl rfl ?_
  refine Go.iload at_160 (q := 162) rfl rfl ?_
  refine Go.iload at_162 (q := 164) rfl rfl ?_
  refine Go.iload at_164 (q := 166) rfl rfl ?_
  refine Go.iload at_166 (q := 168) rfl rfl ?_
  refine Go.callSV (P := fun w h' => w = .long (afF t1 t1 t2 u v (1 : Int32) p0 p1 p2) ∧ y5 = h') (argsL := [(.int t1), (.int t1), (.int t2), (.long u), (.long v), (.int (1 : Int32)), (.int p0), (.int p1), (.int p2)]) (rest := []) (wd := 0) (Ls1 := #[.val (.int t1), .val (.int t1), .val (.int t2), .val (.long u), .second, .val (.long v), .second, .val (.int (1 : Int32)), .val (.int p0), .val (.int p1), .val (.int p2), .unset, .unset]) at_168 (q := 171) rfl (w32 hw) (w33 hw) (w34 hw) (w35 hw) (by decide) pn5 pd5 rfl rfl (fun m => by simp [entryFrame, mkF, argsToLocals, Value.category]) rfl (by decide) rfl (by decide) (by decide) (by decide) (b5 l Z a0 hw n0 y5 t1 t1 t2 u v (1 : Int32) p0 p1 p2 (Q := RV (fun w h' => w = .long (afF t1 t1 t2 u v (1 : Int32) p0 p1 p2) ∧ y5 = h')) ⟨_, rfl, rfl, rfl⟩) ?_
  rintro _ _ ⟨rfl, rfl⟩
  refine Go.lstore at_171 (q := 173) rfl (Ls' := #[.val (.int a), .val (.int b), .val (.int c), .val (.long u), .second, .val (.long v), .second, .val (.int fl), .val (.int t1), .val (.int t2), .val (.int t3), .val (.int (1 : Int32)), .val (.int p0), .val (.int p1), .val (.int p2), .val (.ref r), .val (.ref o), .val (.long (afF t1 t1 t2 u v (1 : Int32) p0 p1 p2)), .second, .unset, .unset, .unset, .unset, .unset, .unset, .unset, .unset, .unset]) rfl ?_
  refine Go.iload at_173 (q := 175) rfl rfl ?_
  refine Go.iload at_175 (q := 177) rfl rfl ?_
  refine Go.iload at_177 (q := 179) rfl rfl ?_
  refine Go.lloadN at_179 (q := 180) rfl rfl ?_
  refine Go.lload at_180 (q := 182) rfl rfl ?_
  refine Go.iload at_182 (q := 184) rfl rfl ?_
  refine Go.iload at_184 (q := 186) rfl rfl ?_
  refine Go.iload at_186 (q := 188) rfl rfl ?_
  refine Go.iload at_188 (q := 190) rfl rfl ?_
  refine Go.callSV (P := fun w h' => w = .long (afF t2 t1 t2 u v (1 : Int32) p0 p1 p2) ∧ y5 = h') (argsL := [(.int t2), (.int t1), (.int t2), (.long u), (.long v), (.int (1 : Int32)), (.int p0), (.int p1), (.int p2)]) (rest := []) (wd := 0) (Ls1 := #[.val (.int t2), .val (.int t1), .val (.int t2), .val (.long u), .second, .val (.long v), .second, .val (.int (1 : Int32)), .val (.int p0), .val (.int p1), .val (.int p2), .unset, .unset]) at_190 (q := 193) rfl (w32 hw) (w33 hw) (w34 hw) (w35 hw) (by decide) pn5 pd5 rfl rfl (fun m => by simp [entryFrame, mkF, argsToLocals, Value.category]) rfl (by decide) rfl (by decide) (by decide) (by decide) (b5 l Z a0 hw n0 y5 t2 t1 t2 u v (1 : Int32) p0 p1 p2 (Q := RV (fun w h' => w = .long (afF t2 t1 t2 u v (1 : Int32) p0 p1 p2) ∧ y5 = h')) ⟨_, rfl, rfl, rfl⟩) ?_
  rintro _ _ ⟨rfl, rfl⟩
  refine Go.lstore at_193 (q := 195) rfl (Ls' := #[.val (.int a), .val (.int b), .val (.int c), .val (.long u), .second, .val (.long v), .second, .val (.int fl), .val (.int t1), .val (.int t2), .val (.int t3), .val (.int (1 : Int32)), .val (.int p0), .val (.int p1), .val (.int p2), .val (.ref r), .val (.ref o), .val (.long (afF t1 t1 t2 u v (1 : Int32) p0 p1 p2)), .second, .val (.long (afF t2 t1 t2 u v (1 : Int32) p0 p1 p2)), .second, .unset, .unset, .unset, .unset, .unset, .unset, .unset]) rfl ?_
  refine Go.iload at_195 (q := 197) rfl rfl ?_
  refine Go.iload at_197 (q := 199) rfl rfl ?_
  refine Go.iload at_199 (q := 201) rfl rfl ?_
  refine Go.lloadN at_201 (q := 202) rfl rfl ?_
  refine Go.lload at_202 (q := 204) rfl rfl ?_
  refine Go.iload at_204 (q := 206) rfl rfl ?_
  refine Go.iload at_206 (q := 208) rfl rfl ?_
  refine Go.iload at_208 (q := 210) rfl rfl ?_
  refine Go.iload at_210 (q := 212) rfl rfl ?_
  refine Go.callSV (P := fun w h' => w = .long (afF t3 t1 t2 u v (1 : Int32) p0 p1 p2) ∧ y5 = h') (argsL := [(.int t3), (.int t1), (.int t2), (.long u), (.long v), (.int (1 : Int32)), (.int p0), (.int p1), (.int p2)]) (rest := []) (wd := 0) (Ls1 := #[.val (.int t3), .val (.int t1), .val (.int t2), .val (.long u), .second, .val (.long v), .second, .val (.int (1 : Int32)), .val (.int p0), .val (.int p1), .val (.int p2), .unset, .unset]) at_212 (q := 215) rfl (w32 hw) (w33 hw) (w34 hw) (w35 hw) (by decide) pn5 pd5 rfl rfl (fun m => by simp [entryFrame, mkF, argsToLocals, Value.category]) rfl (by decide) rfl (by decide) (by decide) (by decide) (b5 l Z a0 hw n0 y5 t3 t1 t2 u v (1 : Int32) p0 p1 p2 (Q := RV (fun w h' => w = .long (afF t3 t1 t2 u v (1 : Int32) p0 p1 p2) ∧ y5 = h')) ⟨_, rfl, rfl, rfl⟩) ?_
  rintro _ _ ⟨rfl, rfl⟩
  refine Go.lstore at_215 (q := 217) rfl (Ls' := #[.val (.int a), .val (.int b), .val (.int c), .val (.long u), .second, .val (.long v), .second, .val (.int fl), .val (.int t1), .val (.int t2), .val (.int t3), .val (.int (1 : Int32)), .val (.int p0), .val (.int p1), .val (.int p2), .val (.ref r), .val (.ref o), .val (.long (afF t1 t1 t2 u v (1 : Int32) p0 p1 p2)), .second, .val (.long (afF t2 t1 t2 u v (1 : Int32) p0 p1 p2)), .second, .val (.long (afF t3 t1 t2 u v (1 : Int32) p0 p1 p2)), .second, .unset, .unset, .unset, .unset, .unset]) rfl ?_
  refine Go.lload at_217 (q := 219) rfl rfl ?_
  refine Go.iload at_219 (q := 221) rfl rfl ?_
  refine Go.iload at_221 (q := 223) rfl rfl ?_
  refine Go.icmp_eq at_223 (q := 231) (q' := 226) (by decide) rfl rfl (fun c99 => ?_) (fun c99 => ?_)
  · skip
    refine Go.lconst at_231 (q := 232) rfl (x := (0 : Int64)) (by decide) ?_
    refine Go.ladd at_232 (q := 233) rfl ?_
    refine Go.lstore at_233 (q := 235) rfl (Ls' := #[.val (.int a), .val (.int b), .val (.int c), .val (.long u), .second, .val (.long v), .second, .val (.int fl), .val (.int t1), .val (.int t2), .val (.int t3), .val (.int (1 : Int32)), .val (.int p0), .val (.int p1), .val (.int p2), .val (.ref r), .val (.ref o), .val (.long (afF t1 t1 t2 u v (1 : Int32) p0 p1 p2)), .second, .val (.long (afF t2 t1 t2 u v (1 : Int32) p0 p1 p2)), .second, .val (.long (afF t3 t1 t2 u v (1 : Int32) p0 p1 p2)), .second, .val (.long ((afF t1 t1 t2 u v (1 : Int32) p0 p1 p2) + (0 : Int64))), .second, .unset, .unset, .unset]) rfl ?_
    refine Go.aload at_235 (q := 237) rfl rfl rfl ?_
    refine Go.iload at_237 (q := 239) rfl rfl ?_
    refine Go.callVV (P := fun w h' => w = .long ((upd (c2 t1 t2 u v) p0.toNatClampNeg 0) t1.toNatClampNeg) ∧ y5 = h') (argsL := [(.int t1)]) (rest := []) (wd := 0) (Ls1 := #[.val (.ref o), .val (.int t1), .unset]) at_239 (q := 242) rfl (w39 hw) (w40 hw) (w42 hw) (w41 hw) (w43 hw) (w3 hw) (by decide) pn7 pd7 rfl rfl S5.exa (fun m => by simp [entryFrame, mkF, argsToLocals, Value.category]) rfl (by decide) rfl (by decide) (by decide) (by decide) (sk_of l Z a0 hw n0 y5 o t1 g1 S5 (Q := RV (fun w h' => w = .long ((upd (c2 t1 t2 u v) p0.toNatClampNeg 0) t1.toNatClampNeg) ∧ y5 = h')) ⟨_, rfl, rfl, rfl⟩) ?_
    rintro _ _ ⟨rfl, rfl⟩
    refine Go.lload at_242 (q := 244) rfl rfl ?_
    refine Go.lcmp at_244 (q := 245) rfl ?_
    refine Go.lif_ne at_245 (q := 289) (q' := 248) (by decide) rfl rfl (fun c_ => absurd (af1 t1 t2 t1 p0 p1 p2 u v g1 g2 g1 q0 q1 q2) c_) (fun _ => ?_)
    refine Go.aload at_248 (q := 250) rfl rfl rfl ?_
    refine Go.iload at_250 (q := 252) rfl rfl ?_
    refine Go.callVV (P := fun w h' => w = .long ((upd (c2 t1 t2 u v) p0.toNatClampNeg 0) t2.toNatClampNeg) ∧ y5 = h') (argsL := [(.int t2)]) (rest := []) (wd := 0) (Ls1 := #[.val (.ref o), .val (.int t2), .unset]) at_252 (q := 255) rfl (w39 hw) (w40 hw) (w42 hw) (w41 hw) (w43 hw) (w3 hw) (by decide) pn7 pd7 rfl rfl S5.exa (fun m => by simp [entryFrame, mkF, argsToLocals, Value.category]) rfl (by decide) rfl (by decide) (by decide) (by decide) (sk_of l Z a0 hw n0 y5 o t2 g2 S5 (Q := RV (fun w h' => w = .long ((upd (c2 t1 t2 u v) p0.toNatClampNeg 0) t2.toNatClampNeg) ∧ y5 = h')) ⟨_, rfl, rfl, rfl⟩) ?_
    rintro _ _ ⟨rfl, rfl⟩
    refine Go.lload at_255 (q := 257) rfl rfl ?_
    refine Go.lcmp at_257 (q := 258) rfl ?_
    refine Go.lif_ne at_258 (q := 289) (q' := 261) (by decide) rfl rfl (fun c_ => absurd (af1 t1 t2 t2 p0 p1 p2 u v g1 g2 g2 q0 q1 q2) c_) (fun _ => ?_)
    refine Go.aload at_261 (q := 263) rfl rfl rfl ?_
    refine Go.iload at_263 (q := 265) rfl rfl ?_
    refine Go.callVV (P := fun w h' => w = .long ((upd (c2 t1 t2 u v) p0.toNatClampNeg 0) t3.toNatClampNeg) ∧ y5 = h') (argsL := [(.int t3)]) (rest := []) (wd := 0) (Ls1 := #[.val (.ref o), .val (.int t3), .unset]) at_265 (q := 268) rfl (w39 hw) (w40 hw) (w42 hw) (w41 hw) (w43 hw) (w3 hw) (by decide) pn7 pd7 rfl rfl S5.exa (fun m => by simp [entryFrame, mkF, argsToLocals, Value.category]) rfl (by decide) rfl (by decide) (by decide) (by decide) (sk_of l Z a0 hw n0 y5 o t3 g3 S5 (Q := RV (fun w h' => w = .long ((upd (c2 t1 t2 u v) p0.toNatClampNeg 0) t3.toNatClampNeg) ∧ y5 = h')) ⟨_, rfl, rfl, rfl⟩) ?_
    rintro _ _ ⟨rfl, rfl⟩
    refine Go.lload at_268 (q := 270) rfl rfl ?_
    refine Go.lcmp at_270 (q := 271) rfl ?_
    refine Go.lif_ne at_271 (q := 289) (q' := 274) (by decide) rfl rfl (fun c_ => absurd (af1 t1 t2 t3 p0 p1 p2 u v g1 g2 g3 q0 q1 q2) c_) (fun _ => ?_)
    refine Go.aload at_274 (q := 276) rfl rfl rfl ?_
    refine Go.callVV (P := fun w h' => w = .long ((0 + u + v) - (c2 t1 t2 u v) p0.toNatClampNeg) ∧ y5 = h') (argsL := []) (rest := []) (wd := 0) (Ls1 := #[.val (.ref o)]) at_276 (q := 279) rfl (w44 hw) (w45 hw) (w47 hw) (w46 hw) (w48 hw) (w3 hw) (by decide) pn8 pd8 rfl rfl S5.exa (fun m => by simp [entryFrame, mkF, argsToLocals, Value.category]) rfl (by decide) rfl (by decide) (by decide) (by decide) (sk_total l Z a0 hw n0 y5 o S5 (Q := RV (fun w h' => w = .long ((0 + u + v) - (c2 t1 t2 u v) p0.toNatClampNeg) ∧ y5 = h')) ⟨_, rfl, rfl, rfl⟩) ?_
    rintro _ _ ⟨rfl, rfl⟩
    refine Go.lload at_279 (q := 281) rfl rfl ?_
    refine Go.lcmp at_281 (q := 282) rfl ?_
    refine Go.lif_ne at_282 (q := 289) (q' := 285) (by decide) rfl rfl (fun c_ => absurd (by rw [T5.1, (af1 t1 t2 t1 p0 p1 p2 u v g1 g2 g1 q0 q1 q2), (af1 t1 t2 t2 p0 p1 p2 u v g1 g2 g2 q0 q1 q2), if_pos c99]) c_) (fun _ => ?_)
    refine Go.iconst at_285 (q := 286) rfl (x := (1 : Int32)) (by decide) ?_
    refine Go.goto at_286 (q := 290) (by decide) rfl ?_
    refine Go.istore at_290 (q := 292) rfl (Ls' := #[.val (.int a), .val (.int b), .val (.int c), .val (.long u), .second, .val (.long v), .second, .val (.int fl), .val (.int t1), .val (.int t2), .val (.int t3), .val (.int (1 : Int32)), .val (.int p0), .val (.int p1), .val (.int p2), .val (.ref r), .val (.ref o), .val (.long (afF t1 t1 t2 u v (1 : Int32) p0 p1 p2)), .second, .val (.long (afF t2 t1 t2 u v (1 : Int32) p0 p1 p2)), .second, .val (.long (afF t3 t1 t2 u v (1 : Int32) p0 p1 p2)), .second, .val (.long ((afF t1 t1 t2 u v (1 : Int32) p0 p1 p2) + (0 : Int64))), .second, .val (.int (1 : Int32)), .unset, .unset]) rfl ?_
    refine Go.aload at_292 (q := 294) rfl rfl rfl ?_
    refine Go.callVV (P := fun w h' => ∃ r kr, w = .ref r ∧ Ar Z h' r .int kr (two t1 t2)) (argsL := []) (rest := []) (wd := 0) (Ls1 := #[.val (.ref o), .unset, .unset, .unset, .unset, .unset]) at_294 (q := 297) rfl (w49 hw) (w50 hw) (w52 hw) (w51 hw) (w53 hw) (w3 hw) (by decide) pn9 pd9 rfl rfl S5.exa (fun m => by simp [entryFrame, mkF, argsToLocals, Value.category]) rfl (by decide) rfl (by decide) (by decide) (by decide) (sk_take l Z a0 hw n0 y5 o t1 t2 g1 g2 S5 (Q := RV (fun w h' => ∃ r kr, w = .ref r ∧ Ar Z h' r .int kr (two t1 t2))) (fun h' r kr q => ⟨_, rfl, r, kr, rfl, q⟩)) ?_
    rintro _ y6 ⟨r2, kr2, rfl, A5⟩
    refine Go.astore at_297 (q := 299) rfl rfl (Ls' := #[.val (.int a), .val (.int b), .val (.int c), .val (.long u), .second, .val (.long v), .second, .val (.int fl), .val (.int t1), .val (.int t2), .val (.int t3), .val (.int (1 : Int32)), .val (.int p0), .val (.int p1), .val (.int p2), .val (.ref r), .val (.ref o), .val (.long (afF t1 t1 t2 u v (1 : Int32) p0 p1 p2)), .second, .val (.long (afF t2 t1 t2 u v (1 : Int32) p0 p1 p2)), .second, .val (.long (afF t3 t1 t2 u v (1 : Int32) p0 p1 p2)), .second, .val (.long ((afF t1 t1 t2 u v (1 : Int32) p0 p1 p2) + (0 : Int64))), .second, .val (.int (1 : Int32)), .val (.ref r2), .unset]) rfl ?_
    by_cases heq : t1 = t2
    · skip
      have A6 : Ar Z y6 r2 .int kr2 [.int t1] := by have q := A5; unfold two at q; rw [if_pos heq] at q; exact q
      refine Go.iload at_299 (q := 301) rfl rfl ?_
      refine Go.iload at_301 (q := 303) rfl rfl ?_
      refine Go.icmp_ne at_303 (q := 332) (q' := 306) (by decide) rfl rfl (fun c_ => absurd heq c_) (fun _ => ?_)
      refine Go.aload at_306 (q := 308) rfl rfl rfl ?_
      refine Go.arraylength at_308 (q := 309) rfl A6 (z := 1) rfl ?_
      refine Go.iconst at_309 (q := 310) rfl (x := (1 : Int32)) (by decide) ?_
      refine Go.icmp_ne at_310 (q := 326) (q' := 313) (by decide) rfl rfl (fun c_ => absurd (by decide) c_) (fun _ => ?_)
      refine Go.aload at_313 (q := 315) rfl rfl rfl ?_
      refine Go.iconst at_315 (q := 316) rfl (x := (0 : Int32)) (by decide) ?_
      refine Go.iaload at_316 (q := 317) rfl A6 (by decide) rfl ?_
      refine Go.iload at_317 (q := 319) rfl rfl ?_
      refine Go.icmp_ne at_319 (q := 326) (q' := 322) (by decide) rfl rfl (fun c_ => absurd rfl c_) (fun _ => ?_)
      refine Go.iconst at_322 (q := 323) rfl (x := (1 : Int32)) (by decide) ?_
      refine Go.goto at_323 (q := 327) (by decide) rfl ?_
      refine Go.istore at_327 (q := 329) rfl (Ls' := #[.val (.int a), .val (.int b), .val (.int c), .val (.long u), .second, .val (.long v), .second, .val (.int fl), .val (.int t1), .val (.int t2), .val (.int t3), .val (.int (1 : Int32)), .val (.int p0), .val (.int p1), .val (.int p2), .val (.ref r), .val (.ref o), .val (.long (afF t1 t1 t2 u v (1 : Int32) p0 p1 p2)), .second, .val (.long (afF t2 t1 t2 u v (1 : Int32) p0 p1 p2)), .second, .val (.long (afF t3 t1 t2 u v (1 : Int32) p0 p1 p2)), .second, .val (.long ((afF t1 t1 t2 u v (1 : Int32) p0 p1 p2) + (0 : Int64))), .second, .val (.int (1 : Int32)), .val (.ref r2), .val (.int (1 : Int32))]) rfl ?_
      refine Go.goto at_329 (q := 374) (by decide) rfl ?_
      refine Go.iload at_374 (q := 376) rfl rfl ?_
      refine Go.if_eq at_376 (q := 388) (q' := 379) (by decide) rfl rfl (fun c_ => absurd c_ (by decide)) (fun _ => ?_)
      refine Go.iload at_379 (q := 381) rfl rfl ?_
      refine Go.if_eq at_381 (q := 388) (q' := 384) (by decide) rfl rfl (fun c_ => absurd c_ (by decide)) (fun _ => ?_)
      refine Go.iconst at_384 (q := 385) rfl (x := (1 : Int32)) (by decide) ?_
      refine Go.goto at_385 (q := 389) (by decide) rfl ?_
      refine Go.zreturn at_389 (by decide) (by decide) (by decide) ?_
      rfl
    · skip
      by_cases hlt : t1 < t2
      · skip
        have A6 : Ar Z y6 r2 .int kr2 [.int t1, .int t2] := by have q := A5; unfold two at q; rw [if_neg heq, if_pos hlt] at q; exact q
        have m1 : t1 = minF t1 t2 := by unfold minF; rw [if_neg (fun q => by rw [Int32.lt_iff_toInt_lt] at hlt q; omega)]
        have m2 : t2 = maxF t1 t2 := by unfold maxF; rw [if_pos hlt]
        refine Go.iload at_299 (q := 301) rfl rfl ?_
        refine Go.iload at_301 (q := 303) rfl rfl ?_
        refine Go.icmp_ne at_303 (q := 332) (q' := 306) (by decide) rfl rfl (fun _ => ?_) (fun c_ => absurd c_ heq)
        refine Go.aload at_332 (q := 334) rfl rfl rfl ?_
        refine Go.arraylength at_334 (q := 335) rfl A6 (z := 2) rfl ?_
        refine Go.iconst at_335 (q := 336) rfl (x := (2 : Int32)) (by decide) ?_
        refine Go.icmp_ne at_336 (q := 371) (q' := 339) (by decide) rfl rfl (fun c_ => absurd (by decide) c_) (fun _ => ?_)
        refine Go.aload at_339 (q := 341) rfl rfl rfl ?_
        refine Go.iconst at_341 (q := 342) rfl (x := (0 : Int32)) (by decide) ?_
        refine Go.iaload at_342 (q := 343) rfl A6 (by decide) rfl ?_
        refine Go.iload at_343 (q := 345) rfl rfl ?_
        refine Go.iload at_345 (q := 347) rfl rfl ?_
        refine Go.callSV (P := fun w h' => w = .int (minF t1 t2) ∧ y6 = h') (argsL := [(.int t1), (.int t2)]) (rest := [(.int t1)]) (wd := 1) (Ls1 := #[.val (.int t1), .val (.int t2)]) at_347 (q := 350) rfl (w63 hw) (w64 hw) (w65 hw) (w66 hw) (by decide) pn12 pd12 rfl rfl (fun m => by simp [entryFrame, mkF, argsToLocals, Value.category]) rfl (by decide) rfl (by decide) (by decide) (by decide) (b12 l Z a0 hw n0 y6 t1 t2 (Q := RV (fun w h' => w = .int (minF t1 t2) ∧ y6 = h')) ⟨_, rfl, rfl, rfl⟩) ?_
        rintro _ _ ⟨rfl, rfl⟩
        refine Go.icmp_ne at_350 (q := 371) (q' := 353) (by decide) rfl rfl (fun c_ => absurd m1 c_) (fun _ => ?_)
        refine Go.aload at_353 (q := 355) rfl rfl rfl ?_
        refine Go.iconst at_355 (q := 356) rfl (x := (1 : Int32)) (by decide) ?_
        refine Go.iaload at_356 (q := 357) rfl A6 (by decide) rfl ?_
        refine Go.iload at_357 (q := 359) rfl rfl ?_
        refine Go.iload at_359 (q := 361) rfl rfl ?_
        refine Go.callSV (P := fun w h' => w = .int (maxF t1 t2) ∧ y6 = h') (argsL := [(.int t1), (.int t2)]) (rest := [(.int t2)]) (wd := 1) (Ls1 := #[.val (.int t1), .val (.int t2)]) at_361 (q := 364) rfl (w67 hw) (w68 hw) (w65 hw) (w69 hw) (by decide) pn13 pd13 rfl rfl (fun m => by simp [entryFrame, mkF, argsToLocals, Value.category]) rfl (by decide) rfl (by decide) (by decide) (by decide) (b13 l Z a0 hw n0 y6 t1 t2 (Q := RV (fun w h' => w = .int (maxF t1 t2) ∧ y6 = h')) ⟨_, rfl, rfl, rfl⟩) ?_
        rintro _ _ ⟨rfl, rfl⟩
        refine Go.icmp_ne at_364 (q := 371) (q' := 367) (by decide) rfl rfl (fun c_ => absurd m2 c_) (fun _ => ?_)
        refine Go.iconst at_367 (q := 368) rfl (x := (1 : Int32)) (by decide) ?_
        refine Go.goto at_368 (q := 372) (by decide) rfl ?_
        refine Go.istore at_372 (q := 374) rfl (Ls' := #[.val (.int a), .val (.int b), .val (.int c), .val (.long u), .second, .val (.long v), .second, .val (.int fl), .val (.int t1), .val (.int t2), .val (.int t3), .val (.int (1 : Int32)), .val (.int p0), .val (.int p1), .val (.int p2), .val (.ref r), .val (.ref o), .val (.long (afF t1 t1 t2 u v (1 : Int32) p0 p1 p2)), .second, .val (.long (afF t2 t1 t2 u v (1 : Int32) p0 p1 p2)), .second, .val (.long (afF t3 t1 t2 u v (1 : Int32) p0 p1 p2)), .second, .val (.long ((afF t1 t1 t2 u v (1 : Int32) p0 p1 p2) + (0 : Int64))), .second, .val (.int (1 : Int32)), .val (.ref r2), .val (.int (1 : Int32))]) rfl ?_
        refine Go.iload at_374 (q := 376) rfl rfl ?_
        refine Go.if_eq at_376 (q := 388) (q' := 379) (by decide) rfl rfl (fun c_ => absurd c_ (by decide)) (fun _ => ?_)
        refine Go.iload at_379 (q := 381) rfl rfl ?_
        refine Go.if_eq at_381 (q := 388) (q' := 384) (by decide) rfl rfl (fun c_ => absurd c_ (by decide)) (fun _ => ?_)
        refine Go.iconst at_384 (q := 385) rfl (x := (1 : Int32)) (by decide) ?_
        refine Go.goto at_385 (q := 389) (by decide) rfl ?_
        refine Go.zreturn at_389 (by decide) (by decide) (by decide) ?_
        rfl
      · skip
        have A6 : Ar Z y6 r2 .int kr2 [.int t2, .int t1] := by have q := A5; unfold two at q; rw [if_neg heq, if_neg hlt] at q; exact q
        have hgt : t2 < t1 := by rw [Int32.lt_iff_toInt_lt] at hlt ⊢; have q := heq; rw [← Int32.toInt_inj] at q; omega
        have m1 : t2 = minF t1 t2 := by unfold minF; rw [if_pos hgt]
        have m2 : t1 = maxF t1 t2 := by unfold maxF; rw [if_neg hlt]
        refine Go.iload at_299 (q := 301) rfl rfl ?_
        refine Go.iload at_301 (q := 303) rfl rfl ?_
        refine Go.icmp_ne at_303 (q := 332) (q' := 306) (by decide) rfl rfl (fun _ => ?_) (fun c_ => absurd c_ heq)
        refine Go.aload at_332 (q := 334) rfl rfl rfl ?_
        refine Go.arraylength at_334 (q := 335) rfl A6 (z := 2) rfl ?_
        refine Go.iconst at_335 (q := 336) rfl (x := (2 : Int32)) (by decide) ?_
        refine Go.icmp_ne at_336 (q := 371) (q' := 339) (by decide) rfl rfl (fun c_ => absurd (by decide) c_) (fun _ => ?_)
        refine Go.aload at_339 (q := 341) rfl rfl rfl ?_
        refine Go.iconst at_341 (q := 342) rfl (x := (0 : Int32)) (by decide) ?_
        refine Go.iaload at_342 (q := 343) rfl A6 (by decide) rfl ?_
        refine Go.iload at_343 (q := 345) rfl rfl ?_
        refine Go.iload at_345 (q := 347) rfl rfl ?_
        refine Go.callSV (P := fun w h' => w = .int (minF t1 t2) ∧ y6 = h') (argsL := [(.int t1), (.int t2)]) (rest := [(.int t2)]) (wd := 1) (Ls1 := #[.val (.int t1), .val (.int t2)]) at_347 (q := 350) rfl (w63 hw) (w64 hw) (w65 hw) (w66 hw) (by decide) pn12 pd12 rfl rfl (fun m => by simp [entryFrame, mkF, argsToLocals, Value.category]) rfl (by decide) rfl (by decide) (by decide) (by decide) (b12 l Z a0 hw n0 y6 t1 t2 (Q := RV (fun w h' => w = .int (minF t1 t2) ∧ y6 = h')) ⟨_, rfl, rfl, rfl⟩) ?_
        rintro _ _ ⟨rfl, rfl⟩
        refine Go.icmp_ne at_350 (q := 371) (q' := 353) (by decide) rfl rfl (fun c_ => absurd m1 c_) (fun _ => ?_)
        refine Go.aload at_353 (q := 355) rfl rfl rfl ?_
        refine Go.iconst at_355 (q := 356) rfl (x := (1 : Int32)) (by decide) ?_
        refine Go.iaload at_356 (q := 357) rfl A6 (by decide) rfl ?_
        refine Go.iload at_357 (q := 359) rfl rfl ?_
        refine Go.iload at_359 (q := 361) rfl rfl ?_
        refine Go.callSV (P := fun w h' => w = .int (maxF t1 t2) ∧ y6 = h') (argsL := [(.int t1), (.int t2)]) (rest := [(.int t1)]) (wd := 1) (Ls1 := #[.val (.int t1), .val (.int t2)]) at_361 (q := 364) rfl (w67 hw) (w68 hw) (w65 hw) (w69 hw) (by decide) pn13 pd13 rfl rfl (fun m => by simp [entryFrame, mkF, argsToLocals, Value.category]) rfl (by decide) rfl (by decide) (by decide) (by decide) (b13 l Z a0 hw n0 y6 t1 t2 (Q := RV (fun w h' => w = .int (maxF t1 t2) ∧ y6 = h')) ⟨_, rfl, rfl, rfl⟩) ?_
        rintro _ _ ⟨rfl, rfl⟩
        refine Go.icmp_ne at_364 (q := 371) (q' := 367) (by decide) rfl rfl (fun c_ => absurd m2 c_) (fun _ => ?_)
        refine Go.iconst at_367 (q := 368) rfl (x := (1 : Int32)) (by decide) ?_
        refine Go.goto at_368 (q := 372) (by decide) rfl ?_
        refine Go.istore at_372 (q := 374) rfl (Ls' := #[.val (.int a), .val (.int b), .val (.int c), .val (.long u), .second, .val (.long v), .second, .val (.int fl), .val (.int t1), .val (.int t2), .val (.int t3), .val (.int (1 : Int32)), .val (.int p0), .val (.int p1), .val (.int p2), .val (.ref r), .val (.ref o), .val (.long (afF t1 t1 t2 u v (1 : Int32) p0 p1 p2)), .second, .val (.long (afF t2 t1 t2 u v (1 : Int32) p0 p1 p2)), .second, .val (.long (afF t3 t1 t2 u v (1 : Int32) p0 p1 p2)), .second, .val (.long ((afF t1 t1 t2 u v (1 : Int32) p0 p1 p2) + (0 : Int64))), .second, .val (.int (1 : Int32)), .val (.ref r2), .val (.int (1 : Int32))]) rfl ?_
        refine Go.iload at_374 (q := 376) rfl rfl ?_
        refine Go.if_eq at_376 (q := 388) (q' := 379) (by decide) rfl rfl (fun c_ => absurd c_ (by decide)) (fun _ => ?_)
        refine Go.iload at_379 (q := 381) rfl rfl ?_
        refine Go.if_eq at_381 (q := 388) (q' := 384) (by decide) rfl rfl (fun c_ => absurd c_ (by decide)) (fun _ => ?_)
        refine Go.iconst at_384 (q := 385) rfl (x := (1 : Int32)) (by decide) ?_
        refine Go.goto at_385 (q := 389) (by decide) rfl ?_
        refine Go.zreturn at_389 (by decide) (by decide) (by decide) ?_
        rfl
  · skip
    refine Go.lload at_226 (q := 228) rfl rfl ?_
    refine Go.goto at_228 (q := 232) (by decide) rfl ?_
    refine Go.ladd at_232 (q := 233) rfl ?_
    refine Go.lstore at_233 (q := 235) rfl (Ls' := #[.val (.int a), .val (.int b), .val (.int c), .val (.long u), .second, .val (.long v), .second, .val (.int fl), .val (.int t1), .val (.int t2), .val (.int t3), .val (.int (1 : Int32)), .val (.int p0), .val (.int p1), .val (.int p2), .val (.ref r), .val (.ref o), .val (.long (afF t1 t1 t2 u v (1 : Int32) p0 p1 p2)), .second, .val (.long (afF t2 t1 t2 u v (1 : Int32) p0 p1 p2)), .second, .val (.long (afF t3 t1 t2 u v (1 : Int32) p0 p1 p2)), .second, .val (.long ((afF t1 t1 t2 u v (1 : Int32) p0 p1 p2) + (afF t2 t1 t2 u v (1 : Int32) p0 p1 p2))), .second, .unset, .unset, .unset]) rfl ?_
    refine Go.aload at_235 (q := 237) rfl rfl rfl ?_
    refine Go.iload at_237 (q := 239) rfl rfl ?_
    refine Go.callVV (P := fun w h' => w = .long ((upd (c2 t1 t2 u v) p0.toNatClampNeg 0) t1.toNatClampNeg) ∧ y5 = h') (argsL := [(.int t1)]) (rest := []) (wd := 0) (Ls1 := #[.val (.ref o), .val (.int t1), .unset]) at_239 (q := 242) rfl (w39 hw) (w40 hw) (w42 hw) (w41 hw) (w43 hw) (w3 hw) (by decide) pn7 pd7 rfl rfl S5.exa (fun m => by simp [entryFrame, mkF, argsToLocals, Value.category]) rfl (by decide) rfl (by decide) (by decide) (by decide) (sk_of l Z a0 hw n0 y5 o t1 g1 S5 (Q := RV (fun w h' => w = .long ((upd (c2 t1 t2 u v) p0.toNatClampNeg 0) t1.toNatClampNeg) ∧ y5 = h')) ⟨_, rfl, rfl, rfl⟩) ?_
    rintro _ _ ⟨rfl, rfl⟩
    refine Go.lload at_242 (q := 244) rfl rfl ?_
    refine Go.lcmp at_244 (q := 245) rfl ?_
    refine Go.lif_ne at_245 (q := 289) (q' := 248) (by decide) rfl rfl (fun c_ => absurd (af1 t1 t2 t1 p0 p1 p2 u v g1 g2 g1 q0 q1 q2) c_) (fun _ => ?_)
    refine Go.aload at_248 (q := 250) rfl rfl rfl ?_
    refine Go.iload at_250 (q := 252) rfl rfl ?_
    refine Go.callVV (P := fun w h' => w = .long ((upd (c2 t1 t2 u v) p0.toNatClampNeg 0) t2.toNatClampNeg) ∧ y5 = h') (argsL := [(.int t2)]) (rest := []) (wd := 0) (Ls1 := #[.val (.ref o), .val (.int t2), .unset]) at_252 (q := 255) rfl (w39 hw) (w40 hw) (w42 hw) (w41 hw) (w43 hw) (w3 hw) (by decide) pn7 pd7 rfl rfl S5.exa (fun m => by simp [entryFrame, mkF, argsToLocals, Value.category]) rfl (by decide) rfl (by decide) (by decide) (by decide) (sk_of l Z a0 hw n0 y5 o t2 g2 S5 (Q := RV (fun w h' => w = .long ((upd (c2 t1 t2 u v) p0.toNatClampNeg 0) t2.toNatClampNeg) ∧ y5 = h')) ⟨_, rfl, rfl, rfl⟩) ?_
    rintro _ _ ⟨rfl, rfl⟩
    refine Go.lload at_255 (q := 257) rfl rfl ?_
    refine Go.lcmp at_257 (q := 258) rfl ?_
    refine Go.lif_ne at_258 (q := 289) (q' := 261) (by decide) rfl rfl (fun c_ => absurd (af1 t1 t2 t2 p0 p1 p2 u v g1 g2 g2 q0 q1 q2) c_) (fun _ => ?_)
    refine Go.aload at_261 (q := 263) rfl rfl rfl ?_
    refine Go.iload at_263 (q := 265) rfl rfl ?_
    refine Go.callVV (P := fun w h' => w = .long ((upd (c2 t1 t2 u v) p0.toNatClampNeg 0) t3.toNatClampNeg) ∧ y5 = h') (argsL := [(.int t3)]) (rest := []) (wd := 0) (Ls1 := #[.val (.ref o), .val (.int t3), .unset]) at_265 (q := 268) rfl (w39 hw) (w40 hw) (w42 hw) (w41 hw) (w43 hw) (w3 hw) (by decide) pn7 pd7 rfl rfl S5.exa (fun m => by simp [entryFrame, mkF, argsToLocals, Value.category]) rfl (by decide) rfl (by decide) (by decide) (by decide) (sk_of l Z a0 hw n0 y5 o t3 g3 S5 (Q := RV (fun w h' => w = .long ((upd (c2 t1 t2 u v) p0.toNatClampNeg 0) t3.toNatClampNeg) ∧ y5 = h')) ⟨_, rfl, rfl, rfl⟩) ?_
    rintro _ _ ⟨rfl, rfl⟩
    refine Go.lload at_268 (q := 270) rfl rfl ?_
    refine Go.lcmp at_270 (q := 271) rfl ?_
    refine Go.lif_ne at_271 (q := 289) (q' := 274) (by decide) rfl rfl (fun c_ => absurd (af1 t1 t2 t3 p0 p1 p2 u v g1 g2 g3 q0 q1 q2) c_) (fun _ => ?_)
    refine Go.aload at_274 (q := 276) rfl rfl rfl ?_
    refine Go.callVV (P := fun w h' => w = .long ((0 + u + v) - (c2 t1 t2 u v) p0.toNatClampNeg) ∧ y5 = h') (argsL := []) (rest := []) (wd := 0) (Ls1 := #[.val (.ref o)]) at_276 (q := 279) rfl (w44 hw) (w45 hw) (w47 hw) (w46 hw) (w48 hw) (w3 hw) (by decide) pn8 pd8 rfl rfl S5.exa (fun m => by simp [entryFrame, mkF, argsToLocals, Value.category]) rfl (by decide) rfl (by decide) (by decide) (by decide) (sk_total l Z a0 hw n0 y5 o S5 (Q := RV (fun w h' => w = .long ((0 + u + v) - (c2 t1 t2 u v) p0.toNatClampNeg) ∧ y5 = h')) ⟨_, rfl, rfl, rfl⟩) ?_
    rintro _ _ ⟨rfl, rfl⟩
    refine Go.lload at_279 (q := 281) rfl rfl ?_
    refine Go.lcmp at_281 (q := 282) rfl ?_
    refine Go.lif_ne at_282 (q := 289) (q' := 285) (by decide) rfl rfl (fun c_ => absurd (by rw [T5.1, (af1 t1 t2 t1 p0 p1 p2 u v g1 g2 g1 q0 q1 q2), (af1 t1 t2 t2 p0 p1 p2 u v g1 g2 g2 q0 q1 q2), if_neg c99]) c_) (fun _ => ?_)
    refine Go.iconst at_285 (q := 286) rfl (x := (1 : Int32)) (by decide) ?_
    refine Go.goto at_286 (q := 290) (by decide) rfl ?_
    refine Go.istore at_290 (q := 292) rfl (Ls' := #[.val (.int a), .val (.int b), .val (.int c), .val (.long u), .second, .val (.long v), .second, .val (.int fl), .val (.int t1), .val (.int t2), .val (.int t3), .val (.int (1 : Int32)), .val (.int p0), .val (.int p1), .val (.int p2), .val (.ref r), .val (.ref o), .val (.long (afF t1 t1 t2 u v (1 : Int32) p0 p1 p2)), .second, .val (.long (afF t2 t1 t2 u v (1 : Int32) p0 p1 p2)), .second, .val (.long (afF t3 t1 t2 u v (1 : Int32) p0 p1 p2)), .second, .val (.long ((afF t1 t1 t2 u v (1 : Int32) p0 p1 p2) + (afF t2 t1 t2 u v (1 : Int32) p0 p1 p2))), .second, .val (.int (1 : Int32)), .unset, .unset]) rfl ?_
    refine Go.aload at_292 (q := 294) rfl rfl rfl ?_
    refine Go.callVV (P := fun w h' => ∃ r kr, w = .ref r ∧ Ar Z h' r .int kr (two t1 t2)) (argsL := []) (rest := []) (wd := 0) (Ls1 := #[.val (.ref o), .unset, .unset, .unset, .unset, .unset]) at_294 (q := 297) rfl (w49 hw) (w50 hw) (w52 hw) (w51 hw) (w53 hw) (w3 hw) (by decide) pn9 pd9 rfl rfl S5.exa (fun m => by simp [entryFrame, mkF, argsToLocals, Value.category]) rfl (by decide) rfl (by decide) (by decide) (by decide) (sk_take l Z a0 hw n0 y5 o t1 t2 g1 g2 S5 (Q := RV (fun w h' => ∃ r kr, w = .ref r ∧ Ar Z h' r .int kr (two t1 t2))) (fun h' r kr q => ⟨_, rfl, r, kr, rfl, q⟩)) ?_
    rintro _ y6 ⟨r2, kr2, rfl, A5⟩
    refine Go.astore at_297 (q := 299) rfl rfl (Ls' := #[.val (.int a), .val (.int b), .val (.int c), .val (.long u), .second, .val (.long v), .second, .val (.int fl), .val (.int t1), .val (.int t2), .val (.int t3), .val (.int (1 : Int32)), .val (.int p0), .val (.int p1), .val (.int p2), .val (.ref r), .val (.ref o), .val (.long (afF t1 t1 t2 u v (1 : Int32) p0 p1 p2)), .second, .val (.long (afF t2 t1 t2 u v (1 : Int32) p0 p1 p2)), .second, .val (.long (afF t3 t1 t2 u v (1 : Int32) p0 p1 p2)), .second, .val (.long ((afF t1 t1 t2 u v (1 : Int32) p0 p1 p2) + (afF t2 t1 t2 u v (1 : Int32) p0 p1 p2))), .second, .val (.int (1 : Int32)), .val (.ref r2), .unset]) rfl ?_
    by_cases heq : t1 = t2
    · skip
      have A6 : Ar Z y6 r2 .int kr2 [.int t1] := by have q := A5; unfold two at q; rw [if_pos heq] at q; exact q
      refine Go.iload at_299 (q := 301) rfl rfl ?_
      refine Go.iload at_301 (q := 303) rfl rfl ?_
      refine Go.icmp_ne at_303 (q := 332) (q' := 306) (by decide) rfl rfl (fun c_ => absurd heq c_) (fun _ => ?_)
      refine Go.aload at_306 (q := 308) rfl rfl rfl ?_
      refine Go.arraylength at_308 (q := 309) rfl A6 (z := 1) rfl ?_
      refine Go.iconst at_309 (q := 310) rfl (x := (1 : Int32)) (by decide) ?_
      refine Go.icmp_ne at_310 (q := 326) (q' := 313) (by decide) rfl rfl (fun c_ => absurd (by decide) c_) (fun _ => ?_)
      refine Go.aload at_313 (q := 315) rfl rfl rfl ?_
      refine Go.iconst at_315 (q := 316) rfl (x := (0 : Int32)) (by decide) ?_
      refine Go.iaload at_316 (q := 317) rfl A6 (by decide) rfl ?_
      refine Go.iload at_317 (q := 319) rfl rfl ?_
      refine Go.icmp_ne at_319 (q := 326) (q' := 322) (by decide) rfl rfl (fun c_ => absurd rfl c_) (fun _ => ?_)
      refine Go.iconst at_322 (q := 323) rfl (x := (1 : Int32)) (by decide) ?_
      refine Go.goto at_323 (q := 327) (by decide) rfl ?_
      refine Go.istore at_327 (q := 329) rfl (Ls' := #[.val (.int a), .val (.int b), .val (.int c), .val (.long u), .second, .val (.long v), .second, .val (.int fl), .val (.int t1), .val (.int t2), .val (.int t3), .val (.int (1 : Int32)), .val (.int p0), .val (.int p1), .val (.int p2), .val (.ref r), .val (.ref o), .val (.long (afF t1 t1 t2 u v (1 : Int32) p0 p1 p2)), .second, .val (.long (afF t2 t1 t2 u v (1 : Int32) p0 p1 p2)), .second, .val (.long (afF t3 t1 t2 u v (1 : Int32) p0 p1 p2)), .second, .val (.long ((afF t1 t1 t2 u v (1 : Int32) p0 p1 p2) + (afF t2 t1 t2 u v (1 : Int32) p0 p1 p2))), .second, .val (.int (1 : Int32)), .val (.ref r2), .val (.int (1 : Int32))]) rfl ?_
      refine Go.goto at_329 (q := 374) (by decide) rfl ?_
      refine Go.iload at_374 (q := 376) rfl rfl ?_
      refine Go.if_eq at_376 (q := 388) (q' := 379) (by decide) rfl rfl (fun c_ => absurd c_ (by decide)) (fun _ => ?_)
      refine Go.iload at_379 (q := 381) rfl rfl ?_
      refine Go.if_eq at_381 (q := 388) (q' := 384) (by decide) rfl rfl (fun c_ => absurd c_ (by decide)) (fun _ => ?_)
      refine Go.iconst at_384 (q := 385) rfl (x := (1 : Int32)) (by decide) ?_
      refine Go.goto at_385 (q := 389) (by decide) rfl ?_
      refine Go.zreturn at_389 (by decide) (by decide) (by decide) ?_
      rfl
    · skip
      by_cases hlt : t1 < t2
      · skip
        have A6 : Ar Z y6 r2 .int kr2 [.int t1, .int t2] := by have q := A5; unfold two at q; rw [if_neg heq, if_pos hlt] at q; exact q
        have m1 : t1 = minF t1 t2 := by unfold minF; rw [if_neg (fun q => by rw [Int32.lt_iff_toInt_lt] at hlt q; omega)]
        have m2 : t2 = maxF t1 t2 := by unfold maxF; rw [if_pos hlt]
        refine Go.iload at_299 (q := 301) rfl rfl ?_
        refine Go.iload at_301 (q := 303) rfl rfl ?_
        refine Go.icmp_ne at_303 (q := 332) (q' := 306) (by decide) rfl rfl (fun _ => ?_) (fun c_ => absurd c_ heq)
        refine Go.aload at_332 (q := 334) rfl rfl rfl ?_
        refine Go.arraylength at_334 (q := 335) rfl A6 (z := 2) rfl ?_
        refine Go.iconst at_335 (q := 336) rfl (x := (2 : Int32)) (by decide) ?_
        refine Go.icmp_ne at_336 (q := 371) (q' := 339) (by decide) rfl rfl (fun c_ => absurd (by decide) c_) (fun _ => ?_)
        refine Go.aload at_339 (q := 341) rfl rfl rfl ?_
        refine Go.iconst at_341 (q := 342) rfl (x := (0 : Int32)) (by decide) ?_
        refine Go.iaload at_342 (q := 343) rfl A6 (by decide) rfl ?_
        refine Go.iload at_343 (q := 345) rfl rfl ?_
        refine Go.iload at_345 (q := 347) rfl rfl ?_
        refine Go.callSV (P := fun w h' => w = .int (minF t1 t2) ∧ y6 = h') (argsL := [(.int t1), (.int t2)]) (rest := [(.int t1)]) (wd := 1) (Ls1 := #[.val (.int t1), .val (.int t2)]) at_347 (q := 350) rfl (w63 hw) (w64 hw) (w65 hw) (w66 hw) (by decide) pn12 pd12 rfl rfl (fun m => by simp [entryFrame, mkF, argsToLocals, Value.category]) rfl (by decide) rfl (by decide) (by decide) (by decide) (b12 l Z a0 hw n0 y6 t1 t2 (Q := RV (fun w h' => w = .int (minF t1 t2) ∧ y6 = h')) ⟨_, rfl, rfl, rfl⟩) ?_
        rintro _ _ ⟨rfl, rfl⟩
        refine Go.icmp_ne at_350 (q := 371) (q' := 353) (by decide) rfl rfl (fun c_ => absurd m1 c_) (fun _ => ?_)
        refine Go.aload at_353 (q := 355) rfl rfl rfl ?_
        refine Go.iconst at_355 (q := 356) rfl (x := (1 : Int32)) (by decide) ?_
        refine Go.iaload at_356 (q := 357) rfl A6 (by decide) rfl ?_
        refine Go.iload at_357 (q := 359) rfl rfl ?_
        refine Go.iload at_359 (q := 361) rfl rfl ?_
        refine Go.callSV (P := fun w h' => w = .int (maxF t1 t2) ∧ y6 = h') (argsL := [(.int t1), (.int t2)]) (rest := [(.int t2)]) (wd := 1) (Ls1 := #[.val (.int t1), .val (.int t2)]) at_361 (q := 364) rfl (w67 hw) (w68 hw) (w65 hw) (w69 hw) (by decide) pn13 pd13 rfl rfl (fun m => by simp [entryFrame, mkF, argsToLocals, Value.category]) rfl (by decide) rfl (by decide) (by decide) (by decide) (b13 l Z a0 hw n0 y6 t1 t2 (Q := RV (fun w h' => w = .int (maxF t1 t2) ∧ y6 = h')) ⟨_, rfl, rfl, rfl⟩) ?_
        rintro _ _ ⟨rfl, rfl⟩
        refine Go.icmp_ne at_364 (q := 371) (q' := 367) (by decide) rfl rfl (fun c_ => absurd m2 c_) (fun _ => ?_)
        refine Go.iconst at_367 (q := 368) rfl (x := (1 : Int32)) (by decide) ?_
        refine Go.goto at_368 (q := 372) (by decide) rfl ?_
        refine Go.istore at_372 (q := 374) rfl (Ls' := #[.val (.int a), .val (.int b), .val (.int c), .val (.long u), .second, .val (.long v), .second, .val (.int fl), .val (.int t1), .val (.int t2), .val (.int t3), .val (.int (1 : Int32)), .val (.int p0), .val (.int p1), .val (.int p2), .val (.ref r), .val (.ref o), .val (.long (afF t1 t1 t2 u v (1 : Int32) p0 p1 p2)), .second, .val (.long (afF t2 t1 t2 u v (1 : Int32) p0 p1 p2)), .second, .val (.long (afF t3 t1 t2 u v (1 : Int32) p0 p1 p2)), .second, .val (.long ((afF t1 t1 t2 u v (1 : Int32) p0 p1 p2) + (afF t2 t1 t2 u v (1 : Int32) p0 p1 p2))), .second, .val (.int (1 : Int32)), .val (.ref r2), .val (.int (1 : Int32))]) rfl ?_
        refine Go.iload at_374 (q := 376) rfl rfl ?_
        refine Go.if_eq at_376 (q := 388) (q' := 379) (by decide) rfl rfl (fun c_ => absurd c_ (by decide)) (fun _ => ?_)
        refine Go.iload at_379 (q := 381) rfl rfl ?_
        refine Go.if_eq at_381 (q := 388) (q' := 384) (by decide) rfl rfl (fun c_ => absurd c_ (by decide)) (fun _ => ?_)
        refine Go.iconst at_384 (q := 385) rfl (x := (1 : Int32)) (by decide) ?_
        refine Go.goto at_385 (q := 389) (by decide) rfl ?_
        refine Go.zreturn at_389 (by decide) (by decide) (by decide) ?_
        rfl
      · skip
        have A6 : Ar Z y6 r2 .int kr2 [.int t2, .int t1] := by have q := A5; unfold two at q; rw [if_neg heq, if_neg hlt] at q; exact q
        have hgt : t2 < t1 := by rw [Int32.lt_iff_toInt_lt] at hlt ⊢; have q := heq; rw [← Int32.toInt_inj] at q; omega
        have m1 : t2 = minF t1 t2 := by unfold minF; rw [if_pos hgt]
        have m2 : t1 = maxF t1 t2 := by unfold maxF; rw [if_neg hlt]
        refine Go.iload at_299 (q := 301) rfl rfl ?_
        refine Go.iload at_301 (q := 303) rfl rfl ?_
        refine Go.icmp_ne at_303 (q := 332) (q' := 306) (by decide) rfl rfl (fun _ => ?_) (fun c_ => absurd c_ heq)
        refine Go.aload at_332 (q := 334) rfl rfl rfl ?_
        refine Go.arraylength at_334 (q := 335) rfl A6 (z := 2) rfl ?_
        refine Go.iconst at_335 (q := 336) rfl (x := (2 : Int32)) (by decide) ?_
        refine Go.icmp_ne at_336 (q := 371) (q' := 339) (by decide) rfl rfl (fun c_ => absurd (by decide) c_) (fun _ => ?_)
        refine Go.aload at_339 (q := 341) rfl rfl rfl ?_
        refine Go.iconst at_341 (q := 342) rfl (x := (0 : Int32)) (by decide) ?_
        refine Go.iaload at_342 (q := 343) rfl A6 (by decide) rfl ?_
        refine Go.iload at_343 (q := 345) rfl rfl ?_
        refine Go.iload at_345 (q := 347) rfl rfl ?_
        refine Go.callSV (P := fun w h' => w = .int (minF t1 t2) ∧ y6 = h') (argsL := [(.int t1), (.int t2)]) (rest := [(.int t2)]) (wd := 1) (Ls1 := #[.val (.int t1), .val (.int t2)]) at_347 (q := 350) rfl (w63 hw) (w64 hw) (w65 hw) (w66 hw) (by decide) pn12 pd12 rfl rfl (fun m => by simp [entryFrame, mkF, argsToLocals, Value.category]) rfl (by decide) rfl (by decide) (by decide) (by decide) (b12 l Z a0 hw n0 y6 t1 t2 (Q := RV (fun w h' => w = .int (minF t1 t2) ∧ y6 = h')) ⟨_, rfl, rfl, rfl⟩) ?_
        rintro _ _ ⟨rfl, rfl⟩
        refine Go.icmp_ne at_350 (q := 371) (q' := 353) (by decide) rfl rfl (fun c_ => absurd m1 c_) (fun _ => ?_)
        refine Go.aload at_353 (q := 355) rfl rfl rfl ?_
        refine Go.iconst at_355 (q := 356) rfl (x := (1 : Int32)) (by decide) ?_
        refine Go.iaload at_356 (q := 357) rfl A6 (by decide) rfl ?_
        refine Go.iload at_357 (q := 359) rfl rfl ?_
        refine Go.iload at_359 (q := 361) rfl rfl ?_
        refine Go.callSV (P := fun w h' => w = .int (maxF t1 t2) ∧ y6 = h') (argsL := [(.int t1), (.int t2)]) (rest := [(.int t1)]) (wd := 1) (Ls1 := #[.val (.int t1), .val (.int t2)]) at_361 (q := 364) rfl (w67 hw) (w68 hw) (w65 hw) (w69 hw) (by decide) pn13 pd13 rfl rfl (fun m => by simp [entryFrame, mkF, argsToLocals, Value.category]) rfl (by decide) rfl (by decide) (by decide) (by decide) (b13 l Z a0 hw n0 y6 t1 t2 (Q := RV (fun w h' => w = .int (maxF t1 t2) ∧ y6 = h')) ⟨_, rfl, rfl, rfl⟩) ?_
        rintro _ _ ⟨rfl, rfl⟩
        refine Go.icmp_ne at_364 (q := 371) (q' := 367) (by decide) rfl rfl (fun c_ => absurd m2 c_) (fun _ => ?_)
        refine Go.iconst at_367 (q := 368) rfl (x := (1 : Int32)) (by decide) ?_
        refine Go.goto at_368 (q := 372) (by decide) rfl ?_
        refine Go.istore at_372 (q := 374) rfl (Ls' := #[.val (.int a), .val (.int b), .val (.int c), .val (.long u), .second, .val (.long v), .second, .val (.int fl), .val (.int t1), .val (.int t2), .val (.int t3), .val (.int (1 : Int32)), .val (.int p0), .val (.int p1), .val (.int p2), .val (.ref r), .val (.ref o), .val (.long (afF t1 t1 t2 u v (1 : Int32) p0 p1 p2)), .second, .val (.long (afF t2 t1 t2 u v (1 : Int32) p0 p1 p2)), .second, .val (.long (afF t3 t1 t2 u v (1 : Int32) p0 p1 p2)), .second, .val (.long ((afF t1 t1 t2 u v (1 : Int32) p0 p1 p2) + (afF t2 t1 t2 u v (1 : Int32) p0 p1 p2))), .second, .val (.int (1 : Int32)), .val (.ref r2), .val (.int (1 : Int32))]) rfl ?_
        refine Go.iload at_374 (q := 376) rfl rfl ?_
        refine Go.if_eq at_376 (q := 388) (q' := 379) (by decide) rfl rfl (fun c_ => absurd c_ (by decide)) (fun _ => ?_)
        refine Go.iload at_379 (q := 381) rfl rfl ?_
        refine Go.if_eq at_381 (q := 388) (q' := 384) (by decide) rfl rfl (fun c_ => absurd c_ (by decide)) (fun _ => ?_)
        refine Go.iconst at_384 (q := 385) rfl (x := (1 : Int32)) (by decide) ?_
        refine Go.goto at_385 (q := 389) (by decide) rfl ?_
        refine Go.zreturn at_389 (by decide) (by decide) (by decide) ?_
        rfl
set_option maxRecDepth 65536 in
set_option maxHeartbeats 40000000 in
theorem j77_2 (l : Launch) (Z : State) (a0 : Array Value) (hw : Hw a0 Z) (n0 : Nat) (h : Heap) (O : Old Z n0 h) (a b c fl t1 t2 t3 p0 p1 p2 : Int32) (u v : Int64) (g1 : RG t1) (g2 : RG t2) (g3 : RG t3) (q0 : RG p0) (q1 : RG p1) (q2 : RG p2) :
    Go l Z x code maxLocals ret room_1 n0 (fun v _ => v = some (.int 1)) h 0 0 77 #[.val (.int a), .val (.int b), .val (.int c), .val (.long u), .second, .val (.long v), .second, .val (.int fl), .val (.int t1), .val (.int t2), .val (.int t3), .val (.int (2 : Int32)), .val (.int p0), .val (.int p1), .val (.int p2), .unset, .unset, .unset, .unset, .unset, .unset, .unset, .unset, .unset, .unset, .unset, .unset, .unset] [] := by
  refine Go.iload at_77 (q := 79) rfl rfl ?_
  refine Go.newarray (cap := 3) at_79 (q := 81) rfl (w0 hw) (by decide) (by decide) (by decide) (by decide) (by decide) ?_
  intro x0 r kr er Xr Ar0
  have nr : n0 ≤ r := new_le (O.1 ▸ O.2.1) er
  have O0 := O.ext Xr
  have A0 : Ar Z x0 r .int kr [.int 0, .int 0] := Ar0
  refine Go.astore at_81 (q := 83) rfl rfl (Ls' := #[.val (.int a), .val (.int b), .val (.int c), .val (.long u), .second, .val (.long v), .second, .val (.int fl), .val (.int t1), .val (.int t2), .val (.int t3), .val (.int (2 : Int32)), .val (.int p0), .val (.int p1), .val (.int p2), .val (.ref r), .unset, .unset, .unset, .unset, .unset, .unset, .unset, .unset, .unset, .unset, .unset, .unset]) rfl ?_
  refine Go.iload at_83 (q := 85) rfl rfl ?_
  refine Go.if_le at_85 (q := 94) (q' := 88) (by decide) rfl rfl (fun c_ => absurd (by decide) c_) (fun _ => ?_)
  refine Go.aload at_88 (q := 90) rfl rfl rfl ?_
  refine Go.iconst at_90 (q := 91) rfl (x := (0 : Int32)) (by decide) ?_
  refine Go.iload at_91 (q := 93) rfl rfl ?_
  refine Go.iastore at_93 (q := 94) rfl A0 (by decide) (by simp only [List.length_cons, List.length_nil]; decide) nr ?_
  intro x1 W1
  have A1 : Ar Z x1 r .int kr [.int p0, .int 0] := A0.set W1
  have O1 := O0.wr W1 nr
  refine Go.iload at_94 (q := 96) rfl rfl ?_
  refine Go.iconst at_96 (q := 97) rfl (x := (1 : Int32)) (by decide) ?_
  refine Go.icmp_le at_97 (q := 106) (q' := 100) (by decide) rfl rfl (fun c_ => absurd (by decide) c_) (fun _ => ?_)
  refine Go.aload at_100 (q := 102) rfl rfl rfl ?_
  refine Go.iconst at_102 (q := 103) rfl (x := (1 : Int32)) (by decide) ?_
  refine Go.iload at_103 (q := 105) rfl rfl ?_
  refine Go.iastore at_105 (q := 106) rfl A1 (by decide) (by simp only [List.length_cons, List.length_nil]; decide) nr ?_
  intro x2 W2
  have A2 : Ar Z x2 r .int kr [.int p0, .int p1] := A1.set W2
  have O2 := O1.wr W2 nr
  refine Go.iload at_106 (q := 108) rfl rfl ?_
  refine Go.iconst at_108 (q := 109) rfl (x := (2 : Int32)) (by decide) ?_
  refine Go.icmp_le at_109 (q := 118) (q' := 112) (by decide) rfl rfl (fun _ => ?_) (fun c_ => absurd c_ (by decide))
  refine Go.new at_118 (q := 121) rfl (w1 hw) (w2 hw) (w3 hw) (by decide) (by decide) ?_
  intro y1 o e1 X1 E1 D1
  have no : n0 ≤ o := new_le (O2.1 ▸ O2.2.1) e1
  have B1 := A2.ext X1
  have ne : o ≠ r := Ne.symm (new_ne A2.lt e1)
  refine Go.dup at_121 (q := 122) rfl rfl ?_
  refine Go.callIN (P := fun h' => IK Z o y1 h' ∧ SK Z h' n0 o zeroC zeroC 0 0) (argsL := []) (rest := [(.ref o)]) (wd := 1) (Ls1 := #[.val (.ref o)]) at_122 (q := 125) rfl rfl (w4 hw) (w5 hw) (w3 hw) (w6 hw) (by decide) pn1 pd1 rfl rfl (fun m => by simp [entryFrame, mkF, argsToLocals, Value.category]) rfl (by decide) rfl (by decide) (by decide) (by decide) (sk_init l Z a0 hw n0 y1 o no E1 (D1 (Or.inr (w13 hw)) pT1) (D1 (Or.inr (w16 hw)) pT2) (D1 (Or.inl (w24 hw)) pT3) (D1 (Or.inl (w26 hw)) pT4) (Q := RN (fun h' => IK Z o y1 h' ∧ SK Z h' n0 o zeroC zeroC 0 0)) (fun h' i q => ⟨rfl, i, q⟩)) ?_
  rintro y2 ⟨i2, S2⟩
  have B2 := i2 _ _ _ ne B1
  refine Go.astore at_125 (q := 127) rfl rfl (Ls' := #[.val (.int a), .val (.int b), .val (.int c), .val (.long u), .second, .val (.long v), .second, .val (.int fl), .val (.int t1), .val (.int t2), .val (.int t3), .val (.int (2 : Int32)), .val (.int p0), .val (.int p1), .val (.int p2), .val (.ref r), .val (.ref o), .unset, .unset, .unset, .unset, .unset, .unset, .unset, .unset, .unset, .unset, .unset]) rfl ?_
  refine Go.aload at_127 (q := 129) rfl rfl rfl ?_
  refine Go.iload at_129 (q := 131) rfl rfl ?_
  refine Go.lloadN at_131 (q := 132) rfl rfl ?_
  refine Go.callVN (P := fun h' => IK Z o y2 h' ∧ SK Z h' n0 o (c1 t1 u) (chgN zeroC t1) (0 + u) (chsN zeroC t1 0)) (argsL := [(.int t1), (.long u)]) (rest := []) (wd := 0) (Ls1 := #[.val (.ref o), .val (.int t1), .val (.long u), .second, .unset, .unset, .unset]) at_132 (q := 135) rfl (w17 hw) (w18 hw) (w20 hw) (w19 hw) (w21 hw) (w3 hw) (by decide) pn3 pd3 rfl rfl S2.exa (fun m => by simp [entryFrame, mkF, argsToLocals, Value.category]) rfl (by decide) rfl (by decide) (by decide) (by decide) (sk_add l Z a0 hw n0 y2 o t1 g1 u S2 (Q := RN (fun h' => IK Z o y2 h' ∧ SK Z h' n0 o (c1 t1 u) (chgN zeroC t1) (0 + u) (chsN zeroC t1 0))) (fun h' i q => ⟨rfl, i, q⟩)) ?_
  rintro y3 ⟨i3, S3⟩
  have B3 := i3 _ _ _ ne B2
  refine Go.aload at_135 (q := 137) rfl rfl rfl ?_
  refine Go.iload at_137 (q := 139) rfl rfl ?_
  refine Go.lload at_139 (q := 141) rfl rfl ?_
  refine Go.callVN (P := fun h' => IK Z o y3 h' ∧ SK Z h' n0 o (c2 t1 t2 u v) (chgN (chgN zeroC t1) t2) (0 + u + v) (chsN (chgN zeroC t1) t2 (chsN zeroC t1 0))) (argsL := [(.int t2), (.long v)]) (rest := []) (wd := 0) (Ls1 := #[.val (.ref o), .val (.int t2), .val (.long v), .second, .unset, .unset, .unset]) at_141 (q := 144) rfl (w17 hw) (w18 hw) (w20 hw) (w19 hw) (w21 hw) (w3 hw) (by decide) pn3 pd3 rfl rfl S3.exa (fun m => by simp [entryFrame, mkF, argsToLocals, Value.category]) rfl (by decide) rfl (by decide) (by decide) (by decide) (sk_add l Z a0 hw n0 y3 o t2 g2 v S3 (Q := RN (fun h' => IK Z o y3 h' ∧ SK Z h' n0 o (c2 t1 t2 u v) (chgN (chgN zeroC t1) t2) (0 + u + v) (chsN (chgN zeroC t1) t2 (chsN zeroC t1 0)))) (fun h' i q => ⟨rfl, i, q⟩)) ?_
  rintro y4 ⟨i4, S4⟩
  have B4 := i4 _ _ _ ne B3
  refine Go.aload at_144 (q := 146) rfl rfl rfl ?_
  refine Go.aload at_146 (q := 148) rfl rfl rfl ?_
  refine Go.callVN (P := fun h' => SK Z h' n0 o (upd (upd (c2 t1 t2 u v) p0.toNatClampNeg 0) p1.toNatClampNeg 0) (chgN (chgN zeroC t1) t2) (((0 + u + v) - (c2 t1 t2 u v) p0.toNatClampNeg) - (upd (c2 t1 t2 u v) p0.toNatClampNeg 0) p1.toNatClampNeg) (chsN (chgN zeroC t1) t2 (chsN zeroC t1 0))) (argsL := [(.ref r)]) (rest := []) (wd := 0) (Ls1 := #[.val (.ref o), .val (.ref r), .unset, .unset, .unset, .unset, .unset]) at_148 (q := 151) rfl (w27 hw) (w28 hw) (w30 hw) (w29 hw) (w31 hw) (w3 hw) (by decide) pn4 pd4 rfl rfl S4.exa (fun m => by simp [entryFrame, mkF, argsToLocals, Value.category]) rfl (by decide) rfl (by decide) (by decide) (by decide) (clr2 l Z a0 hw n0 y4 p0 p1 q0 q1 S4 B4 ne (Q := RN (fun h' => SK Z h' n0 o (upd (upd (c2 t1 t2 u v) p0.toNatClampNeg 0) p1.toNatClampNeg 0) (chgN (chgN zeroC t1) t2) (((0 + u + v) - (c2 t1 t2 u v) p0.toNatClampNeg) - (upd (c2 t1 t2 u v) p0.toNatClampNeg 0) p1.toNatClampNeg) (chsN (chgN zeroC t1) t2 (chsN zeroC t1 0)))) (fun h' q => ⟨rfl, q⟩)) ?_
  intro y5 S5
  have T5 := ti_step g1 g2 q1 (ti_step g1 g2 q0 (ti_start t1 t2 u v g1 g2))
  refine Go.iload at_151 (q := 153) rfl rfl ?_
  refine Go.iload at_153 (q := 155) rfl rfl ?_
  refine Go.iload at_155 (q := 157) rfl rfl ?_
  refine Go.lloadN at_157 (q := 158) rfl rfl ?_
  refine Go.lload at_158 (q := 160) rfl rfl ?_
  refine Go.iload at_160 (q := 162) rfl rfl ?_
  refine Go.iload at_162 (q := 164) rfl rfl ?_
  refine Go.iload at_164 (q := 166) rfl rfl ?_
  refine Go.iload at_166 (q := 168) rfl rfl ?_
  refine Go.callSV (P := fun w h' => w = .long (afF t1 t1 t2 u v (2 : Int32) p0 p1 p2) ∧ y5 = h') (argsL := [(.int t1), (.int t1), (.int t2), (.long u), (.long v), (.int (2 : Int32)), (.int p0), (.int p1), (.int p2)]) (rest := []) (wd := 0) (Ls1 := #[.val (.int t1), .val (.int t1), .val (.int t2), .val (.long u), .second, .val (.long v), .second, .val (.int (2 : Int32)), .val (.int p0), .val (.int p1), .val (.int p2), .unset, .unset]) at_168 (q := 171) rfl (w32 hw) (w33 hw) (w34 hw) (w35 hw) (by decide) pn5 pd5 rfl rfl (fun m => by simp [entryFrame, mkF, argsToLocals, Value.category]) rfl (by decide) rfl (by decide) (by decide) (by decide) (b5 l Z a0 hw n0 y5 t1 t1 t2 u v (2 : Int32) p0 p1 p2 (Q := RV (fun w h' => w = .long (afF t1 t1 t2 u v (2 : Int32) p0 p1 p2) ∧ y5 = h')) ⟨_, rfl, rfl, rfl⟩) ?_
  rintro _ _ ⟨rfl, rfl⟩
  refine Go.lstore at_171 (q := 173) rfl (Ls' := #[.val (.int a), .val (.int b), .val (.int c), .val (.long u), .second, .val (.long v), .second, .val (.int fl), .val (.int t1), .val (.int t2), .val (.int t3), .val (.int (2 : Int32)), .val (.int p0), .val (.int p1), .val (.int p2), .val (.ref r), .val (.ref o), .val (.long (afF t1 t1 t2 u v (2 : Int32) p0 p1 p2)), .second, .unset, .unset, .unset, .unset, .unset, .unset, .unset, .unset, .unset]) rfl ?_
  refine Go.iload at_173 (q := 175) rfl rfl ?_
  refine Go.iload at_175 (q := 177) rfl rfl ?_
  refine Go.iload at_177 (q := 179) rfl rfl ?_
  refine Go.lloadN at_179 (q := 180) rfl rfl ?_
  refine Go.lload at_180 (q := 182) rfl rfl ?_
  refine Go.iload at_182 (q := 184) rfl rfl ?_
  refine Go.iload at_184 (q := 186) rfl rfl ?_
  refine Go.iload at_186 (q := 188) rfl rfl ?_
  refine Go.iload at_188 (q := 190) rfl rfl ?_
  refine Go.callSV (P := fun w h' => w = .long (afF t2 t1 t2 u v (2 : Int32) p0 p1 p2) ∧ y5 = h') (argsL := [(.int t2), (.int t1), (.int t2), (.long u), (.long v), (.int (2 : Int32)), (.int p0), (.int p1), (.int p2)]) (rest := []) (wd := 0) (Ls1 := #[.val (.int t2), .val (.int t1), .val (.int t2), .val (.long u), .second, .val (.long v), .second, .val (.int (2 : Int32)), .val (.int p0), .val (.int p1), .val (.int p2), .unset, .unset]) at_190 (q := 193) rfl (w32 hw) (w33 hw) (w34 hw) (w35 hw) (by decide) pn5 pd5 rfl rfl (fun m => by simp [entryFrame, mkF, argsToLocals, Value.category]) rfl (by decide) rfl (by decide) (by decide) (by decide) (b5 l Z a0 hw n0 y5 t2 t1 t2 u v (2 : Int32) p0 p1 p2 (Q := RV (fun w h' => w = .long (afF t2 t1 t2 u v (2 : Int32) p0 p1 p2) ∧ y5 = h')) ⟨_, rfl, rfl, rfl⟩) ?_
  rintro _ _ ⟨rfl, rfl⟩
  refine Go.lstore at_193 (q := 195) rfl (Ls' := #[.val (.int a), .val (.int b), .val (.int c), .val (.long u), .second, .val (.long v), .second, .val (.int fl), .val (.int t1), .val (.int t2), .val (.int t3), .val (.int (2 : Int32)), .val (.int p0), .val (.int p1), .val (.int p2), .val (.ref r), .val (.ref o), .val (.long (afF t1 t1 t2 u v (2 : Int32) p0 p1 p2)), .second, .val (.long (afF t2 t1 t2 u v (2 : Int32) p0 p1 p2)), .second, .unset, .unset, .unset, .unset, .unset, .unset, .unset]) rfl ?_
  refine Go.iload at_195 (q := 197) rfl rfl ?_
  refine Go.iload at_197 (q := 199) rfl rfl ?_
  refine Go.iload at_199 (q := 201) rfl rfl ?_
  refine Go.lloadN at_201 (q := 202) rfl rfl ?_
  refine Go.lload at_202 (q := 204) rfl rfl ?_
  refine Go.iload at_204 (q := 206) rfl rfl ?_
  refine Go.iload at_206 (q := 208) rfl rfl ?_
  refine Go.iload at_208 (q := 210) rfl rfl ?_
  refine Go.iload at_210 (q := 212) rfl rfl ?_
  refine Go.callSV (P := fun w h' => w = .long (afF t3 t1 t2 u v (2 : Int32) p0 p1 p2) ∧ y5 = h') (argsL := [(.int t3), (.int t1), (.int t2), (.long u), (.long v), (.int (2 : Int32)), (.int p0), (.int p1), (.int p2)]) (rest := []) (wd := 0) (Ls1 := #[.val (.int t3), .val (.int t1), .val (.int t2), .val (.long u), .second, .val (.long v), .second, .val (.int (2 : Int32)), .val (.int p0), .val (.int p1), .val (.int p2), .unset, .unset]) at_212 (q := 215) rfl (w32 hw) (w33 hw) (w34 hw) (w35 hw) (by decide) pn5 pd5 rfl rfl (fun m => by simp [entryFrame, mkF, argsToLocals, Value.category]) rfl (by decide) rfl (by decide) (by decide) (by decide) (b5 l Z a0 hw n0 y5 t3 t1 t2 u v (2 : Int32) p0 p1 p2 (Q := RV (fun w h' => w = .long (afF t3 t1 t2 u v (2 : Int32) p0 p1 p2) ∧ y5 = h')) ⟨_, rfl, rfl, rfl⟩) ?_
  rintro _ _ ⟨rfl, rfl⟩
  refine Go.lstore at_215 (q := 217) rfl (Ls' := #[.val (.int a), .val (.int b), .val (.int c), .val (.long u), .second, .val (.long v), .second, .val (.int fl), .val (.int t1), .val (.int t2), .val (.int t3), .val (.int (2 : Int32)), .val (.int p0), .val (.int p1), .val (.int p2), .val (.ref r), .val (.ref o), .val (.long (afF t1 t1 t2 u v (2 : Int32) p0 p1 p2)), .second, .val (.long (afF t2 t1 t2 u v (2 : Int32) p0 p1 p2)), .second, .val (.long (afF t3 t1 t2 u v (2 : Int32) p0 p1 p2)), .second, .unset, .unset, .unset, .unset, .unset]) rfl ?_
  refine Go.lload at_217 (q := 219) rfl rfl ?_
  refine Go.iload at_219 (q := 221) rfl rfl ?_
  refine Go.iload at_221 (q := 223) rfl rfl ?_
  refine Go.icmp_eq at_223 (q := 231) (q' := 226) (by decide) rfl rfl (fun c145 => ?_) (fun c145 => ?_)
  · skip
    refine Go.lconst at_231 (q := 232) rfl (x := (0 : Int64)) (by decide) ?_
    refine Go.ladd at_232 (q := 233) rfl ?_
    refine Go.lstore at_233 (q := 235) rfl (Ls' := #[.val (.int a), .val (.int b), .val (.int c), .val (.long u), .second, .val (.long v), .second, .val (.int fl), .val (.int t1), .val (.int t2), .val (.int t3), .val (.int (2 : Int32)), .val (.int p0), .val (.int p1), .val (.int p2), .val (.ref r), .val (.ref o), .val (.long (afF t1 t1 t2 u v (2 : Int32) p0 p1 p2)), .second, .val (.long (afF t2 t1 t2 u v (2 : Int32) p0 p1 p2)), .second, .val (.long (afF t3 t1 t2 u v (2 : Int32) p0 p1 p2)), .second, .val (.long ((afF t1 t1 t2 u v (2 : Int32) p0 p1 p2) + (0 : Int64))), .second, .unset, .unset, .unset]) rfl ?_
    refine Go.aload at_235 (q := 237) rfl rfl rfl ?_
    refine Go.iload at_237 (q := 239) rfl rfl ?_
    refine Go.callVV (P := fun w h' => w = .long ((upd (upd (c2 t1 t2 u v) p0.toNatClampNeg 0) p1.toNatClampNeg 0) t1.toNatClampNeg) ∧ y5 = h') (argsL := [(.int t1)]) (rest := []) (wd := 0) (Ls1 := #[.val (.ref o), .val (.int t1), .unset]) at_239 (q := 242) rfl (w39 hw) (w40 hw) (w42 hw) (w41 hw) (w43 hw) (w3 hw) (by decide) pn7 pd7 rfl rfl S5.exa (fun m => by simp [entryFrame, mkF, argsToLocals, Value.category]) rfl (by decide) rfl (by decide) (by decide) (by decide) (sk_of l Z a0 hw n0 y5 o t1 g1 S5 (Q := RV (fun w h' => w = .long ((upd (upd (c2 t1 t2 u v) p0.toNatClampNeg 0) p1.toNatClampNeg 0) t1.toNatClampNeg) ∧ y5 = h')) ⟨_, rfl, rfl, rfl⟩) ?_
    rintro _ _ ⟨rfl, rfl⟩
    refine Go.lload at_242 (q := 244) rfl rfl ?_
    refine Go.lcmp at_244 (q := 245) rfl ?_
    refine Go.lif_ne at_245 (q := 289) (q' := 248) (by decide) rfl rfl (fun c_ => absurd (af2 t1 t2 t1 p0 p1 p2 u v g1 g2 g1 q0 q1 q2) c_) (fun _ => ?_)
    refine Go.aload at_248 (q := 250) rfl rfl rfl ?_
    refine Go.iload at_250 (q := 252) rfl rfl ?_
    refine Go.callVV (P := fun w h' => w = .long ((upd (upd (c2 t1 t2 u v) p0.toNatClampNeg 0) p1.toNatClampNeg 0) t2.toNatClampNeg) ∧ y5 = h') (argsL := [(.int t2)]) (rest := []) (wd := 0) (Ls1 := #[.val (.ref o), .val (.int t2), .unset]) at_252 (q := 255) rfl (w39 hw) (w40 hw) (w42 hw) (w41 hw) (w43 hw) (w3 hw) (by decide) pn7 pd7 rfl rfl S5.exa (fun m => by simp [entryFrame, mkF, argsToLocals, Value.category]) rfl (by decide) rfl (by decide) (by decide) (by decide) (sk_of l Z a0 hw n0 y5 o t2 g2 S5 (Q := RV (fun w h' => w = .long ((upd (upd (c2 t1 t2 u v) p0.toNatClampNeg 0) p1.toNatClampNeg 0) t2.toNatClampNeg) ∧ y5 = h')) ⟨_, rfl, rfl, rfl⟩) ?_
    rintro _ _ ⟨rfl, rfl⟩
    refine Go.lload at_255 (q := 257) rfl rfl ?_
    refine Go.lcmp at_257 (q := 258) rfl ?_
    refine Go.lif_ne at_258 (q := 289) (q' := 261) (by decide) rfl rfl (fun c_ => absurd (af2 t1 t2 t2 p0 p1 p2 u v g1 g2 g2 q0 q1 q2) c_) (fun _ => ?_)
    refine Go.aload at_261 (q := 263) rfl rfl rfl ?_
    refine Go.iload at_263 (q := 265) rfl rfl ?_
    refine Go.callVV (P := fun w h' => w = .long ((upd (upd (c2 t1 t2 u v) p0.toNatClampNeg 0) p1.toNatClampNeg 0) t3.toNatClampNeg) ∧ y5 = h') (argsL := [(.int t3)]) (rest := []) (wd := 0) (Ls1 := #[.val (.ref o), .val (.int t3), .unset]) at_265 (q := 268) rfl (w39 hw) (w40 hw) (w42 hw) (w41 hw) (w43 hw) (w3 hw) (by decide) pn7 pd7 rfl rfl S5.exa (fun m => by simp [entryFrame, mkF, argsToLocals, Value.category]) rfl (by decide) rfl (by decide) (by decide) (by decide) (sk_of l Z a0 hw n0 y5 o t3 g3 S5 (Q := RV (fun w h' => w = .long ((upd (upd (c2 t1 t2 u v) p0.toNatClampNeg 0) p1.toNatClampNeg 0) t3.toNatClampNeg) ∧ y5 = h')) ⟨_, rfl, rfl, rfl⟩) ?_
    rintro _ _ ⟨rfl, rfl⟩
    refine Go.lload at_268 (q := 270) rfl rfl ?_
    refine Go.lcmp at_270 (q := 271) rfl ?_
    refine Go.lif_ne at_271 (q := 289) (q' := 274) (by decide) rfl rfl (fun c_ => absurd (af2 t1 t2 t3 p0 p1 p2 u v g1 g2 g3 q0 q1 q2) c_) (fun _ => ?_)
    refine Go.aload at_274 (q := 276) rfl rfl rfl ?_
    refine Go.callVV (P := fun w h' => w = .long (((0 + u + v) - (c2 t1 t2 u v) p0.toNatClampNeg) - (upd (c2 t1 t2 u v) p0.toNatClampNeg 0) p1.toNatClampNeg) ∧ y5 = h') (argsL := []) (rest := []) (wd := 0) (Ls1 := #[.val (.ref o)]) at_276 (q := 279) rfl (w44 hw) (w45 hw) (w47 hw) (w46 hw) (w48 hw) (w3 hw) (by decide) pn8 pd8 rfl rfl S5.exa (fun m => by simp [entryFrame, mkF, argsToLocals, Value.category]) rfl (by decide) rfl (by decide) (by decide) (by decide) (sk_total l Z a0 hw n0 y5 o S5 (Q := RV (fun w h' => w = .long (((0 + u + v) - (c2 t1 t2 u v) p0.toNatClampNeg) - (upd (c2 t1 t2 u v) p0.toNatClampNeg 0) p1.toNatClampNeg) ∧ y5 = h')) ⟨_, rfl, rfl, rfl⟩) ?_
    rintro _ _ ⟨rfl, rfl⟩
    refine Go.lload at_279 (q := 281) rfl rfl ?_
    refine Go.lcmp at_281 (q := 282) rfl ?_
    refine Go.lif_ne at_282 (q := 289) (q' := 285) (by decide) rfl rfl (fun c_ => absurd (by rw [T5.1, (af2 t1 t2 t1 p0 p1 p2 u v g1 g2 g1 q0 q1 q2), (af2 t1 t2 t2 p0 p1 p2 u v g1 g2 g2 q0 q1 q2), if_pos c145]) c_) (fun _ => ?_)
    refine Go.iconst at_285 (q := 286) rfl (x := (1 : Int32)) (by decide) ?_
    refine Go.goto at_286 (q := 290) (by decide) rfl ?_
    refine Go.istore at_290 (q := 292) rfl (Ls' := #[.val (.int a), .val (.int b), .val (.int c), .val (.long u), .second, .val (.long v), .second, .val (.int fl), .val (.int t1), .val (.int t2), .val (.int t3), .val (.int (2 : Int32)), .val (.int p0), .val (.int p1), .val (.int p2), .val (.ref r), .val (.ref o), .val (.long (afF t1 t1 t2 u v (2 : Int32) p0 p1 p2)), .second, .val (.long (afF t2 t1 t2 u v (2 : Int32) p0 p1 p2)), .second, .val (.long (afF t3 t1 t2 u v (2 : Int32) p0 p1 p2)), .second, .val (.long ((afF t1 t1 t2 u v (2 : Int32) p0 p1 p2) + (0 : Int64))), .second, .val (.int (1 : Int32)), .unset, .unset]) rfl ?_
    refine Go.aload at_292 (q := 294) rfl rfl rfl ?_
    refine Go.callVV (P := fun w h' => ∃ r kr, w = .ref r ∧ Ar Z h' r .int kr (two t1 t2)) (argsL := []) (rest := []) (wd := 0) (Ls1 := #[.val (.ref o), .unset, .unset, .unset, .unset, .unset]) at_294 (q := 297) rfl (w49 hw) (w50 hw) (w52 hw) (w51 hw) (w53 hw) (w3 hw) (by decide) pn9 pd9 rfl rfl S5.exa (fun m => by simp [entryFrame, mkF, argsToLocals, Value.category]) rfl (by decide) rfl (by decide) (by decide) (by decide) (sk_take l Z a0 hw n0 y5 o t1 t2 g1 g2 S5 (Q := RV (fun w h' => ∃ r kr, w = .ref r ∧ Ar Z h' r .int kr (two t1 t2))) (fun h' r kr q => ⟨_, rfl, r, kr, rfl, q⟩)) ?_
    rintro _ y6 ⟨r2, kr2, rfl, A5⟩
    refine Go.astore at_297 (q := 299) rfl rfl (Ls' := #[.val (.int a), .val (.int b), .val (.int c), .val (.long u), .second, .val (.long v), .second, .val (.int fl), .val (.int t1), .val (.int t2), .val (.int t3), .val (.int (2 : Int32)), .val (.int p0), .val (.int p1), .val (.int p2), .val (.ref r), .val (.ref o), .val (.long (afF t1 t1 t2 u v (2 : Int32) p0 p1 p2)), .second, .val (.long (afF t2 t1 t2 u v (2 : Int32) p0 p1 p2)), .second, .val (.long (afF t3 t1 t2 u v (2 : Int32) p0 p1 p2)), .second, .val (.long ((afF t1 t1 t2 u v (2 : Int32) p0 p1 p2) + (0 : Int64))), .second, .val (.int (1 : Int32)), .val (.ref r2), .unset]) rfl ?_
    by_cases heq : t1 = t2
    · skip
      have A6 : Ar Z y6 r2 .int kr2 [.int t1] := by have q := A5; unfold two at q; rw [if_pos heq] at q; exact q
      refine Go.iload at_299 (q := 301) rfl rfl ?_
      refine Go.iload at_301 (q := 303) rfl rfl ?_
      refine Go.icmp_ne at_303 (q := 332) (q' := 306) (by decide) rfl rfl (fun c_ => absurd heq c_) (fun _ => ?_)
      refine Go.aload at_306 (q := 308) rfl rfl rfl ?_
      refine Go.arraylength at_308 (q := 309) rfl A6 (z := 1) rfl ?_
      refine Go.iconst at_309 (q := 310) rfl (x := (1 : Int32)) (by decide) ?_
      refine Go.icmp_ne at_310 (q := 326) (q' := 313) (by decide) rfl rfl (fun c_ => absurd (by decide) c_) (fun _ => ?_)
      refine Go.aload at_313 (q := 315) rfl rfl rfl ?_
      refine Go.iconst at_315 (q := 316) rfl (x := (0 : Int32)) (by decide) ?_
      refine Go.iaload at_316 (q := 317) rfl A6 (by decide) rfl ?_
      refine Go.iload at_317 (q := 319) rfl rfl ?_
      refine Go.icmp_ne at_319 (q := 326) (q' := 322) (by decide) rfl rfl (fun c_ => absurd rfl c_) (fun _ => ?_)
      refine Go.iconst at_322 (q := 323) rfl (x := (1 : Int32)) (by decide) ?_
      refine Go.goto at_323 (q := 327) (by decide) rfl ?_
      refine Go.istore at_327 (q := 329) rfl (Ls' := #[.val (.int a), .val (.int b), .val (.int c), .val (.long u), .second, .val (.long v), .second, .val (.int fl), .val (.int t1), .val (.int t2), .val (.int t3), .val (.int (2 : Int32)), .val (.int p0), .val (.int p1), .val (.int p2), .val (.ref r), .val (.ref o), .val (.long (afF t1 t1 t2 u v (2 : Int32) p0 p1 p2)), .second, .val (.long (afF t2 t1 t2 u v (2 : Int32) p0 p1 p2)), .second, .val (.long (afF t3 t1 t2 u v (2 : Int32) p0 p1 p2)), .second, .val (.long ((afF t1 t1 t2 u v (2 : Int32) p0 p1 p2) + (0 : Int64))), .second, .val (.int (1 : Int32)), .val (.ref r2), .val (.int (1 : Int32))]) rfl ?_
      refine Go.goto at_329 (q := 374) (by decide) rfl ?_
      refine Go.iload at_374 (q := 376) rfl rfl ?_
      refine Go.if_eq at_376 (q := 388) (q' := 379) (by decide) rfl rfl (fun c_ => absurd c_ (by decide)) (fun _ => ?_)
      refine Go.iload at_379 (q := 381) rfl rfl ?_
      refine Go.if_eq at_381 (q := 388) (q' := 384) (by decide) rfl rfl (fun c_ => absurd c_ (by decide)) (fun _ => ?_)
      refine Go.iconst at_384 (q := 385) rfl (x := (1 : Int32)) (by decide) ?_
      refine Go.goto at_385 (q := 389) (by decide) rfl ?_
      refine Go.zreturn at_389 (by decide) (by decide) (by decide) ?_
      rfl
    · skip
      by_cases hlt : t1 < t2
      · skip
        have A6 : Ar Z y6 r2 .int kr2 [.int t1, .int t2] := by have q := A5; unfold two at q; rw [if_neg heq, if_pos hlt] at q; exact q
        have m1 : t1 = minF t1 t2 := by unfold minF; rw [if_neg (fun q => by rw [Int32.lt_iff_toInt_lt] at hlt q; omega)]
        have m2 : t2 = maxF t1 t2 := by unfold maxF; rw [if_pos hlt]
        refine Go.iload at_299 (q := 301) rfl rfl ?_
        refine Go.iload at_301 (q := 303) rfl rfl ?_
        refine Go.icmp_ne at_303 (q := 332) (q' := 306) (by decide) rfl rfl (fun _ => ?_) (fun c_ => absurd c_ heq)
        refine Go.aload at_332 (q := 334) rfl rfl rfl ?_
        refine Go.arraylength at_334 (q := 335) rfl A6 (z := 2) rfl ?_
        refine Go.iconst at_335 (q := 336) rfl (x := (2 : Int32)) (by decide) ?_
        refine Go.icmp_ne at_336 (q := 371) (q' := 339) (by decide) rfl rfl (fun c_ => absurd (by decide) c_) (fun _ => ?_)
        refine Go.aload at_339 (q := 341) rfl rfl rfl ?_
        refine Go.iconst at_341 (q := 342) rfl (x := (0 : Int32)) (by decide) ?_
        refine Go.iaload at_342 (q := 343) rfl A6 (by decide) rfl ?_
        refine Go.iload at_343 (q := 345) rfl rfl ?_
        refine Go.iload at_345 (q := 347) rfl rfl ?_
        refine Go.callSV (P := fun w h' => w = .int (minF t1 t2) ∧ y6 = h') (argsL := [(.int t1), (.int t2)]) (rest := [(.int t1)]) (wd := 1) (Ls1 := #[.val (.int t1), .val (.int t2)]) at_347 (q := 350) rfl (w63 hw) (w64 hw) (w65 hw) (w66 hw) (by decide) pn12 pd12 rfl rfl (fun m => by simp [entryFrame, mkF, argsToLocals, Value.category]) rfl (by decide) rfl (by decide) (by decide) (by decide) (b12 l Z a0 hw n0 y6 t1 t2 (Q := RV (fun w h' => w = .int (minF t1 t2) ∧ y6 = h')) ⟨_, rfl, rfl, rfl⟩) ?_
        rintro _ _ ⟨rfl, rfl⟩
        refine Go.icmp_ne at_350 (q := 371) (q' := 353) (by decide) rfl rfl (fun c_ => absurd m1 c_) (fun _ => ?_)
        refine Go.aload at_353 (q := 355) rfl rfl rfl ?_
        refine Go.iconst at_355 (q := 356) rfl (x := (1 : Int32)) (by decide) ?_
        refine Go.iaload at_356 (q := 357) rfl A6 (by decide) rfl ?_
        refine Go.iload at_357 (q := 359) rfl rfl ?_
        refine Go.iload at_359 (q := 361) rfl rfl ?_
        refine Go.callSV (P := fun w h' => w = .int (maxF t1 t2) ∧ y6 = h') (argsL := [(.int t1), (.int t2)]) (rest := [(.int t2)]) (wd := 1) (Ls1 := #[.val (.int t1), .val (.int t2)]) at_361 (q := 364) rfl (w67 hw) (w68 hw) (w65 hw) (w69 hw) (by decide) pn13 pd13 rfl rfl (fun m => by simp [entryFrame, mkF, argsToLocals, Value.category]) rfl (by decide) rfl (by decide) (by decide) (by decide) (b13 l Z a0 hw n0 y6 t1 t2 (Q := RV (fun w h' => w = .int (maxF t1 t2) ∧ y6 = h')) ⟨_, rfl, rfl, rfl⟩) ?_
        rintro _ _ ⟨rfl, rfl⟩
        refine Go.icmp_ne at_364 (q := 371) (q' := 367) (by decide) rfl rfl (fun c_ => absurd m2 c_) (fun _ => ?_)
        refine Go.iconst at_367 (q := 368) rfl (x := (1 : Int32)) (by decide) ?_
        refine Go.goto at_368 (q := 372) (by decide) rfl ?_
        refine Go.istore at_372 (q := 374) rfl (Ls' := #[.val (.int a), .val (.int b), .val (.int c), .val (.long u), .second, .val (.long v), .second, .val (.int fl), .val (.int t1), .val (.int t2), .val (.int t3), .val (.int (2 : Int32)), .val (.int p0), .val (.int p1), .val (.int p2), .val (.ref r), .val (.ref o), .val (.long (afF t1 t1 t2 u v (2 : Int32) p0 p1 p2)), .second, .val (.long (afF t2 t1 t2 u v (2 : Int32) p0 p1 p2)), .second, .val (.long (afF t3 t1 t2 u v (2 : Int32) p0 p1 p2)), .second, .val (.long ((afF t1 t1 t2 u v (2 : Int32) p0 p1 p2) + (0 : Int64))), .second, .val (.int (1 : Int32)), .val (.ref r2), .val (.int (1 : Int32))]) rfl ?_
        refine Go.iload at_374 (q := 376) rfl rfl ?_
        refine Go.if_eq at_376 (q := 388) (q' := 379) (by decide) rfl rfl (fun c_ => absurd c_ (by decide)) (fun _ => ?_)
        refine Go.iload at_379 (q := 381) rfl rfl ?_
        refine Go.if_eq at_381 (q := 388) (q' := 384) (by decide) rfl rfl (fun c_ => absurd c_ (by decide)) (fun _ => ?_)
        refine Go.iconst at_384 (q := 385) rfl (x := (1 : Int32)) (by decide) ?_
        refine Go.goto at_385 (q := 389) (by decide) rfl ?_
        refine Go.zreturn at_389 (by decide) (by decide) (by decide) ?_
        rfl
      · skip
        have A6 : Ar Z y6 r2 .int kr2 [.int t2, .int t1] := by have q := A5; unfold two at q; rw [if_neg heq, if_neg hlt] at q; exact q
        have hgt : t2 < t1 := by rw [Int32.lt_iff_toInt_lt] at hlt ⊢; have q := heq; rw [← Int32.toInt_inj] at q; omega
        have m1 : t2 = minF t1 t2 := by unfold minF; rw [if_pos hgt]
        have m2 : t1 = maxF t1 t2 := by unfold maxF; rw [if_neg hlt]
        refine Go.iload at_299 (q := 301) rfl rfl ?_
        refine Go.iload at_301 (q := 303) rfl rfl ?_
        refine Go.icmp_ne at_303 (q := 332) (q' := 306) (by decide) rfl rfl (fun _ => ?_) (fun c_ => absurd c_ heq)
        refine Go.aload at_332 (q := 334) rfl rfl rfl ?_
        refine Go.arraylength at_334 (q := 335) rfl A6 (z := 2) rfl ?_
        refine Go.iconst at_335 (q := 336) rfl (x := (2 : Int32)) (by decide) ?_
        refine Go.icmp_ne at_336 (q := 371) (q' := 339) (by decide) rfl rfl (fun c_ => absurd (by decide) c_) (fun _ => ?_)
        refine Go.aload at_339 (q := 341) rfl rfl rfl ?_
        refine Go.iconst at_341 (q := 342) rfl (x := (0 : Int32)) (by decide) ?_
        refine Go.iaload at_342 (q := 343) rfl A6 (by decide) rfl ?_
        refine Go.iload at_343 (q := 345) rfl rfl ?_
        refine Go.iload at_345 (q := 347) rfl rfl ?_
        refine Go.callSV (P := fun w h' => w = .int (minF t1 t2) ∧ y6 = h') (argsL := [(.int t1), (.int t2)]) (rest := [(.int t2)]) (wd := 1) (Ls1 := #[.val (.int t1), .val (.int t2)]) at_347 (q := 350) rfl (w63 hw) (w64 hw) (w65 hw) (w66 hw) (by decide) pn12 pd12 rfl rfl (fun m => by simp [entryFrame, mkF, argsToLocals, Value.category]) rfl (by decide) rfl (by decide) (by decide) (by decide) (b12 l Z a0 hw n0 y6 t1 t2 (Q := RV (fun w h' => w = .int (minF t1 t2) ∧ y6 = h')) ⟨_, rfl, rfl, rfl⟩) ?_
        rintro _ _ ⟨rfl, rfl⟩
        refine Go.icmp_ne at_350 (q := 371) (q' := 353) (by decide) rfl rfl (fun c_ => absurd m1 c_) (fun _ => ?_)
        refine Go.aload at_353 (q := 355) rfl rfl rfl ?_
        refine Go.iconst at_355 (q := 356) rfl (x := (1 : Int32)) (by decide) ?_
        refine Go.iaload at_356 (q := 357) rfl A6 (by decide) rfl ?_
        refine Go.iload at_357 (q := 359) rfl rfl ?_
        refine Go.iload at_359 (q := 361) rfl rfl ?_
        refine Go.callSV (P := fun w h' => w = .int (maxF t1 t2) ∧ y6 = h') (argsL := [(.int t1), (.int t2)]) (rest := [(.int t1)]) (wd := 1) (Ls1 := #[.val (.int t1), .val (.int t2)]) at_361 (q := 364) rfl (w67 hw) (w68 hw) (w65 hw) (w69 hw) (by decide) pn13 pd13 rfl rfl (fun m => by simp [entryFrame, mkF, argsToLocals, Value.category]) rfl (by decide) rfl (by decide) (by decide) (by decide) (b13 l Z a0 hw n0 y6 t1 t2 (Q := RV (fun w h' => w = .int (maxF t1 t2) ∧ y6 = h')) ⟨_, rfl, rfl, rfl⟩) ?_
        rintro _ _ ⟨rfl, rfl⟩
        refine Go.icmp_ne at_364 (q := 371) (q' := 367) (by decide) rfl rfl (fun c_ => absurd m2 c_) (fun _ => ?_)
        refine Go.iconst at_367 (q := 368) rfl (x := (1 : Int32)) (by decide) ?_
        refine Go.goto at_368 (q := 372) (by decide) rfl ?_
        refine Go.istore at_372 (q := 374) rfl (Ls' := #[.val (.int a), .val (.int b), .val (.int c), .val (.long u), .second, .val (.long v), .second, .val (.int fl), .val (.int t1), .val (.int t2), .val (.int t3), .val (.int (2 : Int32)), .val (.int p0), .val (.int p1), .val (.int p2), .val (.ref r), .val (.ref o), .val (.long (afF t1 t1 t2 u v (2 : Int32) p0 p1 p2)), .second, .val (.long (afF t2 t1 t2 u v (2 : Int32) p0 p1 p2)), .second, .val (.long (afF t3 t1 t2 u v (2 : Int32) p0 p1 p2)), .second, .val (.long ((afF t1 t1 t2 u v (2 : Int32) p0 p1 p2) + (0 : Int64))), .second, .val (.int (1 : Int32)), .val (.ref r2), .val (.int (1 : Int32))]) rfl ?_
        refine Go.iload at_374 (q := 376) rfl rfl ?_
        refine Go.if_eq at_376 (q := 388) (q' := 379) (by decide) rfl rfl (fun c_ => absurd c_ (by decide)) (fun _ => ?_)
        refine Go.iload at_379 (q := 381) rfl rfl ?_
        refine Go.if_eq at_381 (q := 388) (q' := 384) (by decide) rfl rfl (fun c_ => absurd c_ (by decide)) (fun _ => ?_)
        refine Go.iconst at_384 (q := 385) rfl (x := (1 : Int32)) (by decide) ?_
        refine Go.goto at_385 (q := 389) (by decide) rfl ?_
        refine Go.zreturn at_389 (by decide) (by decide) (by decide) ?_
        rfl
  · skip
    refine Go.lload at_226 (q := 228) rfl rfl ?_
    refine Go.goto at_228 (q := 232) (by decide) rfl ?_
    refine Go.ladd at_232 (q := 233) rfl ?_
    refine Go.lstore at_233 (q := 235) rfl (Ls' := #[.val (.int a), .val (.int b), .val (.int c), .val (.long u), .second, .val (.long v), .second, .val (.int fl), .val (.int t1), .val (.int t2), .val (.int t3), .val (.int (2 : Int32)), .val (.int p0), .val (.int p1), .val (.int p2), .val (.ref r), .val (.ref o), .val (.long (afF t1 t1 t2 u v (2 : Int32) p0 p1 p2)), .second, .val (.long (afF t2 t1 t2 u v (2 : Int32) p0 p1 p2)), .second, .val (.long (afF t3 t1 t2 u v (2 : Int32) p0 p1 p2)), .second, .val (.long ((afF t1 t1 t2 u v (2 : Int32) p0 p1 p2) + (afF t2 t1 t2 u v (2 : Int32) p0 p1 p2))), .second, .unset, .unset, .unset]) rfl ?_
    refine Go.aload at_235 (q := 237) rfl rfl rfl ?_
    refine Go.iload at_237 (q := 239) rfl rfl ?_
    refine Go.callVV (P := fun w h' => w = .long ((upd (upd (c2 t1 t2 u v) p0.toNatClampNeg 0) p1.toNatClampNeg 0) t1.toNatClampNeg) ∧ y5 = h') (argsL := [(.int t1)]) (rest := []) (wd := 0) (Ls1 := #[.val (.ref o), .val (.int t1), .unset]) at_239 (q := 242) rfl (w39 hw) (w40 hw) (w42 hw) (w41 hw) (w43 hw) (w3 hw) (by decide) pn7 pd7 rfl rfl S5.exa (fun m => by simp [entryFrame, mkF, argsToLocals, Value.category]) rfl (by decide) rfl (by decide) (by decide) (by decide) (sk_of l Z a0 hw n0 y5 o t1 g1 S5 (Q := RV (fun w h' => w = .long ((upd (upd (c2 t1 t2 u v) p0.toNatClampNeg 0) p1.toNatClampNeg 0) t1.toNatClampNeg) ∧ y5 = h')) ⟨_, rfl, rfl, rfl⟩) ?_
    rintro _ _ ⟨rfl, rfl⟩
    refine Go.lload at_242 (q := 244) rfl rfl ?_
    refine Go.lcmp at_244 (q := 245) rfl ?_
    refine Go.lif_ne at_245 (q := 289) (q' := 248) (by decide) rfl rfl (fun c_ => absurd (af2 t1 t2 t1 p0 p1 p2 u v g1 g2 g1 q0 q1 q2) c_) (fun _ => ?_)
    refine Go.aload at_248 (q := 250) rfl rfl rfl ?_
    refine Go.iload at_250 (q := 252) rfl rfl ?_
    refine Go.callVV (P := fun w h' => w = .long ((upd (upd (c2 t1 t2 u v) p0.toNatClampNeg 0) p1.toNatClampNeg 0) t2.toNatClampNeg) ∧ y5 = h') (argsL := [(.int t2)]) (rest := []) (wd := 0) (Ls1 := #[.val (.ref o), .val (.int t2), .unset]) at_252 (q := 255) rfl (w39 hw) (w40 hw) (w42 hw) (w41 hw) (w43 hw) (w3 hw) (by decide) pn7 pd7 rfl rfl S5.exa (fun m => by simp [entryFrame, mkF, argsToLocals, Value.category]) rfl (by decide) rfl (by decide) (by decide) (by decide) (sk_of l Z a0 hw n0 y5 o t2 g2 S5 (Q := RV (fun w h' => w = .long ((upd (upd (c2 t1 t2 u v) p0.toNatClampNeg 0) p1.toNatClampNeg 0) t2.toNatClampNeg) ∧ y5 = h')) ⟨_, rfl, rfl, rfl⟩) ?_
    rintro _ _ ⟨rfl, rfl⟩
    refine Go.lload at_255 (q := 257) rfl rfl ?_
    refine Go.lcmp at_257 (q := 258) rfl ?_
    refine Go.lif_ne at_258 (q := 289) (q' := 261) (by decide) rfl rfl (fun c_ => absurd (af2 t1 t2 t2 p0 p1 p2 u v g1 g2 g2 q0 q1 q2) c_) (fun _ => ?_)
    refine Go.aload at_261 (q := 263) rfl rfl rfl ?_
    refine Go.iload at_263 (q := 265) rfl rfl ?_
    refine Go.callVV (P := fun w h' => w = .long ((upd (upd (c2 t1 t2 u v) p0.toNatClampNeg 0) p1.toNatClampNeg 0) t3.toNatClampNeg) ∧ y5 = h') (argsL := [(.int t3)]) (rest := []) (wd := 0) (Ls1 := #[.val (.ref o), .val (.int t3), .unset]) at_265 (q := 268) rfl (w39 hw) (w40 hw) (w42 hw) (w41 hw) (w43 hw) (w3 hw) (by decide) pn7 pd7 rfl rfl S5.exa (fun m => by simp [entryFrame, mkF, argsToLocals, Value.category]) rfl (by decide) rfl (by decide) (by decide) (by decide) (sk_of l Z a0 hw n0 y5 o t3 g3 S5 (Q := RV (fun w h' => w = .long ((upd (upd (c2 t1 t2 u v) p0.toNatClampNeg 0) p1.toNatClampNeg 0) t3.toNatClampNeg) ∧ y5 = h')) ⟨_, rfl, rfl, rfl⟩) ?_
    rintro _ _ ⟨rfl, rfl⟩
    refine Go.lload at_268 (q := 270) rfl rfl ?_
    refine Go.lcmp at_270 (q := 271) rfl ?_
    refine Go.lif_ne at_271 (q := 289) (q' := 274) (by decide) rfl rfl (fun c_ => absurd (af2 t1 t2 t3 p0 p1 p2 u v g1 g2 g3 q0 q1 q2) c_) (fun _ => ?_)
    refine Go.aload at_274 (q := 276) rfl rfl rfl ?_
    refine Go.callVV (P := fun w h' => w = .long (((0 + u + v) - (c2 t1 t2 u v) p0.toNatClampNeg) - (upd (c2 t1 t2 u v) p0.toNatClampNeg 0) p1.toNatClampNeg) ∧ y5 = h') (argsL := []) (rest := []) (wd := 0) (Ls1 := #[.val (.ref o)]) at_276 (q := 279) rfl (w44 hw) (w45 hw) (w47 hw) (w46 hw) (w48 hw) (w3 hw) (by decide) pn8 pd8 rfl rfl S5.exa (fun m => by simp [entryFrame, mkF, argsToLocals, Value.category]) rfl (by decide) rfl (by decide) (by decide) (by decide) (sk_total l Z a0 hw n0 y5 o S5 (Q := RV (fun w h' => w = .long (((0 + u + v) - (c2 t1 t2 u v) p0.toNatClampNeg) - (upd (c2 t1 t2 u v) p0.toNatClampNeg 0) p1.toNatClampNeg) ∧ y5 = h')) ⟨_, rfl, rfl, rfl⟩) ?_
    rintro _ _ ⟨rfl, rfl⟩
    refine Go.lload at_279 (q := 281) rfl rfl ?_
    refine Go.lcmp at_281 (q := 282) rfl ?_
    refine Go.lif_ne at_282 (q := 289) (q' := 285) (by decide) rfl rfl (fun c_ => absurd (by rw [T5.1, (af2 t1 t2 t1 p0 p1 p2 u v g1 g2 g1 q0 q1 q2), (af2 t1 t2 t2 p0 p1 p2 u v g1 g2 g2 q0 q1 q2), if_neg c145]) c_) (fun _ => ?_)
    refine Go.iconst at_285 (q := 286) rfl (x := (1 : Int32)) (by decide) ?_
    refine Go.goto at_286 (q := 290) (by decide) rfl ?_
    refine Go.istore at_290 (q := 292) rfl (Ls' := #[.val (.int a), .val (.int b), .val (.int c), .val (.long u), .second, .val (.long v), .second, .val (.int fl), .val (.int t1), .val (.int t2), .val (.int t3), .val (.int (2 : Int32)), .val (.int p0), .val (.int p1), .val (.int p2), .val (.ref r), .val (.ref o), .val (.long (afF t1 t1 t2 u v (2 : Int32) p0 p1 p2)), .second, .val (.long (afF t2 t1 t2 u v (2 : Int32) p0 p1 p2)), .second, .val (.long (afF t3 t1 t2 u v (2 : Int32) p0 p1 p2)), .second, .val (.long ((afF t1 t1 t2 u v (2 : Int32) p0 p1 p2) + (afF t2 t1 t2 u v (2 : Int32) p0 p1 p2))), .second, .val (.int (1 : Int32)), .unset, .unset]) rfl ?_
    refine Go.aload at_292 (q := 294) rfl rfl rfl ?_
    refine Go.callVV (P := fun w h' => ∃ r kr, w = .ref r ∧ Ar Z h' r .int kr (two t1 t2)) (argsL := []) (rest := []) (wd := 0) (Ls1 := #[.val (.ref o), .unset, .unset, .unset, .unset, .unset]) at_294 (q := 297) rfl (w49 hw) (w50 hw) (w52 hw) (w51 hw) (w53 hw) (w3 hw) (by decide) pn9 pd9 rfl rfl S5.exa (fun m => by simp [entryFrame, mkF, argsToLocals, Value.category]) rfl (by decide) rfl (by decide) (by decide) (by decide) (sk_take l Z a0 hw n0 y5 o t1 t2 g1 g2 S5 (Q := RV (fun w h' => ∃ r kr, w = .ref r ∧ Ar Z h' r .int kr (two t1 t2))) (fun h' r kr q => ⟨_, rfl, r, kr, rfl, q⟩)) ?_
    rintro _ y6 ⟨r2, kr2, rfl, A5⟩
    refine Go.astore at_297 (q := 299) rfl rfl (Ls' := #[.val (.int a), .val (.int b), .val (.int c), .val (.long u), .second, .val (.long v), .second, .val (.int fl), .val (.int t1), .val (.int t2), .val (.int t3), .val (.int (2 : Int32)), .val (.int p0), .val (.int p1), .val (.int p2), .val (.ref r), .val (.ref o), .val (.long (afF t1 t1 t2 u v (2 : Int32) p0 p1 p2)), .second, .val (.long (afF t2 t1 t2 u v (2 : Int32) p0 p1 p2)), .second, .val (.long (afF t3 t1 t2 u v (2 : Int32) p0 p1 p2)), .second, .val (.long ((afF t1 t1 t2 u v (2 : Int32) p0 p1 p2) + (afF t2 t1 t2 u v (2 : Int32) p0 p1 p2))), .second, .val (.int (1 : Int32)), .val (.ref r2), .unset]) rfl ?_
    by_cases heq : t1 = t2
    · skip
      have A6 : Ar Z y6 r2 .int kr2 [.int t1] := by have q := A5; unfold two at q; rw [if_pos heq] at q; exact q
      refine Go.iload at_299 (q := 301) rfl rfl ?_
      refine Go.iload at_301 (q := 303) rfl rfl ?_
      refine Go.icmp_ne at_303 (q := 332) (q' := 306) (by decide) rfl rfl (fun c_ => absurd heq c_) (fun _ => ?_)
      refine Go.aload at_306 (q := 308) rfl rfl rfl ?_
      refine Go.arraylength at_308 (q := 309) rfl A6 (z := 1) rfl ?_
      refine Go.iconst at_309 (q := 310) rfl (x := (1 : Int32)) (by decide) ?_
      refine Go.icmp_ne at_310 (q := 326) (q' := 313) (by decide) rfl rfl (fun c_ => absurd (by decide) c_) (fun _ => ?_)
      refine Go.aload at_313 (q := 315) rfl rfl rfl ?_
      refine Go.iconst at_315 (q := 316) rfl (x := (0 : Int32)) (by decide) ?_
      refine Go.iaload at_316 (q := 317) rfl A6 (by decide) rfl ?_
      refine Go.iload at_317 (q := 319) rfl rfl ?_
      refine Go.icmp_ne at_319 (q := 326) (q' := 322) (by decide) rfl rfl (fun c_ => absurd rfl c_) (fun _ => ?_)
      refine Go.iconst at_322 (q := 323) rfl (x := (1 : Int32)) (by decide) ?_
      refine Go.goto at_323 (q := 327) (by decide) rfl ?_
      refine Go.istore at_327 (q := 329) rfl (Ls' := #[.val (.int a), .val (.int b), .val (.int c), .val (.long u), .second, .val (.long v), .second, .val (.int fl), .val (.int t1), .val (.int t2), .val (.int t3), .val (.int (2 : Int32)), .val (.int p0), .val (.int p1), .val (.int p2), .val (.ref r), .val (.ref o), .val (.long (afF t1 t1 t2 u v (2 : Int32) p0 p1 p2)), .second, .val (.long (afF t2 t1 t2 u v (2 : Int32) p0 p1 p2)), .second, .val (.long (afF t3 t1 t2 u v (2 : Int32) p0 p1 p2)), .second, .val (.long ((afF t1 t1 t2 u v (2 : Int32) p0 p1 p2) + (afF t2 t1 t2 u v (2 : Int32) p0 p1 p2))), .second, .val (.int (1 : Int32)), .val (.ref r2), .val (.int (1 : Int32))]) rfl ?_
      refine Go.goto at_329 (q := 374) (by decide) rfl ?_
      refine Go.iload at_374 (q := 376) rfl rfl ?_
      refine Go.if_eq at_376 (q := 388) (q' := 379) (by decide) rfl rfl (fun c_ => absurd c_ (by decide)) (fun _ => ?_)
      refine Go.iload at_379 (q := 381) rfl rfl ?_
      refine Go.if_eq at_381 (q := 388) (q' := 384) (by decide) rfl rfl (fun c_ => absurd c_ (by decide)) (fun _ => ?_)
      refine Go.iconst at_384 (q := 385) rfl (x := (1 : Int32)) (by decide) ?_
      refine Go.goto at_385 (q := 389) (by decide) rfl ?_
      refine Go.zreturn at_389 (by decide) (by decide) (by decide) ?_
      rfl
    · skip
      by_cases hlt : t1 < t2
      · skip
        have A6 : Ar Z y6 r2 .int kr2 [.int t1, .int t2] := by have q := A5; unfold two at q; rw [if_neg heq, if_pos hlt] at q; exact q
        have m1 : t1 = minF t1 t2 := by unfold minF; rw [if_neg (fun q => by rw [Int32.lt_iff_toInt_lt] at hlt q; omega)]
        have m2 : t2 = maxF t1 t2 := by unfold maxF; rw [if_pos hlt]
        refine Go.iload at_299 (q := 301) rfl rfl ?_
        refine Go.iload at_301 (q := 303) rfl rfl ?_
        refine Go.icmp_ne at_303 (q := 332) (q' := 306) (by decide) rfl rfl (fun _ => ?_) (fun c_ => absurd c_ heq)
        refine Go.aload at_332 (q := 334) rfl rfl rfl ?_
        refine Go.arraylength at_334 (q := 335) rfl A6 (z := 2) rfl ?_
        refine Go.iconst at_335 (q := 336) rfl (x := (2 : Int32)) (by decide) ?_
        refine Go.icmp_ne at_336 (q := 371) (q' := 339) (by decide) rfl rfl (fun c_ => absurd (by decide) c_) (fun _ => ?_)
        refine Go.aload at_339 (q := 341) rfl rfl rfl ?_
        refine Go.iconst at_341 (q := 342) rfl (x := (0 : Int32)) (by decide) ?_
        refine Go.iaload at_342 (q := 343) rfl A6 (by decide) rfl ?_
        refine Go.iload at_343 (q := 345) rfl rfl ?_
        refine Go.iload at_345 (q := 347) rfl rfl ?_
        refine Go.callSV (P := fun w h' => w = .int (minF t1 t2) ∧ y6 = h') (argsL := [(.int t1), (.int t2)]) (rest := [(.int t1)]) (wd := 1) (Ls1 := #[.val (.int t1), .val (.int t2)]) at_347 (q := 350) rfl (w63 hw) (w64 hw) (w65 hw) (w66 hw) (by decide) pn12 pd12 rfl rfl (fun m => by simp [entryFrame, mkF, argsToLocals, Value.category]) rfl (by decide) rfl (by decide) (by decide) (by decide) (b12 l Z a0 hw n0 y6 t1 t2 (Q := RV (fun w h' => w = .int (minF t1 t2) ∧ y6 = h')) ⟨_, rfl, rfl, rfl⟩) ?_
        rintro _ _ ⟨rfl, rfl⟩
        refine Go.icmp_ne at_350 (q := 371) (q' := 353) (by decide) rfl rfl (fun c_ => absurd m1 c_) (fun _ => ?_)
        refine Go.aload at_353 (q := 355) rfl rfl rfl ?_
        refine Go.iconst at_355 (q := 356) rfl (x := (1 : Int32)) (by decide) ?_
        refine Go.iaload at_356 (q := 357) rfl A6 (by decide) rfl ?_
        refine Go.iload at_357 (q := 359) rfl rfl ?_
        refine Go.iload at_359 (q := 361) rfl rfl ?_
        refine Go.callSV (P := fun w h' => w = .int (maxF t1 t2) ∧ y6 = h') (argsL := [(.int t1), (.int t2)]) (rest := [(.int t2)]) (wd := 1) (Ls1 := #[.val (.int t1), .val (.int t2)]) at_361 (q := 364) rfl (w67 hw) (w68 hw) (w65 hw) (w69 hw) (by decide) pn13 pd13 rfl rfl (fun m => by simp [entryFrame, mkF, argsToLocals, Value.category]) rfl (by decide) rfl (by decide) (by decide) (by decide) (b13 l Z a0 hw n0 y6 t1 t2 (Q := RV (fun w h' => w = .int (maxF t1 t2) ∧ y6 = h')) ⟨_, rfl, rfl, rfl⟩) ?_
        rintro _ _ ⟨rfl, rfl⟩
        refine Go.icmp_ne at_364 (q := 371) (q' := 367) (by decide) rfl rfl (fun c_ => absurd m2 c_) (fun _ => ?_)
        refine Go.iconst at_367 (q := 368) rfl (x := (1 : Int32)) (by decide) ?_
        refine Go.goto at_368 (q := 372) (by decide) rfl ?_
        refine Go.istore at_372 (q := 374) rfl (Ls' := #[.val (.int a), .val (.int b), .val (.int c), .val (.long u), .second, .val (.long v), .second, .val (.int fl), .val (.int t1), .val (.int t2), .val (.int t3), .val (.int (2 : Int32)), .val (.int p0), .val (.int p1), .val (.int p2), .val (.ref r), .val (.ref o), .val (.long (afF t1 t1 t2 u v (2 : Int32) p0 p1 p2)), .second, .val (.long (afF t2 t1 t2 u v (2 : Int32) p0 p1 p2)), .second, .val (.long (afF t3 t1 t2 u v (2 : Int32) p0 p1 p2)), .second, .val (.long ((afF t1 t1 t2 u v (2 : Int32) p0 p1 p2) + (afF t2 t1 t2 u v (2 : Int32) p0 p1 p2))), .second, .val (.int (1 : Int32)), .val (.ref r2), .val (.int (1 : Int32))]) rfl ?_
        refine Go.iload at_374 (q := 376) rfl rfl ?_
        refine Go.if_eq at_376 (q := 388) (q' := 379) (by decide) rfl rfl (fun c_ => absurd c_ (by decide)) (fun _ => ?_)
        refine Go.iload at_379 (q := 381) rfl rfl ?_
        refine Go.if_eq at_381 (q := 388) (q' := 384) (by decide) rfl rfl (fun c_ => absurd c_ (by decide)) (fun _ => ?_)
        refine Go.iconst at_384 (q := 385) rfl (x := (1 : Int32)) (by decide) ?_
        refine Go.goto at_385 (q := 389) (by decide) rfl ?_
        refine Go.zreturn at_389 (by decide) (by decide) (by decide) ?_
        rfl
      · skip
        have A6 : Ar Z y6 r2 .int kr2 [.int t2, .int t1] := by have q := A5; unfold two at q; rw [if_neg heq, if_neg hlt] at q; exact q
        have hgt : t2 < t1 := by rw [Int32.lt_iff_toInt_lt] at hlt ⊢; have q := heq; rw [← Int32.toInt_inj] at q; omega
        have m1 : t2 = minF t1 t2 := by unfold minF; rw [if_pos hgt]
        have m2 : t1 = maxF t1 t2 := by unfold maxF; rw [if_neg hlt]
        refine Go.iload at_299 (q := 301) rfl rfl ?_
        refine Go.iload at_301 (q := 303) rfl rfl ?_
        refine Go.icmp_ne at_303 (q := 332) (q' := 306) (by decide) rfl rfl (fun _ => ?_) (fun c_ => absurd c_ heq)
        refine Go.aload at_332 (q := 334) rfl rfl rfl ?_
        refine Go.arraylength at_334 (q := 335) rfl A6 (z := 2) rfl ?_
        refine Go.iconst at_335 (q := 336) rfl (x := (2 : Int32)) (by decide) ?_
        refine Go.icmp_ne at_336 (q := 371) (q' := 339) (by decide) rfl rfl (fun c_ => absurd (by decide) c_) (fun _ => ?_)
        refine Go.aload at_339 (q := 341) rfl rfl rfl ?_
        refine Go.iconst at_341 (q := 342) rfl (x := (0 : Int32)) (by decide) ?_
        refine Go.iaload at_342 (q := 343) rfl A6 (by decide) rfl ?_
        refine Go.iload at_343 (q := 345) rfl rfl ?_
        refine Go.iload at_345 (q := 347) rfl rfl ?_
        refine Go.callSV (P := fun w h' => w = .int (minF t1 t2) ∧ y6 = h') (argsL := [(.int t1), (.int t2)]) (rest := [(.int t2)]) (wd := 1) (Ls1 := #[.val (.int t1), .val (.int t2)]) at_347 (q := 350) rfl (w63 hw) (w64 hw) (w65 hw) (w66 hw) (by decide) pn12 pd12 rfl rfl (fun m => by simp [entryFrame, mkF, argsToLocals, Value.category]) rfl (by decide) rfl (by decide) (by decide) (by decide) (b12 l Z a0 hw n0 y6 t1 t2 (Q := RV (fun w h' => w = .int (minF t1 t2) ∧ y6 = h')) ⟨_, rfl, rfl, rfl⟩) ?_
        rintro _ _ ⟨rfl, rfl⟩
        refine Go.icmp_ne at_350 (q := 371) (q' := 353) (by decide) rfl rfl (fun c_ => absurd m1 c_) (fun _ => ?_)
        refine Go.aload at_353 (q := 355) rfl rfl rfl ?_
        refine Go.iconst at_355 (q := 356) rfl (x := (1 : Int32)) (by decide) ?_
        refine Go.iaload at_356 (q := 357) rfl A6 (by decide) rfl ?_
        refine Go.iload at_357 (q := 359) rfl rfl ?_
        refine Go.iload at_359 (q := 361) rfl rfl ?_
        refine Go.callSV (P := fun w h' => w = .int (maxF t1 t2) ∧ y6 = h') (argsL := [(.int t1), (.int t2)]) (rest := [(.int t1)]) (wd := 1) (Ls1 := #[.val (.int t1), .val (.int t2)]) at_361 (q := 364) rfl (w67 hw) (w68 hw) (w65 hw) (w69 hw) (by decide) pn13 pd13 rfl rfl (fun m => by simp [entryFrame, mkF, argsToLocals, Value.category]) rfl (by decide) rfl (by decide) (by decide) (by decide) (b13 l Z a0 hw n0 y6 t1 t2 (Q := RV (fun w h' => w = .int (maxF t1 t2) ∧ y6 = h')) ⟨_, rfl, rfl, rfl⟩) ?_
        rintro _ _ ⟨rfl, rfl⟩
        refine Go.icmp_ne at_364 (q := 371) (q' := 367) (by decide) rfl rfl (fun c_ => absurd m2 c_) (fun _ => ?_)
        refine Go.iconst at_367 (q := 368) rfl (x := (1 : Int32)) (by decide) ?_
        refine Go.goto at_368 (q := 372) (by decide) rfl ?_
        refine Go.istore at_372 (q := 374) rfl (Ls' := #[.val (.int a), .val (.int b), .val (.int c), .val (.long u), .second, .val (.long v), .second, .val (.int fl), .val (.int t1), .val (.int t2), .val (.int t3), .val (.int (2 : Int32)), .val (.int p0), .val (.int p1), .val (.int p2), .val (.ref r), .val (.ref o), .val (.long (afF t1 t1 t2 u v (2 : Int32) p0 p1 p2)), .second, .val (.long (afF t2 t1 t2 u v (2 : Int32) p0 p1 p2)), .second, .val (.long (afF t3 t1 t2 u v (2 : Int32) p0 p1 p2)), .second, .val (.long ((afF t1 t1 t2 u v (2 : Int32) p0 p1 p2) + (afF t2 t1 t2 u v (2 : Int32) p0 p1 p2))), .second, .val (.int (1 : Int32)), .val (.ref r2), .val (.int (1 : Int32))]) rfl ?_
        refine Go.iload at_374 (q := 376) rfl rfl ?_
        refine Go.if_eq at_376 (q := 388) (q' := 379) (by decide) rfl rfl (fun c_ => absurd c_ (by decide)) (fun _ => ?_)
        refine Go.iload at_379 (q := 381) rfl rfl ?_
        refine Go.if_eq at_381 (q := 388) (q' := 384) (by decide) rfl rfl (fun c_ => absurd c_ (by decide)) (fun _ => ?_)
        refine Go.iconst at_384 (q := 385) rfl (x := (1 : Int32)) (by decide) ?_
        refine Go.goto at_385 (q := 389) (by decide) rfl ?_
        refine Go.zreturn at_389 (by decide) (by decide) (by decide) ?_
        rfl
set_option maxRecDepth 65536 in
set_option maxHeartbeats 40000000 in
theorem j77_3 (l : Launch) (Z : State) (a0 : Array Value) (hw : Hw a0 Z) (n0 : Nat) (h : Heap) (O : Old Z n0 h) (a b c fl t1 t2 t3 p0 p1 p2 : Int32) (u v : Int64) (g1 : RG t1) (g2 : RG t2) (g3 : RG t3) (q0 : RG p0) (q1 : RG p1) (q2 : RG p2) :
    Go l Z x code maxLocals ret room_1 n0 (fun v _ => v = some (.int 1)) h 0 0 77 #[.val (.int a), .val (.int b), .val (.int c), .val (.long u), .second, .val (.long v), .second, .val (.int fl), .val (.int t1), .val (.int t2), .val (.int t3), .val (.int (3 : Int32)), .val (.int p0), .val (.int p1), .val (.int p2), .unset, .unset, .unset, .unset, .unset, .unset, .unset, .unset, .unset, .unset, .unset, .unset, .unset] [] := by
  refine Go.iload at_77 (q := 79) rfl rfl ?_
  refine Go.newarray (cap := 3) at_79 (q := 81) rfl (w0 hw) (by decide) (by decide) (by decide) (by decide) (by decide) ?_
  intro x0 r kr er Xr Ar0
  have nr : n0 ≤ r := new_le (O.1 ▸ O.2.1) er
  have O0 := O.ext Xr
  have A0 : Ar Z x0 r .int kr [.int 0, .int 0, .int 0] := Ar0
  refine Go.astore at_81 (q := 83) rfl rfl (Ls' := #[.val (.int a), .val (.int b), .val (.int c), .val (.long u), .second, .val (.long v), .second, .val (.int fl), .val (.int t1), .val (.int t2), .val (.int t3), .val (.int (3 : Int32)), .val (.int p0), .val (.int p1), .val (.int p2), .val (.ref r), .unset, .unset, .unset, .unset, .unset, .unset, .unset, .unset, .unset, .unset, .unset, .unset]) rfl ?_
  refine Go.iload at_83 (q := 85) rfl rfl ?_
  refine Go.if_le at_85 (q := 94) (q' := 88) (by decide) rfl rfl (fun c_ => absurd (by decide) c_) (fun _ => ?_)
  refine Go.aload at_88 (q := 90) rfl rfl rfl ?_
  refine Go.iconst at_90 (q := 91) rfl (x := (0 : Int32)) (by decide) ?_
  refine Go.iload at_91 (q := 93) rfl rfl ?_
  refine Go.iastore at_93 (q := 94) rfl A0 (by decide) (by simp only [List.length_cons, List.length_nil]; decide) nr ?_
  intro x1 W1
  have A1 : Ar Z x1 r .int kr [.int p0, .int 0, .int 0] := A0.set W1
  have O1 := O0.wr W1 nr
  refine Go.iload at_94 (q := 96) rfl rfl ?_
  refine Go.iconst at_96 (q := 97) rfl (x := (1 : Int32)) (by decide) ?_
  refine Go.icmp_le at_97 (q := 106) (q' := 100) (by decide) rfl rfl (fun c_ => absurd (by decide) c_) (fun _ => ?_)
  refine Go.aload at_100 (q := 102) rfl rfl rfl ?_
  refine Go.iconst at_102 (q := 103) rfl (x := (1 : Int32)) (by decide) ?_
  refine Go.iload at_103 (q := 105) rfl rfl ?_
  refine Go.iastore at_105 (q := 106) rfl A1 (by decide) (by simp only [List.length_cons, List.length_nil]; decide) nr ?_
  intro x2 W2
  have A2 : Ar Z x2 r .int kr [.int p0, .int p1, .int 0] := A1.set W2
  have O2 := O1.wr W2 nr
  refine Go.iload at_106 (q := 108) rfl rfl ?_
  refine Go.iconst at_108 (q := 109) rfl (x := (2 : Int32)) (by decide) ?_
  refine Go.icmp_le at_109 (q := 118) (q' := 112) (by decide) rfl rfl (fun c_ => absurd (by decide) c_) (fun _ => ?_)
  refine Go.aload at_112 (q := 114) rfl rfl rfl ?_
  refine Go.iconst at_114 (q := 115) rfl (x := (2 : Int32)) (by decide) ?_
  refine Go.iload at_115 (q := 117) rfl rfl ?_
  refine Go.iastore at_117 (q := 118) rfl A2 (by decide) (by simp only [List.length_cons, List.length_nil]; decide) nr ?_
  intro x3 W3
  have A3 : Ar Z x3 r .int kr [.int p0, .int p1, .int p2] := A2.set W3
  have O3 := O2.wr W3 nr
  refine Go.new at_118 (q := 121) rfl (w1 hw) (w2 hw) (w3 hw) (by decide) (by decide) ?_
  intro y1 o e1 X1 E1 D1
  have no : n0 ≤ o := new_le (O3.1 ▸ O3.2.1) e1
  have B1 := A3.ext X1
  have ne : o ≠ r := Ne.symm (new_ne A3.lt e1)
  refine Go.dup at_121 (q := 122) rfl rfl ?_
  refine Go.callIN (P := fun h' => IK Z o y1 h' ∧ SK Z h' n0 o zeroC zeroC 0 0) (argsL := []) (rest := [(.ref o)]) (wd := 1) (Ls1 := #[.val (.ref o)]) at_122 (q := 125) rfl rfl (w4 hw) (w5 hw) (w3 hw) (w6 hw) (by decide) pn1 pd1 rfl rfl (fun m => by simp [entryFrame, mkF, argsToLocals, Value.category]) rfl (by decide) rfl (by decide) (by decide) (by decide) (sk_init l Z a0 hw n0 y1 o no E1 (D1 (Or.inr (w13 hw)) pT1) (D1 (Or.inr (w16 hw)) pT2) (D1 (Or.inl (w24 hw)) pT3) (D1 (Or.inl (w26 hw)) pT4) (Q := RN (fun h' => IK Z o y1 h' ∧ SK Z h' n0 o zeroC zeroC 0 0)) (fun h' i q => ⟨rfl, i, q⟩)) ?_
  rintro y2 ⟨i2, S2⟩
  have B2 := i2 _ _ _ ne B1
  refine Go.astore at_125 (q := 127) rfl rfl (Ls' := #[.val (.int a), .val (.int b), .val (.int c), .val (.long u), .second, .val (.long v), .second, .val (.int fl), .val (.int t1), .val (.int t2), .val (.int t3), .val (.int (3 : Int32)), .val (.int p0), .val (.int p1), .val (.int p2), .val (.ref r), .val (.ref o), .unset, .unset, .unset, .unset, .unset, .unset, .unset, .unset, .unset, .unset, .unset]) rfl ?_
  refine Go.aload at_127 (q := 129) rfl rfl rfl ?_
  refine Go.iload at_129 (q := 131) rfl rfl ?_
  refine Go.lloadN at_131 (q := 132) rfl rfl ?_
  refine Go.callVN (P := fun h' => IK Z o y2 h' ∧ SK Z h' n0 o (c1 t1 u) (chgN zeroC t1) (0 + u) (chsN zeroC t1 0)) (argsL := [(.int t1), (.long u)]) (rest := []) (wd := 0) (Ls1 := #[.val (.ref o), .val (.int t1), .val (.long u), .second, .unset, .unset, .unset]) at_132 (q := 135) rfl (w17 hw) (w18 hw) (w20 hw) (w19 hw) (w21 hw) (w3 hw) (by decide) pn3 pd3 rfl rfl S2.exa (fun m => by simp [entryFrame, mkF, argsToLocals, Value.category]) rfl (by decide) rfl (by decide) (by decide) (by decide) (sk_add l Z a0 hw n0 y2 o t1 g1 u S2 (Q := RN (fun h' => IK Z o y2 h' ∧ SK Z h' n0 o (c1 t1 u) (chgN zeroC t1) (0 + u) (chsN zeroC t1 0))) (fun h' i q => ⟨rfl, i, q⟩)) ?_
  rintro y3 ⟨i3, S3⟩
  have B3 := i3 _ _ _ ne B2
  refine Go.aload at_135 (q := 137) rfl rfl rfl ?_
  refine Go.iload at_137 (q := 139) rfl rfl ?_
  refine Go.lload at_139 (q := 141) rfl rfl ?_
  refine Go.callVN (P := fun h' => IK Z o y3 h' ∧ SK Z h' n0 o (c2 t1 t2 u v) (chgN (chgN zeroC t1) t2) (0 + u + v) (chsN (chgN zeroC t1) t2 (chsN zeroC t1 0))) (argsL := [(.int t2), (.long v)]) (rest := []) (wd := 0) (Ls1 := #[.val (.ref o), .val (.int t2), .val (.long v), .second, .unset, .unset, .unset]) at_141 (q := 144) rfl (w17 hw) (w18 hw) (w20 hw) (w19 hw) (w21 hw) (w3 hw) (by decide) pn3 pd3 rfl rfl S3.exa (fun m => by simp [entryFrame, mkF, argsToLocals, Value.category]) rfl (by decide) rfl (by decide) (by decide) (by decide) (sk_add l Z a0 hw n0 y3 o t2 g2 v S3 (Q := RN (fun h' => IK Z o y3 h' ∧ SK Z h' n0 o (c2 t1 t2 u v) (chgN (chgN zeroC t1) t2) (0 + u + v) (chsN (chgN zeroC t1) t2 (chsN zeroC t1 0)))) (fun h' i q => ⟨rfl, i, q⟩)) ?_
  rintro y4 ⟨i4, S4⟩
  have B4 := i4 _ _ _ ne B3
  refine Go.aload at_144 (q := 146) rfl rfl rfl ?_
  refine Go.aload at_146 (q := 148) rfl rfl rfl ?_
  refine Go.callVN (P := fun h' => SK Z h' n0 o (upd (upd (upd (c2 t1 t2 u v) p0.toNatClampNeg 0) p1.toNatClampNeg 0) p2.toNatClampNeg 0) (chgN (chgN zeroC t1) t2) ((((0 + u + v) - (c2 t1 t2 u v) p0.toNatClampNeg) - (upd (c2 t1 t2 u v) p0.toNatClampNeg 0) p1.toNatClampNeg) - (upd (upd (c2 t1 t2 u v) p0.toNatClampNeg 0) p1.toNatClampNeg 0) p2.toNatClampNeg) (chsN (chgN zeroC t1) t2 (chsN zeroC t1 0))) (argsL := [(.ref r)]) (rest := []) (wd := 0) (Ls1 := #[.val (.ref o), .val (.ref r), .unset, .unset, .unset, .unset, .unset]) at_148 (q := 151) rfl (w27 hw) (w28 hw) (w30 hw) (w29 hw) (w31 hw) (w3 hw) (by decide) pn4 pd4 rfl rfl S4.exa (fun m => by simp [entryFrame, mkF, argsToLocals, Value.category]) rfl (by decide) rfl (by decide) (by decide) (by decide) (clr3 l Z a0 hw n0 y4 p0 p1 p2 q0 q1 q2 S4 B4 ne (Q := RN (fun h' => SK Z h' n0 o (upd (upd (upd (c2 t1 t2 u v) p0.toNatClampNeg 0) p1.toNatClampNeg 0) p2.toNatClampNeg 0) (chgN (chgN zeroC t1) t2) ((((0 + u + v) - (c2 t1 t2 u v) p0.toNatClampNeg) - (upd (c2 t1 t2 u v) p0.toNatClampNeg 0) p1.toNatClampNeg) - (upd (upd (c2 t1 t2 u v) p0.toNatClampNeg 0) p1.toNatClampNeg 0) p2.toNatClampNeg) (chsN (chgN zeroC t1) t2 (chsN zeroC t1 0)))) (fun h' q => ⟨rfl, q⟩)) ?_
  intro y5 S5
  have T5 := ti_step g1 g2 q2 (ti_step g1 g2 q1 (ti_step g1 g2 q0 (ti_start t1 t2 u v g1 g2)))
  refine Go.iload at_151 (q := 153) rfl rfl ?_
  refine Go.iload at_153 (q := 155) rfl rfl ?_
  refine Go.iload at_155 (q := 157) rfl rfl ?_
  refine Go.lloadN at_157 (q := 158) rfl rfl ?_
  refine Go.lload at_158 (q := 160) rfl rfl ?_
  refine Go.iload at_160 (q := 162) rfl rfl ?_
  refine Go.iload at_162 (q := 164) rfl rfl ?_
  refine Go.iload at_164 (q := 166) rfl rfl ?_
  refine Go.iload at_166 (q := 168) rfl rfl ?_
  refine Go.callSV (P := fun w h' => w = .long (afF t1 t1 t2 u v (3 : Int32) p0 p1 p2) ∧ y5 = h') (argsL := [(.int t1), (.int t1), (.int t2), (.long u), (.long v), (.int (3 : Int32)), (.int p0), (.int p1), (.int p2)]) (rest := []) (wd := 0) (Ls1 := #[.val (.int t1), .val (.int t1), .val (.int t2), .val (.long u), .second, .val (.long v), .second, .val (.int (3 : Int32)), .val (.int p0), .val (.int p1), .val (.int p2), .unset, .unset]) at_168 (q := 171) rfl (w32 hw) (w33 hw) (w34 hw) (w35 hw) (by decide) pn5 pd5 rfl rfl (fun m => by simp [entryFrame, mkF, argsToLocals, Value.category]) rfl (by decide) rfl (by decide) (by decide) (by decide) (b5 l Z a0 hw n0 y5 t1 t1 t2 u v (3 : Int32) p0 p1 p2 (Q := RV (fun w h' => w = .long (afF t1 t1 t2 u v (3 : Int32) p0 p1 p2) ∧ y5 = h')) ⟨_, rfl, rfl, rfl⟩) ?_
  rintro _ _ ⟨rfl, rfl⟩
  refine Go.lstore at_171 (q := 173) rfl (Ls' := #[.val (.int a), .val (.int b), .val (.int c), .val (.long u), .second, .val (.long v), .second, .val (.int fl), .val (.int t1), .val (.int t2), .val (.int t3), .val (.int (3 : Int32)), .val (.int p0), .val (.int p1), .val (.int p2), .val (.ref r), .val (.ref o), .val (.long (afF t1 t1 t2 u v (3 : Int32) p0 p1 p2)), .second, .unset, .unset, .unset, .unset, .unset, .unset, .unset, .unset, .unset]) rfl ?_
  refine Go.iload at_173 (q := 175) rfl rfl ?_
  refine Go.iload at_175 (q := 177) rfl rfl ?_
  refine Go.iload at_177 (q := 179) rfl rfl ?_
  refine Go.lloadN at_179 (q := 180) rfl rfl ?_
  refine Go.lload at_180 (q := 182) rfl rfl ?_
  refine Go.iload at_182 (q := 184) rfl rfl ?_
  refine Go.iload at_184 (q := 186) rfl rfl ?_
  refine Go.iload at_186 (q := 188) rfl rfl ?_
  refine Go.iload at_188 (q := 190) rfl rfl ?_
  refine Go.callSV (P := fun w h' => w = .long (afF t2 t1 t2 u v (3 : Int32) p0 p1 p2) ∧ y5 = h') (argsL := [(.int t2), (.int t1), (.int t2), (.long u), (.long v), (.int (3 : Int32)), (.int p0), (.int p1), (.int p2)]) (rest := []) (wd := 0) (Ls1 := #[.val (.int t2), .val (.int t1), .val (.int t2), .val (.long u), .second, .val (.long v), .second, .val (.int (3 : Int32)), .val (.int p0), .val (.int p1), .val (.int p2), .unset, .unset]) at_190 (q := 193) rfl (w32 hw) (w33 hw) (w34 hw) (w35 hw) (by decide) pn5 pd5 rfl rfl (fun m => by simp [entryFrame, mkF, argsToLocals, Value.category]) rfl (by decide) rfl (by decide) (by decide) (by decide) (b5 l Z a0 hw n0 y5 t2 t1 t2 u v (3 : Int32) p0 p1 p2 (Q := RV (fun w h' => w = .long (afF t2 t1 t2 u v (3 : Int32) p0 p1 p2) ∧ y5 = h')) ⟨_, rfl, rfl, rfl⟩) ?_
  rintro _ _ ⟨rfl, rfl⟩
  refine Go.lstore at_193 (q := 195) rfl (Ls' := #[.val (.int a), .val (.int b), .val (.int c), .val (.long u), .second, .val (.long v), .second, .val (.int fl), .val (.int t1), .val (.int t2), .val (.int t3), .val (.int (3 : Int32)), .val (.int p0), .val (.int p1), .val (.int p2), .val (.ref r), .val (.ref o), .val (.long (afF t1 t1 t2 u v (3 : Int32) p0 p1 p2)), .second, .val (.long (afF t2 t1 t2 u v (3 : Int32) p0 p1 p2)), .second, .unset, .unset, .unset, .unset, .unset, .unset, .unset]) rfl ?_
  refine Go.iload at_195 (q := 197) rfl rfl ?_
  refine Go.iload at_197 (q := 199) rfl rfl ?_
  refine Go.iload at_199 (q := 201) rfl rfl ?_
  refine Go.lloadN at_201 (q := 202) rfl rfl ?_
  refine Go.lload at_202 (q := 204) rfl rfl ?_
  refine Go.iload at_204 (q := 206) rfl rfl ?_
  refine Go.iload at_206 (q := 208) rfl rfl ?_
  refine Go.iload at_208 (q := 210) rfl rfl ?_
  refine Go.iload at_210 (q := 212) rfl rfl ?_
  refine Go.callSV (P := fun w h' => w = .long (afF t3 t1 t2 u v (3 : Int32) p0 p1 p2) ∧ y5 = h') (argsL := [(.int t3), (.int t1), (.int t2), (.long u), (.long v), (.int (3 : Int32)), (.int p0), (.int p1), (.int p2)]) (rest := []) (wd := 0) (Ls1 := #[.val (.int t3), .val (.int t1), .val (.int t2), .val (.long u), .second, .val (.long v), .second, .val (.int (3 : Int32)), .val (.int p0), .val (.int p1), .val (.int p2), .unset, .unset]) at_212 (q := 215) rfl (w32 hw) (w33 hw) (w34 hw) (w35 hw) (by decide) pn5 pd5 rfl rfl (fun m => by simp [entryFrame, mkF, argsToLocals, Value.category]) rfl (by decide) rfl (by decide) (by decide) (by decide) (b5 l Z a0 hw n0 y5 t3 t1 t2 u v (3 : Int32) p0 p1 p2 (Q := RV (fun w h' => w = .long (afF t3 t1 t2 u v (3 : Int32) p0 p1 p2) ∧ y5 = h')) ⟨_, rfl, rfl, rfl⟩) ?_
  rintro _ _ ⟨rfl, rfl⟩
  refine Go.lstore at_215 (q := 217) rfl (Ls' := #[.val (.int a), .val (.int b), .val (.int c), .val (.long u), .second, .val (.long v), .second, .val (.int fl), .val (.int t1), .val (.int t2), .val (.int t3), .val (.int (3 : Int32)), .val (.int p0), .val (.int p1), .val (.int p2), .val (.ref r), .val (.ref o), .val (.long (afF t1 t1 t2 u v (3 : Int32) p0 p1 p2)), .second, .val (.long (afF t2 t1 t2 u v (3 : Int32) p0 p1 p2)), .second, .val (.long (afF t3 t1 t2 u v (3 : Int32) p0 p1 p2)), .second, .unset, .unset, .unset, .unset, .unset]) rfl ?_
  refine Go.lload at_217 (q := 219) rfl rfl ?_
  refine Go.iload at_219 (q := 221) rfl rfl ?_
  refine Go.iload at_221 (q := 223) rfl rfl ?_
  refine Go.icmp_eq at_223 (q := 231) (q' := 226) (by decide) rfl rfl (fun c191 => ?_) (fun c191 => ?_)
  · skip
    refine Go.lconst at_231 (q := 232) rfl (x := (0 : Int64)) (by decide) ?_
    refine Go.ladd at_232 (q := 233) rfl ?_
    refine Go.lstore at_233 (q := 235) rfl (Ls' := #[.val (.int a), .val (.int b), .val (.int c), .val (.long u), .second, .val (.long v), .second, .val (.int fl), .val (.int t1), .val (.int t2), .val (.int t3), .val (.int (3 : Int32)), .val (.int p0), .val (.int p1), .val (.int p2), .val (.ref r), .val (.ref o), .val (.long (afF t1 t1 t2 u v (3 : Int32) p0 p1 p2)), .second, .val (.long (afF t2 t1 t2 u v (3 : Int32) p0 p1 p2)), .second, .val (.long (afF t3 t1 t2 u v (3 : Int32) p0 p1 p2)), .second, .val (.long ((afF t1 t1 t2 u v (3 : Int32) p0 p1 p2) + (0 : Int64))), .second, .unset, .unset, .unset]) rfl ?_
    refine Go.aload at_235 (q := 237) rfl rfl rfl ?_
    refine Go.iload at_237 (q := 239) rfl rfl ?_
    refine Go.callVV (P := fun w h' => w = .long ((upd (upd (upd (c2 t1 t2 u v) p0.toNatClampNeg 0) p1.toNatClampNeg 0) p2.toNatClampNeg 0) t1.toNatClampNeg) ∧ y5 = h') (argsL := [(.int t1)]) (rest := []) (wd := 0) (Ls1 := #[.val (.ref o), .val (.int t1), .unset]) at_239 (q := 242) rfl (w39 hw) (w40 hw) (w42 hw) (w41 hw) (w43 hw) (w3 hw) (by decide) pn7 pd7 rfl rfl S5.exa (fun m => by simp [entryFrame, mkF, argsToLocals, Value.category]) rfl (by decide) rfl (by decide) (by decide) (by decide) (sk_of l Z a0 hw n0 y5 o t1 g1 S5 (Q := RV (fun w h' => w = .long ((upd (upd (upd (c2 t1 t2 u v) p0.toNatClampNeg 0) p1.toNatClampNeg 0) p2.toNatClampNeg 0) t1.toNatClampNeg) ∧ y5 = h')) ⟨_, rfl, rfl, rfl⟩) ?_
    rintro _ _ ⟨rfl, rfl⟩
    refine Go.lload at_242 (q := 244) rfl rfl ?_
    refine Go.lcmp at_244 (q := 245) rfl ?_
    refine Go.lif_ne at_245 (q := 289) (q' := 248) (by decide) rfl rfl (fun c_ => absurd (af3 t1 t2 t1 p0 p1 p2 u v g1 g2 g1 q0 q1 q2) c_) (fun _ => ?_)
    refine Go.aload at_248 (q := 250) rfl rfl rfl ?_
    refine Go.iload at_250 (q := 252) rfl rfl ?_
    refine Go.callVV (P := fun w h' => w = .long ((upd (upd (upd (c2 t1 t2 u v) p0.toNatClampNeg 0) p1.toNatClampNeg 0) p2.toNatClampNeg 0) t2.toNatClampNeg) ∧ y5 = h') (argsL := [(.int t2)]) (rest := []) (wd := 0) (Ls1 := #[.val (.ref o), .val (.int t2), .unset]) at_252 (q := 255) rfl (w39 hw) (w40 hw) (w42 hw) (w41 hw) (w43 hw) (w3 hw) (by decide) pn7 pd7 rfl rfl S5.exa (fun m => by simp [entryFrame, mkF, argsToLocals, Value.category]) rfl (by decide) rfl (by decide) (by decide) (by decide) (sk_of l Z a0 hw n0 y5 o t2 g2 S5 (Q := RV (fun w h' => w = .long ((upd (upd (upd (c2 t1 t2 u v) p0.toNatClampNeg 0) p1.toNatClampNeg 0) p2.toNatClampNeg 0) t2.toNatClampNeg) ∧ y5 = h')) ⟨_, rfl, rfl, rfl⟩) ?_
    rintro _ _ ⟨rfl, rfl⟩
    refine Go.lload at_255 (q := 257) rfl rfl ?_
    refine Go.lcmp at_257 (q := 258) rfl ?_
    refine Go.lif_ne at_258 (q := 289) (q' := 261) (by decide) rfl rfl (fun c_ => absurd (af3 t1 t2 t2 p0 p1 p2 u v g1 g2 g2 q0 q1 q2) c_) (fun _ => ?_)
    refine Go.aload at_261 (q := 263) rfl rfl rfl ?_
    refine Go.iload at_263 (q := 265) rfl rfl ?_
    refine Go.callVV (P := fun w h' => w = .long ((upd (upd (upd (c2 t1 t2 u v) p0.toNatClampNeg 0) p1.toNatClampNeg 0) p2.toNatClampNeg 0) t3.toNatClampNeg) ∧ y5 = h') (argsL := [(.int t3)]) (rest := []) (wd := 0) (Ls1 := #[.val (.ref o), .val (.int t3), .unset]) at_265 (q := 268) rfl (w39 hw) (w40 hw) (w42 hw) (w41 hw) (w43 hw) (w3 hw) (by decide) pn7 pd7 rfl rfl S5.exa (fun m => by simp [entryFrame, mkF, argsToLocals, Value.category]) rfl (by decide) rfl (by decide) (by decide) (by decide) (sk_of l Z a0 hw n0 y5 o t3 g3 S5 (Q := RV (fun w h' => w = .long ((upd (upd (upd (c2 t1 t2 u v) p0.toNatClampNeg 0) p1.toNatClampNeg 0) p2.toNatClampNeg 0) t3.toNatClampNeg) ∧ y5 = h')) ⟨_, rfl, rfl, rfl⟩) ?_
    rintro _ _ ⟨rfl, rfl⟩
    refine Go.lload at_268 (q := 270) rfl rfl ?_
    refine Go.lcmp at_270 (q := 271) rfl ?_
    refine Go.lif_ne at_271 (q := 289) (q' := 274) (by decide) rfl rfl (fun c_ => absurd (af3 t1 t2 t3 p0 p1 p2 u v g1 g2 g3 q0 q1 q2) c_) (fun _ => ?_)
    refine Go.aload at_274 (q := 276) rfl rfl rfl ?_
    refine Go.callVV (P := fun w h' => w = .long ((((0 + u + v) - (c2 t1 t2 u v) p0.toNatClampNeg) - (upd (c2 t1 t2 u v) p0.toNatClampNeg 0) p1.toNatClampNeg) - (upd (upd (c2 t1 t2 u v) p0.toNatClampNeg 0) p1.toNatClampNeg 0) p2.toNatClampNeg) ∧ y5 = h') (argsL := []) (rest := []) (wd := 0) (Ls1 := #[.val (.ref o)]) at_276 (q := 279) rfl (w44 hw) (w45 hw) (w47 hw) (w46 hw) (w48 hw) (w3 hw) (by decide) pn8 pd8 rfl rfl S5.exa (fun m => by simp [entryFrame, mkF, argsToLocals, Value.category]) rfl (by decide) rfl (by decide) (by decide) (by decide) (sk_total l Z a0 hw n0 y5 o S5 (Q := RV (fun w h' => w = .long ((((0 + u + v) - (c2 t1 t2 u v) p0.toNatClampNeg) - (upd (c2 t1 t2 u v) p0.toNatClampNeg 0) p1.toNatClampNeg) - (upd (upd (c2 t1 t2 u v) p0.toNatClampNeg 0) p1.toNatClampNeg 0) p2.toNatClampNeg) ∧ y5 = h')) ⟨_, rfl, rfl, rfl⟩) ?_
    rintro _ _ ⟨rfl, rfl⟩
    refine Go.lload at_279 (q := 281) rfl rfl ?_
    refine Go.lcmp at_281 (q := 282) rfl ?_
    refine Go.lif_ne at_282 (q := 289) (q' := 285) (by decide) rfl rfl (fun c_ => absurd (by rw [T5.1, (af3 t1 t2 t1 p0 p1 p2 u v g1 g2 g1 q0 q1 q2), (af3 t1 t2 t2 p0 p1 p2 u v g1 g2 g2 q0 q1 q2), if_pos c191]) c_) (fun _ => ?_)
    refine Go.iconst at_285 (q := 286) rfl (x := (1 : Int32)) (by decide) ?_
    refine Go.goto at_286 (q := 290) (by decide) rfl ?_
    refine Go.istore at_290 (q := 292) rfl (Ls' := #[.val (.int a), .val (.int b), .val (.int c), .val (.long u), .second, .val (.long v), .second, .val (.int fl), .val (.int t1), .val (.int t2), .val (.int t3), .val (.int (3 : Int32)), .val (.int p0), .val (.int p1), .val (.int p2), .val (.ref r), .val (.ref o), .val (.long (afF t1 t1 t2 u v (3 : Int32) p0 p1 p2)), .second, .val (.long (afF t2 t1 t2 u v (3 : Int32) p0 p1 p2)), .second, .val (.long (afF t3 t1 t2 u v (3 : Int32) p0 p1 p2)), .second, .val (.long ((afF t1 t1 t2 u v (3 : Int32) p0 p1 p2) + (0 : Int64))), .second, .val (.int (1 : Int32)), .unset, .unset]) rfl ?_
    refine Go.aload at_292 (q := 294) rfl rfl rfl ?_
    refine Go.callVV (P := fun w h' => ∃ r kr, w = .ref r ∧ Ar Z h' r .int kr (two t1 t2)) (argsL := []) (rest := []) (wd := 0) (Ls1 := #[.val (.ref o), .unset, .unset, .unset, .unset, .unset]) at_294 (q := 297) rfl (w49 hw) (w50 hw) (w52 hw) (w51 hw) (w53 hw) (w3 hw) (by decide) pn9 pd9 rfl rfl S5.exa (fun m => by simp [entryFrame, mkF, argsToLocals, Value.category]) rfl (by decide) rfl (by decide) (by decide) (by decide) (sk_take l Z a0 hw n0 y5 o t1 t2 g1 g2 S5 (Q := RV (fun w h' => ∃ r kr, w = .ref r ∧ Ar Z h' r .int kr (two t1 t2))) (fun h' r kr q => ⟨_, rfl, r, kr, rfl, q⟩)) ?_
    rintro _ y6 ⟨r2, kr2, rfl, A5⟩
    refine Go.astore at_297 (q := 299) rfl rfl (Ls' := #[.val (.int a), .val (.int b), .val (.int c), .val (.long u), .second, .val (.long v), .second, .val (.int fl), .val (.int t1), .val (.int t2), .val (.int t3), .val (.int (3 : Int32)), .val (.int p0), .val (.int p1), .val (.int p2), .val (.ref r), .val (.ref o), .val (.long (afF t1 t1 t2 u v (3 : Int32) p0 p1 p2)), .second, .val (.long (afF t2 t1 t2 u v (3 : Int32) p0 p1 p2)), .second, .val (.long (afF t3 t1 t2 u v (3 : Int32) p0 p1 p2)), .second, .val (.long ((afF t1 t1 t2 u v (3 : Int32) p0 p1 p2) + (0 : Int64))), .second, .val (.int (1 : Int32)), .val (.ref r2), .unset]) rfl ?_
    by_cases heq : t1 = t2
    · skip
      have A6 : Ar Z y6 r2 .int kr2 [.int t1] := by have q := A5; unfold two at q; rw [if_pos heq] at q; exact q
      refine Go.iload at_299 (q := 301) rfl rfl ?_
      refine Go.iload at_301 (q := 303) rfl rfl ?_
      refine Go.icmp_ne at_303 (q := 332) (q' := 306) (by decide) rfl rfl (fun c_ => absurd heq c_) (fun _ => ?_)
      refine Go.aload at_306 (q := 308) rfl rfl rfl ?_
      refine Go.arraylength at_308 (q := 309) rfl A6 (z := 1) rfl ?_
      refine Go.iconst at_309 (q := 310) rfl (x := (1 : Int32)) (by decide) ?_
      refine Go.icmp_ne at_310 (q := 326) (q' := 313) (by decide) rfl rfl (fun c_ => absurd (by decide) c_) (fun _ => ?_)
      refine Go.aload at_313 (q := 315) rfl rfl rfl ?_
      refine Go.iconst at_315 (q := 316) rfl (x := (0 : Int32)) (by decide) ?_
      refine Go.iaload at_316 (q := 317) rfl A6 (by decide) rfl ?_
      refine Go.iload at_317 (q := 319) rfl rfl ?_
      refine Go.icmp_ne at_319 (q := 326) (q' := 322) (by decide) rfl rfl (fun c_ => absurd rfl c_) (fun _ => ?_)
      refine Go.iconst at_322 (q := 323) rfl (x := (1 : Int32)) (by decide) ?_
      refine Go.goto at_323 (q := 327) (by decide) rfl ?_
      refine Go.istore at_327 (q := 329) rfl (Ls' := #[.val (.int a), .val (.int b), .val (.int c), .val (.long u), .second, .val (.long v), .second, .val (.int fl), .val (.int t1), .val (.int t2), .val (.int t3), .val (.int (3 : Int32)), .val (.int p0), .val (.int p1), .val (.int p2), .val (.ref r), .val (.ref o), .val (.long (afF t1 t1 t2 u v (3 : Int32) p0 p1 p2)), .second, .val (.long (afF t2 t1 t2 u v (3 : Int32) p0 p1 p2)), .second, .val (.long (afF t3 t1 t2 u v (3 : Int32) p0 p1 p2)), .second, .val (.long ((afF t1 t1 t2 u v (3 : Int32) p0 p1 p2) + (0 : Int64))), .second, .val (.int (1 : Int32)), .val (.ref r2), .val (.int (1 : Int32))]) rfl ?_
      refine Go.goto at_329 (q := 374) (by decide) rfl ?_
      refine Go.iload at_374 (q := 376) rfl rfl ?_
      refine Go.if_eq at_376 (q := 388) (q' := 379) (by decide) rfl rfl (fun c_ => absurd c_ (by decide)) (fun _ => ?_)
      refine Go.iload at_379 (q := 381) rfl rfl ?_
      refine Go.if_eq at_381 (q := 388) (q' := 384) (by decide) rfl rfl (fun c_ => absurd c_ (by decide)) (fun _ => ?_)
      refine Go.iconst at_384 (q := 385) rfl (x := (1 : Int32)) (by decide) ?_
      refine Go.goto at_385 (q := 389) (by decide) rfl ?_
      refine Go.zreturn at_389 (by decide) (by decide) (by decide) ?_
      rfl
    · skip
      by_cases hlt : t1 < t2
      · skip
        have A6 : Ar Z y6 r2 .int kr2 [.int t1, .int t2] := by have q := A5; unfold two at q; rw [if_neg heq, if_pos hlt] at q; exact q
        have m1 : t1 = minF t1 t2 := by unfold minF; rw [if_neg (fun q => by rw [Int32.lt_iff_toInt_lt] at hlt q; omega)]
        have m2 : t2 = maxF t1 t2 := by unfold maxF; rw [if_pos hlt]
        refine Go.iload at_299 (q := 301) rfl rfl ?_
        refine Go.iload at_301 (q := 303) rfl rfl ?_
        refine Go.icmp_ne at_303 (q := 332) (q' := 306) (by decide) rfl rfl (fun _ => ?_) (fun c_ => absurd c_ heq)
        refine Go.aload at_332 (q := 334) rfl rfl rfl ?_
        refine Go.arraylength at_334 (q := 335) rfl A6 (z := 2) rfl ?_
        refine Go.iconst at_335 (q := 336) rfl (x := (2 : Int32)) (by decide) ?_
        refine Go.icmp_ne at_336 (q := 371) (q' := 339) (by decide) rfl rfl (fun c_ => absurd (by decide) c_) (fun _ => ?_)
        refine Go.aload at_339 (q := 341) rfl rfl rfl ?_
        refine Go.iconst at_341 (q := 342) rfl (x := (0 : Int32)) (by decide) ?_
        refine Go.iaload at_342 (q := 343) rfl A6 (by decide) rfl ?_
        refine Go.iload at_343 (q := 345) rfl rfl ?_
        refine Go.iload at_345 (q := 347) rfl rfl ?_
        refine Go.callSV (P := fun w h' => w = .int (minF t1 t2) ∧ y6 = h') (argsL := [(.int t1), (.int t2)]) (rest := [(.int t1)]) (wd := 1) (Ls1 := #[.val (.int t1), .val (.int t2)]) at_347 (q := 350) rfl (w63 hw) (w64 hw) (w65 hw) (w66 hw) (by decide) pn12 pd12 rfl rfl (fun m => by simp [entryFrame, mkF, argsToLocals, Value.category]) rfl (by decide) rfl (by decide) (by decide) (by decide) (b12 l Z a0 hw n0 y6 t1 t2 (Q := RV (fun w h' => w = .int (minF t1 t2) ∧ y6 = h')) ⟨_, rfl, rfl, rfl⟩) ?_
        rintro _ _ ⟨rfl, rfl⟩
        refine Go.icmp_ne at_350 (q := 371) (q' := 353) (by decide) rfl rfl (fun c_ => absurd m1 c_) (fun _ => ?_)
        refine Go.aload at_353 (q := 355) rfl rfl rfl ?_
        refine Go.iconst at_355 (q := 356) rfl (x := (1 : Int32)) (by decide) ?_
        refine Go.iaload at_356 (q := 357) rfl A6 (by decide) rfl ?_
        refine Go.iload at_357 (q := 359) rfl rfl ?_
        refine Go.iload at_359 (q := 361) rfl rfl ?_
        refine Go.callSV (P := fun w h' => w = .int (maxF t1 t2) ∧ y6 = h') (argsL := [(.int t1), (.int t2)]) (rest := [(.int t2)]) (wd := 1) (Ls1 := #[.val (.int t1), .val (.int t2)]) at_361 (q := 364) rfl (w67 hw) (w68 hw) (w65 hw) (w69 hw) (by decide) pn13 pd13 rfl rfl (fun m => by simp [entryFrame, mkF, argsToLocals, Value.category]) rfl (by decide) rfl (by decide) (by decide) (by decide) (b13 l Z a0 hw n0 y6 t1 t2 (Q := RV (fun w h' => w = .int (maxF t1 t2) ∧ y6 = h')) ⟨_, rfl, rfl, rfl⟩) ?_
        rintro _ _ ⟨rfl, rfl⟩
        refine Go.icmp_ne at_364 (q := 371) (q' := 367) (by decide) rfl rfl (fun c_ => absurd m2 c_) (fun _ => ?_)
        refine Go.iconst at_367 (q := 368) rfl (x := (1 : Int32)) (by decide) ?_
        refine Go.goto at_368 (q := 372) (by decide) rfl ?_
        refine Go.istore at_372 (q := 374) rfl (Ls' := #[.val (.int a), .val (.int b), .val (.int c), .val (.long u), .second, .val (.long v), .second, .val (.int fl), .val (.int t1), .val (.int t2), .val (.int t3), .val (.int (3 : Int32)), .val (.int p0), .val (.int p1), .val (.int p2), .val (.ref r), .val (.ref o), .val (.long (afF t1 t1 t2 u v (3 : Int32) p0 p1 p2)), .second, .val (.long (afF t2 t1 t2 u v (3 : Int32) p0 p1 p2)), .second, .val (.long (afF t3 t1 t2 u v (3 : Int32) p0 p1 p2)), .second, .val (.long ((afF t1 t1 t2 u v (3 : Int32) p0 p1 p2) + (0 : Int64))), .second, .val (.int (1 : Int32)), .val (.ref r2), .val (.int (1 : Int32))]) rfl ?_
        refine Go.iload at_374 (q := 376) rfl rfl ?_
        refine Go.if_eq at_376 (q := 388) (q' := 379) (by decide) rfl rfl (fun c_ => absurd c_ (by decide)) (fun _ => ?_)
        refine Go.iload at_379 (q := 381) rfl rfl ?_
        refine Go.if_eq at_381 (q := 388) (q' := 384) (by decide) rfl rfl (fun c_ => absurd c_ (by decide)) (fun _ => ?_)
        refine Go.iconst at_384 (q := 385) rfl (x := (1 : Int32)) (by decide) ?_
        refine Go.goto at_385 (q := 389) (by decide) rfl ?_
        refine Go.zreturn at_389 (by decide) (by decide) (by decide) ?_
        rfl
      · skip
        have A6 : Ar Z y6 r2 .int kr2 [.int t2, .int t1] := by have q := A5; unfold two at q; rw [if_neg heq, if_neg hlt] at q; exact q
        have hgt : t2 < t1 := by rw [Int32.lt_iff_toInt_lt] at hlt ⊢; have q := heq; rw [← Int32.toInt_inj] at q; omega
        have m1 : t2 = minF t1 t2 := by unfold minF; rw [if_pos hgt]
        have m2 : t1 = maxF t1 t2 := by unfold maxF; rw [if_neg hlt]
        refine Go.iload at_299 (q := 301) rfl rfl ?_
        refine Go.iload at_301 (q := 303) rfl rfl ?_
        refine Go.icmp_ne at_303 (q := 332) (q' := 306) (by decide) rfl rfl (fun _ => ?_) (fun c_ => absurd c_ heq)
        refine Go.aload at_332 (q := 334) rfl rfl rfl ?_
        refine Go.arraylength at_334 (q := 335) rfl A6 (z := 2) rfl ?_
        refine Go.iconst at_335 (q := 336) rfl (x := (2 : Int32)) (by decide) ?_
        refine Go.icmp_ne at_336 (q := 371) (q' := 339) (by decide) rfl rfl (fun c_ => absurd (by decide) c_) (fun _ => ?_)
        refine Go.aload at_339 (q := 341) rfl rfl rfl ?_
        refine Go.iconst at_341 (q := 342) rfl (x := (0 : Int32)) (by decide) ?_
        refine Go.iaload at_342 (q := 343) rfl A6 (by decide) rfl ?_
        refine Go.iload at_343 (q := 345) rfl rfl ?_
        refine Go.iload at_345 (q := 347) rfl rfl ?_
        refine Go.callSV (P := fun w h' => w = .int (minF t1 t2) ∧ y6 = h') (argsL := [(.int t1), (.int t2)]) (rest := [(.int t2)]) (wd := 1) (Ls1 := #[.val (.int t1), .val (.int t2)]) at_347 (q := 350) rfl (w63 hw) (w64 hw) (w65 hw) (w66 hw) (by decide) pn12 pd12 rfl rfl (fun m => by simp [entryFrame, mkF, argsToLocals, Value.category]) rfl (by decide) rfl (by decide) (by decide) (by decide) (b12 l Z a0 hw n0 y6 t1 t2 (Q := RV (fun w h' => w = .int (minF t1 t2) ∧ y6 = h')) ⟨_, rfl, rfl, rfl⟩) ?_
        rintro _ _ ⟨rfl, rfl⟩
        refine Go.icmp_ne at_350 (q := 371) (q' := 353) (by decide) rfl rfl (fun c_ => absurd m1 c_) (fun _ => ?_)
        refine Go.aload at_353 (q := 355) rfl rfl rfl ?_
        refine Go.iconst at_355 (q := 356) rfl (x := (1 : Int32)) (by decide) ?_
        refine Go.iaload at_356 (q := 357) rfl A6 (by decide) rfl ?_
        refine Go.iload at_357 (q := 359) rfl rfl ?_
        refine Go.iload at_359 (q := 361) rfl rfl ?_
        refine Go.callSV (P := fun w h' => w = .int (maxF t1 t2) ∧ y6 = h') (argsL := [(.int t1), (.int t2)]) (rest := [(.int t1)]) (wd := 1) (Ls1 := #[.val (.int t1), .val (.int t2)]) at_361 (q := 364) rfl (w67 hw) (w68 hw) (w65 hw) (w69 hw) (by decide) pn13 pd13 rfl rfl (fun m => by simp [entryFrame, mkF, argsToLocals, Value.category]) rfl (by decide) rfl (by decide) (by decide) (by decide) (b13 l Z a0 hw n0 y6 t1 t2 (Q := RV (fun w h' => w = .int (maxF t1 t2) ∧ y6 = h')) ⟨_, rfl, rfl, rfl⟩) ?_
        rintro _ _ ⟨rfl, rfl⟩
        refine Go.icmp_ne at_364 (q := 371) (q' := 367) (by decide) rfl rfl (fun c_ => absurd m2 c_) (fun _ => ?_)
        refine Go.iconst at_367 (q := 368) rfl (x := (1 : Int32)) (by decide) ?_
        refine Go.goto at_368 (q := 372) (by decide) rfl ?_
        refine Go.istore at_372 (q := 374) rfl (Ls' := #[.val (.int a), .val (.int b), .val (.int c), .val (.long u), .second, .val (.long v), .second, .val (.int fl), .val (.int t1), .val (.int t2), .val (.int t3), .val (.int (3 : Int32)), .val (.int p0), .val (.int p1), .val (.int p2), .val (.ref r), .val (.ref o), .val (.long (afF t1 t1 t2 u v (3 : Int32) p0 p1 p2)), .second, .val (.long (afF t2 t1 t2 u v (3 : Int32) p0 p1 p2)), .second, .val (.long (afF t3 t1 t2 u v (3 : Int32) p0 p1 p2)), .second, .val (.long ((afF t1 t1 t2 u v (3 : Int32) p0 p1 p2) + (0 : Int64))), .second, .val (.int (1 : Int32)), .val (.ref r2), .val (.int (1 : Int32))]) rfl ?_
        refine Go.iload at_374 (q := 376) rfl rfl ?_
        refine Go.if_eq at_376 (q := 388) (q' := 379) (by decide) rfl rfl (fun c_ => absurd c_ (by decide)) (fun _ => ?_)
        refine Go.iload at_379 (q := 381) rfl rfl ?_
        refine Go.if_eq at_381 (q := 388) (q' := 384) (by decide) rfl rfl (fun c_ => absurd c_ (by decide)) (fun _ => ?_)
        refine Go.iconst at_384 (q := 385) rfl (x := (1 : Int32)) (by decide) ?_
        refine Go.goto at_385 (q := 389) (by decide) rfl ?_
        refine Go.zreturn at_389 (by decide) (by decide) (by decide) ?_
        rfl
  · skip
    refine Go.lload at_226 (q := 228) rfl rfl ?_
    refine Go.goto at_228 (q := 232) (by decide) rfl ?_
    refine Go.ladd at_232 (q := 233) rfl ?_
    refine Go.lstore at_233 (q := 235) rfl (Ls' := #[.val (.int a), .val (.int b), .val (.int c), .val (.long u), .second, .val (.long v), .second, .val (.int fl), .val (.int t1), .val (.int t2), .val (.int t3), .val (.int (3 : Int32)), .val (.int p0), .val (.int p1), .val (.int p2), .val (.ref r), .val (.ref o), .val (.long (afF t1 t1 t2 u v (3 : Int32) p0 p1 p2)), .second, .val (.long (afF t2 t1 t2 u v (3 : Int32) p0 p1 p2)), .second, .val (.long (afF t3 t1 t2 u v (3 : Int32) p0 p1 p2)), .second, .val (.long ((afF t1 t1 t2 u v (3 : Int32) p0 p1 p2) + (afF t2 t1 t2 u v (3 : Int32) p0 p1 p2))), .second, .unset, .unset, .unset]) rfl ?_
    refine Go.aload at_235 (q := 237) rfl rfl rfl ?_
    refine Go.iload at_237 (q := 239) rfl rfl ?_
    refine Go.callVV (P := fun w h' => w = .long ((upd (upd (upd (c2 t1 t2 u v) p0.toNatClampNeg 0) p1.toNatClampNeg 0) p2.toNatClampNeg 0) t1.toNatClampNeg) ∧ y5 = h') (argsL := [(.int t1)]) (rest := []) (wd := 0) (Ls1 := #[.val (.ref o), .val (.int t1), .unset]) at_239 (q := 242) rfl (w39 hw) (w40 hw) (w42 hw) (w41 hw) (w43 hw) (w3 hw) (by decide) pn7 pd7 rfl rfl S5.exa (fun m => by simp [entryFrame, mkF, argsToLocals, Value.category]) rfl (by decide) rfl (by decide) (by decide) (by decide) (sk_of l Z a0 hw n0 y5 o t1 g1 S5 (Q := RV (fun w h' => w = .long ((upd (upd (upd (c2 t1 t2 u v) p0.toNatClampNeg 0) p1.toNatClampNeg 0) p2.toNatClampNeg 0) t1.toNatClampNeg) ∧ y5 = h')) ⟨_, rfl, rfl, rfl⟩) ?_
    rintro _ _ ⟨rfl, rfl⟩
    refine Go.lload at_242 (q := 244) rfl rfl ?_
    refine Go.lcmp at_244 (q := 245) rfl ?_
    refine Go.lif_ne at_245 (q := 289) (q' := 248) (by decide) rfl rfl (fun c_ => absurd (af3 t1 t2 t1 p0 p1 p2 u v g1 g2 g1 q0 q1 q2) c_) (fun _ => ?_)
    refine Go.aload at_248 (q := 250) rfl rfl rfl ?_
    refine Go.iload at_250 (q := 252) rfl rfl ?_
    refine Go.callVV (P := fun w h' => w = .long ((upd (upd (upd (c2 t1 t2 u v) p0.toNatClampNeg 0) p1.toNatClampNeg 0) p2.toNatClampNeg 0) t2.toNatClampNeg) ∧ y5 = h') (argsL := [(.int t2)]) (rest := []) (wd := 0) (Ls1 := #[.val (.ref o), .val (.int t2), .unset]) at_252 (q := 255) rfl (w39 hw) (w40 hw) (w42 hw) (w41 hw) (w43 hw) (w3 hw) (by decide) pn7 pd7 rfl rfl S5.exa (fun m => by simp [entryFrame, mkF, argsToLocals, Value.category]) rfl (by decide) rfl (by decide) (by decide) (by decide) (sk_of l Z a0 hw n0 y5 o t2 g2 S5 (Q := RV (fun w h' => w = .long ((upd (upd (upd (c2 t1 t2 u v) p0.toNatClampNeg 0) p1.toNatClampNeg 0) p2.toNatClampNeg 0) t2.toNatClampNeg) ∧ y5 = h')) ⟨_, rfl, rfl, rfl⟩) ?_
    rintro _ _ ⟨rfl, rfl⟩
    refine Go.lload at_255 (q := 257) rfl rfl ?_
    refine Go.lcmp at_257 (q := 258) rfl ?_
    refine Go.lif_ne at_258 (q := 289) (q' := 261) (by decide) rfl rfl (fun c_ => absurd (af3 t1 t2 t2 p0 p1 p2 u v g1 g2 g2 q0 q1 q2) c_) (fun _ => ?_)
    refine Go.aload at_261 (q := 263) rfl rfl rfl ?_
    refine Go.iload at_263 (q := 265) rfl rfl ?_
    refine Go.callVV (P := fun w h' => w = .long ((upd (upd (upd (c2 t1 t2 u v) p0.toNatClampNeg 0) p1.toNatClampNeg 0) p2.toNatClampNeg 0) t3.toNatClampNeg) ∧ y5 = h') (argsL := [(.int t3)]) (rest := []) (wd := 0) (Ls1 := #[.val (.ref o), .val (.int t3), .unset]) at_265 (q := 268) rfl (w39 hw) (w40 hw) (w42 hw) (w41 hw) (w43 hw) (w3 hw) (by decide) pn7 pd7 rfl rfl S5.exa (fun m => by simp [entryFrame, mkF, argsToLocals, Value.category]) rfl (by decide) rfl (by decide) (by decide) (by decide) (sk_of l Z a0 hw n0 y5 o t3 g3 S5 (Q := RV (fun w h' => w = .long ((upd (upd (upd (c2 t1 t2 u v) p0.toNatClampNeg 0) p1.toNatClampNeg 0) p2.toNatClampNeg 0) t3.toNatClampNeg) ∧ y5 = h')) ⟨_, rfl, rfl, rfl⟩) ?_
    rintro _ _ ⟨rfl, rfl⟩
    refine Go.lload at_268 (q := 270) rfl rfl ?_
    refine Go.lcmp at_270 (q := 271) rfl ?_
    refine Go.lif_ne at_271 (q := 289) (q' := 274) (by decide) rfl rfl (fun c_ => absurd (af3 t1 t2 t3 p0 p1 p2 u v g1 g2 g3 q0 q1 q2) c_) (fun _ => ?_)
    refine Go.aload at_274 (q := 276) rfl rfl rfl ?_
    refine Go.callVV (P := fun w h' => w = .long ((((0 + u + v) - (c2 t1 t2 u v) p0.toNatClampNeg) - (upd (c2 t1 t2 u v) p0.toNatClampNeg 0) p1.toNatClampNeg) - (upd (upd (c2 t1 t2 u v) p0.toNatClampNeg 0) p1.toNatClampNeg 0) p2.toNatClampNeg) ∧ y5 = h') (argsL := []) (rest := []) (wd := 0) (Ls1 := #[.val (.ref o)]) at_276 (q := 279) rfl (w44 hw) (w45 hw) (w47 hw) (w46 hw) (w48 hw) (w3 hw) (by decide) pn8 pd8 rfl rfl S5.exa (fun m => by simp [entryFrame, mkF, argsToLocals, Value.category]) rfl (by decide) rfl (by decide) (by decide) (by decide) (sk_total l Z a0 hw n0 y5 o S5 (Q := RV (fun w h' => w = .long ((((0 + u + v) - (c2 t1 t2 u v) p0.toNatClampNeg) - (upd (c2 t1 t2 u v) p0.toNatClampNeg 0) p1.toNatClampNeg) - (upd (upd (c2 t1 t2 u v) p0.toNatClampNeg 0) p1.toNatClampNeg 0) p2.toNatClampNeg) ∧ y5 = h')) ⟨_, rfl, rfl, rfl⟩) ?_
    rintro _ _ ⟨rfl, rfl⟩
    refine Go.lload at_279 (q := 281) rfl rfl ?_
    refine Go.lcmp at_281 (q := 282) rfl ?_
    refine Go.lif_ne at_282 (q := 289) (q' := 285) (by decide) rfl rfl (fun c_ => absurd (by rw [T5.1, (af3 t1 t2 t1 p0 p1 p2 u v g1 g2 g1 q0 q1 q2), (af3 t1 t2 t2 p0 p1 p2 u v g1 g2 g2 q0 q1 q2), if_neg c191]) c_) (fun _ => ?_)
    refine Go.iconst at_285 (q := 286) rfl (x := (1 : Int32)) (by decide) ?_
    refine Go.goto at_286 (q := 290) (by decide) rfl ?_
    refine Go.istore at_290 (q := 292) rfl (Ls' := #[.val (.int a), .val (.int b), .val (.int c), .val (.long u), .second, .val (.long v), .second, .val (.int fl), .val (.int t1), .val (.int t2), .val (.int t3), .val (.int (3 : Int32)), .val (.int p0), .val (.int p1), .val (.int p2), .val (.ref r), .val (.ref o), .val (.long (afF t1 t1 t2 u v (3 : Int32) p0 p1 p2)), .second, .val (.long (afF t2 t1 t2 u v (3 : Int32) p0 p1 p2)), .second, .val (.long (afF t3 t1 t2 u v (3 : Int32) p0 p1 p2)), .second, .val (.long ((afF t1 t1 t2 u v (3 : Int32) p0 p1 p2) + (afF t2 t1 t2 u v (3 : Int32) p0 p1 p2))), .second, .val (.int (1 : Int32)), .unset, .unset]) rfl ?_
    refine Go.aload at_292 (q := 294) rfl rfl rfl ?_
    refine Go.callVV (P := fun w h' => ∃ r kr, w = .ref r ∧ Ar Z h' r .int kr (two t1 t2)) (argsL := []) (rest := []) (wd := 0) (Ls1 := #[.val (.ref o), .unset, .unset, .unset, .unset, .unset]) at_294 (q := 297) rfl (w49 hw) (w50 hw) (w52 hw) (w51 hw) (w53 hw) (w3 hw) (by decide) pn9 pd9 rfl rfl S5.exa (fun m => by simp [entryFrame, mkF, argsToLocals, Value.category]) rfl (by decide) rfl (by decide) (by decide) (by decide) (sk_take l Z a0 hw n0 y5 o t1 t2 g1 g2 S5 (Q := RV (fun w h' => ∃ r kr, w = .ref r ∧ Ar Z h' r .int kr (two t1 t2))) (fun h' r kr q => ⟨_, rfl, r, kr, rfl, q⟩)) ?_
    rintro _ y6 ⟨r2, kr2, rfl, A5⟩
    refine Go.astore at_297 (q := 299) rfl rfl (Ls' := #[.val (.int a), .val (.int b), .val (.int c), .val (.long u), .second, .val (.long v), .second, .val (.int fl), .val (.int t1), .val (.int t2), .val (.int t3), .val (.int (3 : Int32)), .val (.int p0), .val (.int p1), .val (.int p2), .val (.ref r), .val (.ref o), .val (.long (afF t1 t1 t2 u v (3 : Int32) p0 p1 p2)), .second, .val (.long (afF t2 t1 t2 u v (3 : Int32) p0 p1 p2)), .second, .val (.long (afF t3 t1 t2 u v (3 : Int32) p0 p1 p2)), .second, .val (.long ((afF t1 t1 t2 u v (3 : Int32) p0 p1 p2) + (afF t2 t1 t2 u v (3 : Int32) p0 p1 p2))), .second, .val (.int (1 : Int32)), .val (.ref r2), .unset]) rfl ?_
    by_cases heq : t1 = t2
    · skip
      have A6 : Ar Z y6 r2 .int kr2 [.int t1] := by have q := A5; unfold two at q; rw [if_pos heq] at q; exact q
      refine Go.iload at_299 (q := 301) rfl rfl ?_
      refine Go.iload at_301 (q := 303) rfl rfl ?_
      refine Go.icmp_ne at_303 (q := 332) (q' := 306) (by decide) rfl rfl (fun c_ => absurd heq c_) (fun _ => ?_)
      refine Go.aload at_306 (q := 308) rfl rfl rfl ?_
      refine Go.arraylength at_308 (q := 309) rfl A6 (z := 1) rfl ?_
      refine Go.iconst at_309 (q := 310) rfl (x := (1 : Int32)) (by decide) ?_
      refine Go.icmp_ne at_310 (q := 326) (q' := 313) (by decide) rfl rfl (fun c_ => absurd (by decide) c_) (fun _ => ?_)
      refine Go.aload at_313 (q := 315) rfl rfl rfl ?_
      refine Go.iconst at_315 (q := 316) rfl (x := (0 : Int32)) (by decide) ?_
      refine Go.iaload at_316 (q := 317) rfl A6 (by decide) rfl ?_
      refine Go.iload at_317 (q := 319) rfl rfl ?_
      refine Go.icmp_ne at_319 (q := 326) (q' := 322) (by decide) rfl rfl (fun c_ => absurd rfl c_) (fun _ => ?_)
      refine Go.iconst at_322 (q := 323) rfl (x := (1 : Int32)) (by decide) ?_
      refine Go.goto at_323 (q := 327) (by decide) rfl ?_
      refine Go.istore at_327 (q := 329) rfl (Ls' := #[.val (.int a), .val (.int b), .val (.int c), .val (.long u), .second, .val (.long v), .second, .val (.int fl), .val (.int t1), .val (.int t2), .val (.int t3), .val (.int (3 : Int32)), .val (.int p0), .val (.int p1), .val (.int p2), .val (.ref r), .val (.ref o), .val (.long (afF t1 t1 t2 u v (3 : Int32) p0 p1 p2)), .second, .val (.long (afF t2 t1 t2 u v (3 : Int32) p0 p1 p2)), .second, .val (.long (afF t3 t1 t2 u v (3 : Int32) p0 p1 p2)), .second, .val (.long ((afF t1 t1 t2 u v (3 : Int32) p0 p1 p2) + (afF t2 t1 t2 u v (3 : Int32) p0 p1 p2))), .second, .val (.int (1 : Int32)), .val (.ref r2), .val (.int (1 : Int32))]) rfl ?_
      refine Go.goto at_329 (q := 374) (by decide) rfl ?_
      refine Go.iload at_374 (q := 376) rfl rfl ?_
      refine Go.if_eq at_376 (q := 388) (q' := 379) (by decide) rfl rfl (fun c_ => absurd c_ (by decide)) (fun _ => ?_)
      refine Go.iload at_379 (q := 381) rfl rfl ?_
      refine Go.if_eq at_381 (q := 388) (q' := 384) (by decide) rfl rfl (fun c_ => absurd c_ (by decide)) (fun _ => ?_)
      refine Go.iconst at_384 (q := 385) rfl (x := (1 : Int32)) (by decide) ?_
      refine Go.goto at_385 (q := 389) (by decide) rfl ?_
      refine Go.zreturn at_389 (by decide) (by decide) (by decide) ?_
      rfl
    · skip
      by_cases hlt : t1 < t2
      · skip
        have A6 : Ar Z y6 r2 .int kr2 [.int t1, .int t2] := by have q := A5; unfold two at q; rw [if_neg heq, if_pos hlt] at q; exact q
        have m1 : t1 = minF t1 t2 := by unfold minF; rw [if_neg (fun q => by rw [Int32.lt_iff_toInt_lt] at hlt q; omega)]
        have m2 : t2 = maxF t1 t2 := by unfold maxF; rw [if_pos hlt]
        refine Go.iload at_299 (q := 301) rfl rfl ?_
        refine Go.iload at_301 (q := 303) rfl rfl ?_
        refine Go.icmp_ne at_303 (q := 332) (q' := 306) (by decide) rfl rfl (fun _ => ?_) (fun c_ => absurd c_ heq)
        refine Go.aload at_332 (q := 334) rfl rfl rfl ?_
        refine Go.arraylength at_334 (q := 335) rfl A6 (z := 2) rfl ?_
        refine Go.iconst at_335 (q := 336) rfl (x := (2 : Int32)) (by decide) ?_
        refine Go.icmp_ne at_336 (q := 371) (q' := 339) (by decide) rfl rfl (fun c_ => absurd (by decide) c_) (fun _ => ?_)
        refine Go.aload at_339 (q := 341) rfl rfl rfl ?_
        refine Go.iconst at_341 (q := 342) rfl (x := (0 : Int32)) (by decide) ?_
        refine Go.iaload at_342 (q := 343) rfl A6 (by decide) rfl ?_
        refine Go.iload at_343 (q := 345) rfl rfl ?_
        refine Go.iload at_345 (q := 347) rfl rfl ?_
        refine Go.callSV (P := fun w h' => w = .int (minF t1 t2) ∧ y6 = h') (argsL := [(.int t1), (.int t2)]) (rest := [(.int t1)]) (wd := 1) (Ls1 := #[.val (.int t1), .val (.int t2)]) at_347 (q := 350) rfl (w63 hw) (w64 hw) (w65 hw) (w66 hw) (by decide) pn12 pd12 rfl rfl (fun m => by simp [entryFrame, mkF, argsToLocals, Value.category]) rfl (by decide) rfl (by decide) (by decide) (by decide) (b12 l Z a0 hw n0 y6 t1 t2 (Q := RV (fun w h' => w = .int (minF t1 t2) ∧ y6 = h')) ⟨_, rfl, rfl, rfl⟩) ?_
        rintro _ _ ⟨rfl, rfl⟩
        refine Go.icmp_ne at_350 (q := 371) (q' := 353) (by decide) rfl rfl (fun c_ => absurd m1 c_) (fun _ => ?_)
        refine Go.aload at_353 (q := 355) rfl rfl rfl ?_
        refine Go.iconst at_355 (q := 356) rfl (x := (1 : Int32)) (by decide) ?_
        refine Go.iaload at_356 (q := 357) rfl A6 (by decide) rfl ?_
        refine Go.iload at_357 (q := 359) rfl rfl ?_
        refine Go.iload at_359 (q := 361) rfl rfl ?_
        refine Go.callSV (P := fun w h' => w = .int (maxF t1 t2) ∧ y6 = h') (argsL := [(.int t1), (.int t2)]) (rest := [(.int t2)]) (wd := 1) (Ls1 := #[.val (.int t1), .val (.int t2)]) at_361 (q := 364) rfl (w67 hw) (w68 hw) (w65 hw) (w69 hw) (by decide) pn13 pd13 rfl rfl (fun m => by simp [entryFrame, mkF, argsToLocals, Value.category]) rfl (by decide) rfl (by decide) (by decide) (by decide) (b13 l Z a0 hw n0 y6 t1 t2 (Q := RV (fun w h' => w = .int (maxF t1 t2) ∧ y6 = h')) ⟨_, rfl, rfl, rfl⟩) ?_
        rintro _ _ ⟨rfl, rfl⟩
        refine Go.icmp_ne at_364 (q := 371) (q' := 367) (by decide) rfl rfl (fun c_ => absurd m2 c_) (fun _ => ?_)
        refine Go.iconst at_367 (q := 368) rfl (x := (1 : Int32)) (by decide) ?_
        refine Go.goto at_368 (q := 372) (by decide) rfl ?_
        refine Go.istore at_372 (q := 374) rfl (Ls' := #[.val (.int a), .val (.int b), .val (.int c), .val (.long u), .second, .val (.long v), .second, .val (.int fl), .val (.int t1), .val (.int t2), .val (.int t3), .val (.int (3 : Int32)), .val (.int p0), .val (.int p1), .val (.int p2), .val (.ref r), .val (.ref o), .val (.long (afF t1 t1 t2 u v (3 : Int32) p0 p1 p2)), .second, .val (.long (afF t2 t1 t2 u v (3 : Int32) p0 p1 p2)), .second, .val (.long (afF t3 t1 t2 u v (3 : Int32) p0 p1 p2)), .second, .val (.long ((afF t1 t1 t2 u v (3 : Int32) p0 p1 p2) + (afF t2 t1 t2 u v (3 : Int32) p0 p1 p2))), .second, .val (.int (1 : Int32)), .val (.ref r2), .val (.int (1 : Int32))]) rfl ?_
        refine Go.iload at_374 (q := 376) rfl rfl ?_
        refine Go.if_eq at_376 (q := 388) (q' := 379) (by decide) rfl rfl (fun c_ => absurd c_ (by decide)) (fun _ => ?_)
        refine Go.iload at_379 (q := 381) rfl rfl ?_
        refine Go.if_eq at_381 (q := 388) (q' := 384) (by decide) rfl rfl (fun c_ => absurd c_ (by decide)) (fun _ => ?_)
        refine Go.iconst at_384 (q := 385) rfl (x := (1 : Int32)) (by decide) ?_
        refine Go.goto at_385 (q := 389) (by decide) rfl ?_
        refine Go.zreturn at_389 (by decide) (by decide) (by decide) ?_
        rfl
      · skip
        have A6 : Ar Z y6 r2 .int kr2 [.int t2, .int t1] := by have q := A5; unfold two at q; rw [if_neg heq, if_neg hlt] at q; exact q
        have hgt : t2 < t1 := by rw [Int32.lt_iff_toInt_lt] at hlt ⊢; have q := heq; rw [← Int32.toInt_inj] at q; omega
        have m1 : t2 = minF t1 t2 := by unfold minF; rw [if_pos hgt]
        have m2 : t1 = maxF t1 t2 := by unfold maxF; rw [if_neg hlt]
        refine Go.iload at_299 (q := 301) rfl rfl ?_
        refine Go.iload at_301 (q := 303) rfl rfl ?_
        refine Go.icmp_ne at_303 (q := 332) (q' := 306) (by decide) rfl rfl (fun _ => ?_) (fun c_ => absurd c_ heq)
        refine Go.aload at_332 (q := 334) rfl rfl rfl ?_
        refine Go.arraylength at_334 (q := 335) rfl A6 (z := 2) rfl ?_
        refine Go.iconst at_335 (q := 336) rfl (x := (2 : Int32)) (by decide) ?_
        refine Go.icmp_ne at_336 (q := 371) (q' := 339) (by decide) rfl rfl (fun c_ => absurd (by decide) c_) (fun _ => ?_)
        refine Go.aload at_339 (q := 341) rfl rfl rfl ?_
        refine Go.iconst at_341 (q := 342) rfl (x := (0 : Int32)) (by decide) ?_
        refine Go.iaload at_342 (q := 343) rfl A6 (by decide) rfl ?_
        refine Go.iload at_343 (q := 345) rfl rfl ?_
        refine Go.iload at_345 (q := 347) rfl rfl ?_
        refine Go.callSV (P := fun w h' => w = .int (minF t1 t2) ∧ y6 = h') (argsL := [(.int t1), (.int t2)]) (rest := [(.int t2)]) (wd := 1) (Ls1 := #[.val (.int t1), .val (.int t2)]) at_347 (q := 350) rfl (w63 hw) (w64 hw) (w65 hw) (w66 hw) (by decide) pn12 pd12 rfl rfl (fun m => by simp [entryFrame, mkF, argsToLocals, Value.category]) rfl (by decide) rfl (by decide) (by decide) (by decide) (b12 l Z a0 hw n0 y6 t1 t2 (Q := RV (fun w h' => w = .int (minF t1 t2) ∧ y6 = h')) ⟨_, rfl, rfl, rfl⟩) ?_
        rintro _ _ ⟨rfl, rfl⟩
        refine Go.icmp_ne at_350 (q := 371) (q' := 353) (by decide) rfl rfl (fun c_ => absurd m1 c_) (fun _ => ?_)
        refine Go.aload at_353 (q := 355) rfl rfl rfl ?_
        refine Go.iconst at_355 (q := 356) rfl (x := (1 : Int32)) (by decide) ?_
        refine Go.iaload at_356 (q := 357) rfl A6 (by decide) rfl ?_
        refine Go.iload at_357 (q := 359) rfl rfl ?_
        refine Go.iload at_359 (q := 361) rfl rfl ?_
        refine Go.callSV (P := fun w h' => w = .int (maxF t1 t2) ∧ y6 = h') (argsL := [(.int t1), (.int t2)]) (rest := [(.int t1)]) (wd := 1) (Ls1 := #[.val (.int t1), .val (.int t2)]) at_361 (q := 364) rfl (w67 hw) (w68 hw) (w65 hw) (w69 hw) (by decide) pn13 pd13 rfl rfl (fun m => by simp [entryFrame, mkF, argsToLocals, Value.category]) rfl (by decide) rfl (by decide) (by decide) (by decide) (b13 l Z a0 hw n0 y6 t1 t2 (Q := RV (fun w h' => w = .int (maxF t1 t2) ∧ y6 = h')) ⟨_, rfl, rfl, rfl⟩) ?_
        rintro _ _ ⟨rfl, rfl⟩
        refine Go.icmp_ne at_364 (q := 371) (q' := 367) (by decide) rfl rfl (fun c_ => absurd m2 c_) (fun _ => ?_)
        refine Go.iconst at_367 (q := 368) rfl (x := (1 : Int32)) (by decide) ?_
        refine Go.goto at_368 (q := 372) (by decide) rfl ?_
        refine Go.istore at_372 (q := 374) rfl (Ls' := #[.val (.int a), .val (.int b), .val (.int c), .val (.long u), .second, .val (.long v), .second, .val (.int fl), .val (.int t1), .val (.int t2), .val (.int t3), .val (.int (3 : Int32)), .val (.int p0), .val (.int p1), .val (.int p2), .val (.ref r), .val (.ref o), .val (.long (afF t1 t1 t2 u v (3 : Int32) p0 p1 p2)), .second, .val (.long (afF t2 t1 t2 u v (3 : Int32) p0 p1 p2)), .second, .val (.long (afF t3 t1 t2 u v (3 : Int32) p0 p1 p2)), .second, .val (.long ((afF t1 t1 t2 u v (3 : Int32) p0 p1 p2) + (afF t2 t1 t2 u v (3 : Int32) p0 p1 p2))), .second, .val (.int (1 : Int32)), .val (.ref r2), .val (.int (1 : Int32))]) rfl ?_
        refine Go.iload at_374 (q := 376) rfl rfl ?_
        refine Go.if_eq at_376 (q := 388) (q' := 379) (by decide) rfl rfl (fun c_ => absurd c_ (by decide)) (fun _ => ?_)
        refine Go.iload at_379 (q := 381) rfl rfl ?_
        refine Go.if_eq at_381 (q := 388) (q' := 384) (by decide) rfl rfl (fun c_ => absurd c_ (by decide)) (fun _ => ?_)
        refine Go.iconst at_384 (q := 385) rfl (x := (1 : Int32)) (by decide) ?_
        refine Go.goto at_385 (q := 389) (by decide) rfl ?_
        refine Go.zreturn at_389 (by decide) (by decide) (by decide) ?_
        rfl
theorem and3 (x : Int32) : x &&& 3 = 0 ∨ x &&& 3 = 1 ∨ x &&& 3 = 2 ∨ x &&& 3 = 3 := by
  have e := c_mask x 3 2 (by decide) (by decide)
  simp only [← Int32.toInt_inj]
  have e0 : (0 : Int32).toInt = 0 := rfl
  have e1 : (1 : Int32).toInt = 1 := rfl
  have e2 : (2 : Int32).toInt = 2 := rfl
  have e3 : (3 : Int32).toInt = 3 := rfl
  omega
set_option maxRecDepth 65536 in
set_option maxHeartbeats 40000000 in
theorem j77 (l : Launch) (Z : State) (a0 : Array Value) (hw : Hw a0 Z) (n0 : Nat) (h : Heap) (O : Old Z n0 h) (a b c fl t1 t2 t3 p0 p1 p2 : Int32) (u v : Int64) (g1 : RG t1) (g2 : RG t2) (g3 : RG t3) (q0 : RG p0) (q1 : RG p1) (q2 : RG p2) :
    Go l Z x code maxLocals ret room_1 n0 (fun v _ => v = some (.int 1)) h 0 0 77 #[.val (.int a), .val (.int b), .val (.int c), .val (.long u), .second, .val (.long v), .second, .val (.int fl), .val (.int t1), .val (.int t2), .val (.int t3), .val (.int (fl &&& (3 : Int32))), .val (.int p0), .val (.int p1), .val (.int p2), .unset, .unset, .unset, .unset, .unset, .unset, .unset, .unset, .unset, .unset, .unset, .unset, .unset] [] := by
  rcases and3 fl with hx | hx | hx | hx <;> rw [hx]
  · exact j77_0 l Z a0 hw n0 h O _ _ _ _ _ _ _ _ _ _ _ _ g1 g2 g3 q0 q1 q2
  · exact j77_1 l Z a0 hw n0 h O _ _ _ _ _ _ _ _ _ _ _ _ g1 g2 g3 q0 q1 q2
  · exact j77_2 l Z a0 hw n0 h O _ _ _ _ _ _ _ _ _ _ _ _ g1 g2 g3 q0 q1 q2
  · exact j77_3 l Z a0 hw n0 h O _ _ _ _ _ _ _ _ _ _ _ _ g1 g2 g3 q0 q1 q2
set_option maxRecDepth 65536 in
set_option maxHeartbeats 40000000 in
theorem b0 (l : Launch) (Z : State) (a0 : Array Value) (hw : Hw a0 Z) (n0 : Nat) (h : Heap) (O : Old Z n0 h) (a b c : Int32) (u v : Int64) (fl : Int32) :
    Go l Z x code maxLocals ret room_1 n0 (fun v _ => v = some (.int 1)) h 0 0 0 #[.val (.int a), .val (.int b), .val (.int c), .val (.long u), .second, .val (.long v), .second, .val (.int fl), .unset, .unset, .unset, .unset, .unset, .unset, .unset, .unset, .unset, .unset, .unset, .unset, .unset, .unset, .unset, .unset, .unset, .unset, .unset, .unset] [] := by
  refine Go.iloadN at_0 (q := 1) rfl rfl ?_
  refine Go.sipush at_1 (q := 4) rfl (x := (16383 : Int32)) (by decide) ?_
  refine Go.iand at_4 (q := 5) rfl ?_
  refine Go.istore at_5 (q := 7) rfl (Ls' := #[.val (.int a), .val (.int b), .val (.int c), .val (.long u), .second, .val (.long v), .second, .val (.int fl), .val (.int (a &&& (16383 : Int32))), .unset, .unset, .unset, .unset, .unset, .unset, .unset, .unset, .unset, .unset, .unset, .unset, .unset, .unset, .unset, .unset, .unset, .unset, .unset]) rfl ?_
  refine Go.iloadN at_7 (q := 8) rfl rfl ?_
  refine Go.sipush at_8 (q := 11) rfl (x := (16383 : Int32)) (by decide) ?_
  refine Go.iand at_11 (q := 12) rfl ?_
  refine Go.istore at_12 (q := 14) rfl (Ls' := #[.val (.int a), .val (.int b), .val (.int c), .val (.long u), .second, .val (.long v), .second, .val (.int fl), .val (.int (a &&& (16383 : Int32))), .val (.int (b &&& (16383 : Int32))), .unset, .unset, .unset, .unset, .unset, .unset, .unset, .unset, .unset, .unset, .unset, .unset, .unset, .unset, .unset, .unset, .unset, .unset]) rfl ?_
  refine Go.iloadN at_14 (q := 15) rfl rfl ?_
  refine Go.sipush at_15 (q := 18) rfl (x := (16383 : Int32)) (by decide) ?_
  refine Go.iand at_18 (q := 19) rfl ?_
  refine Go.istore at_19 (q := 21) rfl (Ls' := #[.val (.int a), .val (.int b), .val (.int c), .val (.long u), .second, .val (.long v), .second, .val (.int fl), .val (.int (a &&& (16383 : Int32))), .val (.int (b &&& (16383 : Int32))), .val (.int (c &&& (16383 : Int32))), .unset, .unset, .unset, .unset, .unset, .unset, .unset, .unset, .unset, .unset, .unset, .unset, .unset, .unset, .unset, .unset, .unset]) rfl ?_
  refine Go.iload at_21 (q := 23) rfl rfl ?_
  refine Go.iconst at_23 (q := 24) rfl (x := (3 : Int32)) (by decide) ?_
  refine Go.iand at_24 (q := 25) rfl ?_
  refine Go.istore at_25 (q := 27) rfl (Ls' := #[.val (.int a), .val (.int b), .val (.int c), .val (.long u), .second, .val (.long v), .second, .val (.int fl), .val (.int (a &&& (16383 : Int32))), .val (.int (b &&& (16383 : Int32))), .val (.int (c &&& (16383 : Int32))), .val (.int (fl &&& (3 : Int32))), .unset, .unset, .unset, .unset, .unset, .unset, .unset, .unset, .unset, .unset, .unset, .unset, .unset, .unset, .unset, .unset]) rfl ?_
  refine Go.iload at_27 (q := 29) rfl rfl ?_
  refine Go.iconst at_29 (q := 30) rfl (x := (4 : Int32)) (by decide) ?_
  refine Go.iand at_30 (q := 31) rfl ?_
  refine Go.if_eq at_31 (q := 39) (q' := 34) (by decide) rfl rfl (fun c234 => ?_) (fun c234 => ?_)
  · skip
    refine Go.iload at_39 (q := 41) rfl rfl ?_
    refine Go.istore at_41 (q := 43) rfl (Ls' := #[.val (.int a), .val (.int b), .val (.int c), .val (.long u), .second, .val (.long v), .second, .val (.int fl), .val (.int (a &&& (16383 : Int32))), .val (.int (b &&& (16383 : Int32))), .val (.int (c &&& (16383 : Int32))), .val (.int (fl &&& (3 : Int32))), .val (.int (c &&& (16383 : Int32))), .unset, .unset, .unset, .unset, .unset, .unset, .unset, .unset, .unset, .unset, .unset, .unset, .unset, .unset, .unset]) rfl ?_
    refine Go.iload at_43 (q := 45) rfl rfl ?_
    refine Go.bipush at_45 (q := 47) rfl (x := (8 : Int32)) (by decide) ?_
    refine Go.iand at_47 (q := 48) rfl ?_
    refine Go.if_eq at_48 (q := 56) (q' := 51) (by decide) rfl rfl (fun c235 => ?_) (fun c235 => ?_)
    · skip
      refine Go.iload at_56 (q := 58) rfl rfl ?_
      refine Go.istore at_58 (q := 60) rfl (Ls' := #[.val (.int a), .val (.int b), .val (.int c), .val (.long u), .second, .val (.long v), .second, .val (.int fl), .val (.int (a &&& (16383 : Int32))), .val (.int (b &&& (16383 : Int32))), .val (.int (c &&& (16383 : Int32))), .val (.int (fl &&& (3 : Int32))), .val (.int (c &&& (16383 : Int32))), .val (.int (c &&& (16383 : Int32))), .unset, .unset, .unset, .unset, .unset, .unset, .unset, .unset, .unset, .unset, .unset, .unset, .unset, .unset]) rfl ?_
      refine Go.iload at_60 (q := 62) rfl rfl ?_
      refine Go.bipush at_62 (q := 64) rfl (x := (16 : Int32)) (by decide) ?_
      refine Go.iand at_64 (q := 65) rfl ?_
      refine Go.if_eq at_65 (q := 73) (q' := 68) (by decide) rfl rfl (fun c236 => ?_) (fun c236 => ?_)
      · skip
        refine Go.iload at_73 (q := 75) rfl rfl ?_
        refine Go.istore at_75 (q := 77) rfl (Ls' := #[.val (.int a), .val (.int b), .val (.int c), .val (.long u), .second, .val (.long v), .second, .val (.int fl), .val (.int (a &&& (16383 : Int32))), .val (.int (b &&& (16383 : Int32))), .val (.int (c &&& (16383 : Int32))), .val (.int (fl &&& (3 : Int32))), .val (.int (c &&& (16383 : Int32))), .val (.int (c &&& (16383 : Int32))), .val (.int (b &&& (16383 : Int32))), .unset, .unset, .unset, .unset, .unset, .unset, .unset, .unset, .unset, .unset, .unset, .unset, .unset]) rfl ?_
        exact j77 l Z a0 hw n0 h O _ _ _ _ _ _ _ _ _ _ _ _ (rg_mask _) (rg_mask _) (rg_mask _) (rg_mask _) (rg_mask _) (rg_mask _)
      · skip
        refine Go.iload at_68 (q := 70) rfl rfl ?_
        refine Go.goto at_70 (q := 75) (by decide) rfl ?_
        refine Go.istore at_75 (q := 77) rfl (Ls' := #[.val (.int a), .val (.int b), .val (.int c), .val (.long u), .second, .val (.long v), .second, .val (.int fl), .val (.int (a &&& (16383 : Int32))), .val (.int (b &&& (16383 : Int32))), .val (.int (c &&& (16383 : Int32))), .val (.int (fl &&& (3 : Int32))), .val (.int (c &&& (16383 : Int32))), .val (.int (c &&& (16383 : Int32))), .val (.int (a &&& (16383 : Int32))), .unset, .unset, .unset, .unset, .unset, .unset, .unset, .unset, .unset, .unset, .unset, .unset, .unset]) rfl ?_
        exact j77 l Z a0 hw n0 h O _ _ _ _ _ _ _ _ _ _ _ _ (rg_mask _) (rg_mask _) (rg_mask _) (rg_mask _) (rg_mask _) (rg_mask _)
    · skip
      refine Go.iload at_51 (q := 53) rfl rfl ?_
      refine Go.goto at_53 (q := 58) (by decide) rfl ?_
      refine Go.istore at_58 (q := 60) rfl (Ls' := #[.val (.int a), .val (.int b), .val (.int c), .val (.long u), .second, .val (.long v), .second, .val (.int fl), .val (.int (a &&& (16383 : Int32))), .val (.int (b &&& (16383 : Int32))), .val (.int (c &&& (16383 : Int32))), .val (.int (fl &&& (3 : Int32))), .val (.int (c &&& (16383 : Int32))), .val (.int (b &&& (16383 : Int32))), .unset, .unset, .unset, .unset, .unset, .unset, .unset, .unset, .unset, .unset, .unset, .unset, .unset, .unset]) rfl ?_
      refine Go.iload at_60 (q := 62) rfl rfl ?_
      refine Go.bipush at_62 (q := 64) rfl (x := (16 : Int32)) (by decide) ?_
      refine Go.iand at_64 (q := 65) rfl ?_
      refine Go.if_eq at_65 (q := 73) (q' := 68) (by decide) rfl rfl (fun c237 => ?_) (fun c237 => ?_)
      · skip
        refine Go.iload at_73 (q := 75) rfl rfl ?_
        refine Go.istore at_75 (q := 77) rfl (Ls' := #[.val (.int a), .val (.int b), .val (.int c), .val (.long u), .second, .val (.long v), .second, .val (.int fl), .val (.int (a &&& (16383 : Int32))), .val (.int (b &&& (16383 : Int32))), .val (.int (c &&& (16383 : Int32))), .val (.int (fl &&& (3 : Int32))), .val (.int (c &&& (16383 : Int32))), .val (.int (b &&& (16383 : Int32))), .val (.int (b &&& (16383 : Int32))), .unset, .unset, .unset, .unset, .unset, .unset, .unset, .unset, .unset, .unset, .unset, .unset, .unset]) rfl ?_
        exact j77 l Z a0 hw n0 h O _ _ _ _ _ _ _ _ _ _ _ _ (rg_mask _) (rg_mask _) (rg_mask _) (rg_mask _) (rg_mask _) (rg_mask _)
      · skip
        refine Go.iload at_68 (q := 70) rfl rfl ?_
        refine Go.goto at_70 (q := 75) (by decide) rfl ?_
        refine Go.istore at_75 (q := 77) rfl (Ls' := #[.val (.int a), .val (.int b), .val (.int c), .val (.long u), .second, .val (.long v), .second, .val (.int fl), .val (.int (a &&& (16383 : Int32))), .val (.int (b &&& (16383 : Int32))), .val (.int (c &&& (16383 : Int32))), .val (.int (fl &&& (3 : Int32))), .val (.int (c &&& (16383 : Int32))), .val (.int (b &&& (16383 : Int32))), .val (.int (a &&& (16383 : Int32))), .unset, .unset, .unset, .unset, .unset, .unset, .unset, .unset, .unset, .unset, .unset, .unset, .unset]) rfl ?_
        exact j77 l Z a0 hw n0 h O _ _ _ _ _ _ _ _ _ _ _ _ (rg_mask _) (rg_mask _) (rg_mask _) (rg_mask _) (rg_mask _) (rg_mask _)
  · skip
    refine Go.iload at_34 (q := 36) rfl rfl ?_
    refine Go.goto at_36 (q := 41) (by decide) rfl ?_
    refine Go.istore at_41 (q := 43) rfl (Ls' := #[.val (.int a), .val (.int b), .val (.int c), .val (.long u), .second, .val (.long v), .second, .val (.int fl), .val (.int (a &&& (16383 : Int32))), .val (.int (b &&& (16383 : Int32))), .val (.int (c &&& (16383 : Int32))), .val (.int (fl &&& (3 : Int32))), .val (.int (a &&& (16383 : Int32))), .unset, .unset, .unset, .unset, .unset, .unset, .unset, .unset, .unset, .unset, .unset, .unset, .unset, .unset, .unset]) rfl ?_
    refine Go.iload at_43 (q := 45) rfl rfl ?_
    refine Go.bipush at_45 (q := 47) rfl (x := (8 : Int32)) (by decide) ?_
    refine Go.iand at_47 (q := 48) rfl ?_
    refine Go.if_eq at_48 (q := 56) (q' := 51) (by decide) rfl rfl (fun c238 => ?_) (fun c238 => ?_)
    · skip
      refine Go.iload at_56 (q := 58) rfl rfl ?_
      refine Go.istore at_58 (q := 60) rfl (Ls' := #[.val (.int a), .val (.int b), .val (.int c), .val (.long u), .second, .val (.long v), .second, .val (.int fl), .val (.int (a &&& (16383 : Int32))), .val (.int (b &&& (16383 : Int32))), .val (.int (c &&& (16383 : Int32))), .val (.int (fl &&& (3 : Int32))), .val (.int (a &&& (16383 : Int32))), .val (.int (c &&& (16383 : Int32))), .unset, .unset, .unset, .unset, .unset, .unset, .unset, .unset, .unset, .unset, .unset, .unset, .unset, .unset]) rfl ?_
      refine Go.iload at_60 (q := 62) rfl rfl ?_
      refine Go.bipush at_62 (q := 64) rfl (x := (16 : Int32)) (by decide) ?_
      refine Go.iand at_64 (q := 65) rfl ?_
      refine Go.if_eq at_65 (q := 73) (q' := 68) (by decide) rfl rfl (fun c239 => ?_) (fun c239 => ?_)
      · skip
        refine Go.iload at_73 (q := 75) rfl rfl ?_
        refine Go.istore at_75 (q := 77) rfl (Ls' := #[.val (.int a), .val (.int b), .val (.int c), .val (.long u), .second, .val (.long v), .second, .val (.int fl), .val (.int (a &&& (16383 : Int32))), .val (.int (b &&& (16383 : Int32))), .val (.int (c &&& (16383 : Int32))), .val (.int (fl &&& (3 : Int32))), .val (.int (a &&& (16383 : Int32))), .val (.int (c &&& (16383 : Int32))), .val (.int (b &&& (16383 : Int32))), .unset, .unset, .unset, .unset, .unset, .unset, .unset, .unset, .unset, .unset, .unset, .unset, .unset]) rfl ?_
        exact j77 l Z a0 hw n0 h O _ _ _ _ _ _ _ _ _ _ _ _ (rg_mask _) (rg_mask _) (rg_mask _) (rg_mask _) (rg_mask _) (rg_mask _)
      · skip
        refine Go.iload at_68 (q := 70) rfl rfl ?_
        refine Go.goto at_70 (q := 75) (by decide) rfl ?_
        refine Go.istore at_75 (q := 77) rfl (Ls' := #[.val (.int a), .val (.int b), .val (.int c), .val (.long u), .second, .val (.long v), .second, .val (.int fl), .val (.int (a &&& (16383 : Int32))), .val (.int (b &&& (16383 : Int32))), .val (.int (c &&& (16383 : Int32))), .val (.int (fl &&& (3 : Int32))), .val (.int (a &&& (16383 : Int32))), .val (.int (c &&& (16383 : Int32))), .val (.int (a &&& (16383 : Int32))), .unset, .unset, .unset, .unset, .unset, .unset, .unset, .unset, .unset, .unset, .unset, .unset, .unset]) rfl ?_
        exact j77 l Z a0 hw n0 h O _ _ _ _ _ _ _ _ _ _ _ _ (rg_mask _) (rg_mask _) (rg_mask _) (rg_mask _) (rg_mask _) (rg_mask _)
    · skip
      refine Go.iload at_51 (q := 53) rfl rfl ?_
      refine Go.goto at_53 (q := 58) (by decide) rfl ?_
      refine Go.istore at_58 (q := 60) rfl (Ls' := #[.val (.int a), .val (.int b), .val (.int c), .val (.long u), .second, .val (.long v), .second, .val (.int fl), .val (.int (a &&& (16383 : Int32))), .val (.int (b &&& (16383 : Int32))), .val (.int (c &&& (16383 : Int32))), .val (.int (fl &&& (3 : Int32))), .val (.int (a &&& (16383 : Int32))), .val (.int (b &&& (16383 : Int32))), .unset, .unset, .unset, .unset, .unset, .unset, .unset, .unset, .unset, .unset, .unset, .unset, .unset, .unset]) rfl ?_
      refine Go.iload at_60 (q := 62) rfl rfl ?_
      refine Go.bipush at_62 (q := 64) rfl (x := (16 : Int32)) (by decide) ?_
      refine Go.iand at_64 (q := 65) rfl ?_
      refine Go.if_eq at_65 (q := 73) (q' := 68) (by decide) rfl rfl (fun c240 => ?_) (fun c240 => ?_)
      · skip
        refine Go.iload at_73 (q := 75) rfl rfl ?_
        refine Go.istore at_75 (q := 77) rfl (Ls' := #[.val (.int a), .val (.int b), .val (.int c), .val (.long u), .second, .val (.long v), .second, .val (.int fl), .val (.int (a &&& (16383 : Int32))), .val (.int (b &&& (16383 : Int32))), .val (.int (c &&& (16383 : Int32))), .val (.int (fl &&& (3 : Int32))), .val (.int (a &&& (16383 : Int32))), .val (.int (b &&& (16383 : Int32))), .val (.int (b &&& (16383 : Int32))), .unset, .unset, .unset, .unset, .unset, .unset, .unset, .unset, .unset, .unset, .unset, .unset, .unset]) rfl ?_
        exact j77 l Z a0 hw n0 h O _ _ _ _ _ _ _ _ _ _ _ _ (rg_mask _) (rg_mask _) (rg_mask _) (rg_mask _) (rg_mask _) (rg_mask _)
      · skip
        refine Go.iload at_68 (q := 70) rfl rfl ?_
        refine Go.goto at_70 (q := 75) (by decide) rfl ?_
        refine Go.istore at_75 (q := 77) rfl (Ls' := #[.val (.int a), .val (.int b), .val (.int c), .val (.long u), .second, .val (.long v), .second, .val (.int fl), .val (.int (a &&& (16383 : Int32))), .val (.int (b &&& (16383 : Int32))), .val (.int (c &&& (16383 : Int32))), .val (.int (fl &&& (3 : Int32))), .val (.int (a &&& (16383 : Int32))), .val (.int (b &&& (16383 : Int32))), .val (.int (a &&& (16383 : Int32))), .unset, .unset, .unset, .unset, .unset, .unset, .unset, .unset, .unset, .unset, .unset, .unset, .unset]) rfl ?_
        exact j77 l Z a0 hw n0 h O _ _ _ _ _ _ _ _ _ _ _ _ (rg_mask _) (rg_mask _) (rg_mask _) (rg_mask _) (rg_mask _) (rg_mask _)
set_option maxRecDepth 65536 in
set_option maxHeartbeats 40000000 in
theorem comes_1 {Post : Tables → Env → Array Value → State → Outcome → State → Prop} (hpost : ∀ tb e args s v u, (limb_1_1.after args s (.returned v) u = true ∧ limb_1_2.after args s (.returned v) u = true ∧ True) → FrameEnd s (.returned v) u (Jvm.fieldLocs frame_1_writes args s ++ Jvm.arrayLocs frame_1_arrays args s ++ Jvm.staticLocs frame_1_statics s) 24 1792 → Post tb e args s (.returned v) u) :
    ArmFor flags0 classFile x code maxLocals ret World_1 tables_1 room_1 Calls_1 rest_1 Pre_1 Post := by
  intro l hfl _ _ p e ha hc hk s m args below hf hA hF happ hP
  obtain ⟨hcalls, hrest, hpre⟩ := hP
  obtain ⟨-, -, -, hnamed, -, -, -, hat⟩ := (Spec.applies_iff hf).mp happ
  obtain ⟨hg, hn⟩ := and_e (Jvm.Cond.before_iff.mp (show (Jvm.Cond.and given_1 narrow_1).before args s = true from hpre))
  obtain ⟨g0, hg⟩ := and_e hg
  obtain ⟨g1, hg⟩ := and_e hg
  obtain ⟨g2, hg⟩ := and_e hg
  obtain ⟨g3, hg⟩ := and_e hg
  obtain ⟨g4, hg⟩ := and_e hg
  obtain ⟨g5, hg⟩ := and_e hg
  have g6 := hg
  obtain ⟨v0, v1, v2, v3, v4, v5, rfl⟩ : ∃ v0 v1 v2 v3 v4 v5 : Value, args = #[v0, v1, v2, v3, v4, v5] := by
    have hs : args.size = 6 := by simpa [Jvm.Cond.value, given_1] using g0
    obtain ⟨L⟩ := args
    match L, hs with
    | [v0, v1, v2, v3, v4, v5], _ => exact ⟨v0, v1, v2, v3, v4, v5, rfl⟩
  have hw : Hw _ s := fun d (hd : d ∈ tables_1) => atoms_spec (ws := Jvm.Cond.code x code maxLocals ret :: tables_1) hat d (List.mem_cons_of_mem _ hd)
  have hfit : Fit s := fun {y c} hc i hi => by
    obtain ⟨ha, rfl⟩ := Array.getElem?_eq_some_iff.mp hc
    have q := List.all_eq_true.mp ((Array.all_eq_true_iff_forall_mem.mp hF) _ (Array.getElem_mem ha)) i (List.mem_range.mpr hi)
    simpa [Array.getElem?_eq_getElem hi] using q
  obtain ⟨x0, e0⟩ := is_v g1
  obtain rfl : v0 = (.int x0) := Option.some.inj e0
  obtain ⟨x1, e1⟩ := is_v g2
  obtain rfl : v1 = (.int x1) := Option.some.inj e1
  obtain ⟨x2, e2⟩ := is_v g3
  obtain rfl : v2 = (.int x2) := Option.some.inj e2
  obtain ⟨x3, e3⟩ := isL_v g4
  obtain rfl : v3 = (.long x3) := Option.some.inj e3
  obtain ⟨x4, e4⟩ := isL_v g5
  obtain rfl : v4 = (.long x4) := Option.some.inj e4
  obtain ⟨x5, e5⟩ := is_v g6
  obtain rfl : v5 = (.int x5) := Option.some.inj e5
  have G := b0 l s _ hw s.heap.size s.heap (Old.start s) x0 x1 x2 x3 x4 x5 
  obtain ⟨n, o, h1, h2, h3, _, L, rfl, ⟨N, rfl⟩, hq⟩ := (G.met pn0 (fun m => by simp [entryFrame, mkF, argsToLocals, Value.category, maxLocals]) tables_1) p e ha hc hk s m _ below hf ((Spec.applies_iff_loose hf).mp happ).1 ⟨rfl, State.Warmed39.refl s, rfl⟩ trivial
  refine ⟨n, _, h1, h2, h3, hpost _ _ _ _ _ _ ⟨Jvm.Cond.after_iff.mpr rfl, Jvm.Cond.after_iff.mpr (eq_i res_at (Term.int_eval (1)) rfl), trivial⟩ ⟨hq.1, hq.2.1, (hq.2.2.sift fun y hy => Or.inr (N y hy)).mono (by decide) (by decide)⟩⟩
theorem main_1_1 : Claimed_1_1 := comes_1 fun _ _ _ _ _ _ h hF => ⟨h.1, hF⟩
theorem main_1_2 : Claimed_1_2 := comes_1 fun _ _ _ _ _ _ h hF => ⟨h.2.1, hF⟩
end Jvm.Pilot.@@N@@
namespace Jvm.Pilot.@@N@@
open Jvm Jvm.ClassFile Sem Op Lib Jvm.Free Jvm.Stand Jvm.Pilot.@@N@@.Jvm.D
/-! MADE BY PROGRAM (witnessworld.py) out of the Statement's table words and the real class files: 18 classes; the members and pool entries that the words name. The judged class is class 1, her method 1. -/
namespace start1
open Jvm.ClassFile
def u (s : String) : CpInfo := .utf8 (stringToUtf16 s)
/-- a pool by its gaps: so many unusable entries, then the entry; so many at the end -/
def gap : Nat → List CpInfo → List CpInfo
  | 0, r => r
  | n + 1, r => .unusable :: gap n r
def poolList (es : List (Nat × CpInfo)) (last : Nat) : List CpInfo := es.foldr (fun e r => gap e.1 (e.2 :: r)) (gap last [])
def pool (es : List (Nat × CpInfo)) (last : Nat) : Array CpInfo := ⟨poolList es last⟩
def fileOf (pool : Array CpInfo) (this : Nat) (attrs : Array Attribute := #[]) (ms : Array MethodInfo := #[]) (fl : Nat := 33) (sup : Nat := 0) (ifs : Array Nat := #[]) (fds : Array FieldInfo := #[]) : ClassFile where
  minorVersion := 0
  majorVersion := 65
  constantPool := pool
  accessFlags := fl
  thisClass := this
  superClass := sup
  interfaces := ifs
  fields := fds
  methods := ms
  attributes := attrs
def plain (name : String) (sup : Option ClassId) : Class where
  name := name
  kind := .ordinary
  loader := none
  accessFlags := 33
  super := sup
  interfaces := #[]
  cf := none
  fields := #[]
  methods := #[]
  instanceTypes := #[]
  staticTypes := #[]
  resolved := #[]
  callSites := []
  init := .initialized
  statics := none
  mirror := none

def pool0 : Array CpInfo := pool [(5, u "<init>"), (0, u "()V"), (1, .class_ 10), (1, u "java/lang/Object")] 113

def k0c0 : Code := { maxStack := 0, maxLocals := 1, code := object_method_1_code, exceptionTable := #[], attributes := #[] }
def k0m0 : Method := { name := "<init>", desc := "()V", sig := { parameters := [], returnType := none }, accessFlags := 1, code := some k0c0 }
/-- java/lang/Object -/
def k0 : Class := { plain "java/lang/Object" none with
  accessFlags := 33
  interfaces := #[]
  cf := some (fileOf pool0 8 #[] #[{ accessFlags := 1, nameIndex := 5, descriptorIndex := 6, attributes := #[] }] 33 0 #[] #[])
  fields := #[]
  methods := #[k0m0]
  instanceTypes := #[]
  staticTypes := #[]
  resolved := Array.replicate 124 none
  statics := none }

def pool1 : Array CpInfo := pool [(2, .class_ 4), (0, .nameAndType 5 6), (0, u "java/lang/Object"), (0, u "<init>"), (0, u "()V"), (0, .class_ 8), (0, u "slotwise/storage/SlotKeyCounts"), (0, .methodref 7 3), (0, .methodref 7 11), (0, .nameAndType 12 13), (0, u "add"), (0, u "(IJ)V"), (0, .methodref 7 15), (0, .nameAndType 16 17), (0, u "clear"), (0, u "([I)V"), (0, .methodref 19 20), (0, .class_ 21), (0, .nameAndType 22 23), (0, u "slotwise/storage/SlotKeyCountsClearPinLaw"), (0, u "after"), (0, u "(IIIJJIIII)J"), (0, .methodref 7 25), (0, .nameAndType 26 27), (0, u "of"), (0, u "(I)J"), (0, .methodref 7 29), (0, .nameAndType 30 31), (0, u "total"), (0, u "()J"), (0, .methodref 7 33), (0, .nameAndType 34 35), (0, u "takeChanged"), (0, u "()[I"), (0, .methodref 37 38), (0, .class_ 39), (0, .nameAndType 40 41), (0, u "java/lang/Math"), (0, u "min"), (0, u "(II)I"), (0, .methodref 37 43), (0, .nameAndType 44 41), (0, u "max"), (0, .methodref 19 46), (0, .nameAndType 47 48), (0, u "cleared"), (0, u "(IIIII)Z"), (2, u "law"), (0, u "(IIIJJI)Z")] 5

def k1m0 : Method := { name := "<init>", desc := "()V", sig := { parameters := [], returnType := none }, accessFlags := 1, code := none }
def k1c1 : Code := { maxStack := 11, maxLocals := 28, code := code, exceptionTable := #[], attributes := #[] }
def k1m1 : Method := { name := "law", desc := "(IIIJJI)Z", sig := { parameters := [.int, .int, .int, .long, .long, .int], returnType := some .boolean }, accessFlags := 9, code := some k1c1 }
def k1c2 : Code := { maxStack := 2, maxLocals := 5, code := method_3_code, exceptionTable := #[], attributes := #[] }
def k1m2 : Method := { name := "cleared", desc := "(IIIII)Z", sig := { parameters := [.int, .int, .int, .int, .int], returnType := some .boolean }, accessFlags := 10, code := some k1c2 }
def k1c3 : Code := { maxStack := 5, maxLocals := 13, code := method_4_code, exceptionTable := #[], attributes := #[] }
def k1m3 : Method := { name := "after", desc := "(IIIJJIIII)J", sig := { parameters := [.int, .int, .int, .long, .long, .int, .int, .int, .int], returnType := some .long }, accessFlags := 10, code := some k1c3 }
/-- slotwise/storage/SlotKeyCountsClearPinLaw -/
def k1 : Class := { plain "slotwise/storage/SlotKeyCountsClearPinLaw" (some 0) with
  accessFlags := 49
  interfaces := #[]
  cf := some (fileOf pool1 19 #[] #[{ accessFlags := 1, nameIndex := 5, descriptorIndex := 6, attributes := #[] }, { accessFlags := 9, nameIndex := 51, descriptorIndex := 52, attributes := #[] }, { accessFlags := 10, nameIndex := 47, descriptorIndex := 48, attributes := #[] }, { accessFlags := 10, nameIndex := 22, descriptorIndex := 23, attributes := #[] }] 49 2 #[] #[])
  fields := #[]
  methods := #[k1m0, k1m1, k1m2, k1m3]
  instanceTypes := #[]
  staticTypes := #[]
  resolved := Array.replicate 58 none
  statics := none }

def pool2 : Array CpInfo := pool [(1, .methodref 2 3), (0, .class_ 4), (0, .nameAndType 5 6), (0, u "java/lang/Object"), (0, u "<init>"), (0, u "()V"), (2, .class_ 10), (0, u "slotwise/storage/SlotKeyCounts"), (0, .class_ 12), (0, u "[J"), (0, .fieldref 9 14), (0, .nameAndType 15 16), (0, u "pages"), (0, u "[[J"), (0, .class_ 18), (0, u "java/lang/Long"), (0, .fieldref 9 20), (0, .nameAndType 21 12), (0, u "changed"), (0, .fieldref 9 23), (0, .nameAndType 24 25), (0, u "total"), (0, u "J"), (0, .fieldref 9 27), (0, .nameAndType 28 29), (0, u "changes"), (0, u "I"), (0, .methodref 17 31), (0, .nameAndType 32 33), (0, u "numberOfTrailingZeros"), (0, u "(J)I"), (8, u "of"), (0, u "(I)J"), (45, u "add"), (0, u "(IJ)V"), (16, u "PAGE_SLOTS"), (2, u "MOST_WRITTEN_BYTES"), (1, u "LOW_BITS"), (0, u "MORE"), (4, u "()J"), (0, u "takeChanged"), (0, u "()[I"), (8, u "clear"), (0, u "([I)V")] 17

def k2c0 : Code := { maxStack := 2, maxLocals := 1, code := prog_30_method_1_code, exceptionTable := #[], attributes := #[] }
def k2m0 : Method := { name := "<init>", desc := "()V", sig := { parameters := [], returnType := none }, accessFlags := 0, code := some k2c0 }
def k2c1 : Code := { maxStack := 3, maxLocals := 3, code := prog_30_method_2_code, exceptionTable := #[], attributes := #[] }
def k2m1 : Method := { name := "of", desc := "(I)J", sig := { parameters := [.int], returnType := some .long }, accessFlags := 0, code := some k2c1 }
def k2c2 : Code := { maxStack := 2, maxLocals := 1, code := prog_30_method_3_code, exceptionTable := #[], attributes := #[] }
def k2m2 : Method := { name := "total", desc := "()J", sig := { parameters := [], returnType := some .long }, accessFlags := 0, code := some k2c2 }
def k2c3 : Code := { maxStack := 6, maxLocals := 7, code := prog_30_method_4_code, exceptionTable := #[], attributes := #[] }
def k2m3 : Method := { name := "add", desc := "(IJ)V", sig := { parameters := [.int, .long], returnType := none }, accessFlags := 0, code := some k2c3 }
def k2c4 : Code := { maxStack := 6, maxLocals := 6, code := prog_30_method_5_code, exceptionTable := #[], attributes := #[] }
def k2m4 : Method := { name := "takeChanged", desc := "()[I", sig := { parameters := [], returnType := some (.array .int) }, accessFlags := 0, code := some k2c4 }
def k2c5 : Code := { maxStack := 6, maxLocals := 7, code := prog_30_method_10_code, exceptionTable := #[], attributes := #[] }
def k2m5 : Method := { name := "clear", desc := "([I)V", sig := { parameters := [(.array .int)], returnType := none }, accessFlags := 0, code := some k2c5 }
/-- slotwise/storage/SlotKeyCounts -/
def k2 : Class := { plain "slotwise/storage/SlotKeyCounts" (some 0) with
  accessFlags := 48
  interfaces := #[]
  cf := some (fileOf pool2 9 #[] #[{ accessFlags := 0, nameIndex := 5, descriptorIndex := 6, attributes := #[] }, { accessFlags := 0, nameIndex := 42, descriptorIndex := 43, attributes := #[] }, { accessFlags := 0, nameIndex := 24, descriptorIndex := 118, attributes := #[] }, { accessFlags := 0, nameIndex := 89, descriptorIndex := 90, attributes := #[] }, { accessFlags := 0, nameIndex := 119, descriptorIndex := 120, attributes := #[] }, { accessFlags := 0, nameIndex := 129, descriptorIndex := 130, attributes := #[] }] 48 2 #[] #[{ accessFlags := 26, nameIndex := 107, descriptorIndex := 29, attributes := #[] }, { accessFlags := 26, nameIndex := 110, descriptorIndex := 29, attributes := #[] }, { accessFlags := 26, nameIndex := 112, descriptorIndex := 25, attributes := #[] }, { accessFlags := 26, nameIndex := 113, descriptorIndex := 29, attributes := #[] }, { accessFlags := 18, nameIndex := 15, descriptorIndex := 16, attributes := #[] }, { accessFlags := 18, nameIndex := 21, descriptorIndex := 12, attributes := #[] }, { accessFlags := 2, nameIndex := 28, descriptorIndex := 29, attributes := #[] }, { accessFlags := 2, nameIndex := 24, descriptorIndex := 25, attributes := #[] }])
  fields := #[{ name := "PAGE_SLOTS", type := .int, accessFlags := 26, slot := 0, constantValue := 0 }, { name := "MOST_WRITTEN_BYTES", type := .int, accessFlags := 26, slot := 1, constantValue := 0 }, { name := "LOW_BITS", type := .long, accessFlags := 26, slot := 2, constantValue := 0 }, { name := "MORE", type := .int, accessFlags := 26, slot := 3, constantValue := 0 }, { name := "pages", type := (.array (.array .long)), accessFlags := 18, slot := 0, constantValue := 0 }, { name := "changed", type := (.array .long), accessFlags := 18, slot := 1, constantValue := 0 }, { name := "changes", type := .int, accessFlags := 2, slot := 2, constantValue := 0 }, { name := "total", type := .long, accessFlags := 2, slot := 3, constantValue := 0 }]
  methods := #[k2m0, k2m1, k2m2, k2m3, k2m4, k2m5]
  instanceTypes := #[(.array (.array .long)), (.array .long), .int, .long]
  staticTypes := #[.int, .int, .long, .int]
  resolved := Array.replicate 148 none
  statics := none }

def pool3 : Array CpInfo := pool [(1, .class_ 2), (0, u "java/io/Serializable"), (0, .class_ 4), (0, u "java/lang/Object")] 2

/-- java/io/Serializable -/
def k3 : Class := { plain "java/io/Serializable" (some 0) with
  accessFlags := 1537
  interfaces := #[]
  cf := some (fileOf pool3 1 #[] #[] 1537 3 #[] #[])
  fields := #[]
  methods := #[]
  instanceTypes := #[]
  staticTypes := #[]
  resolved := Array.replicate 7 none
  statics := none }

def pool4 : Array CpInfo := pool [(2, .class_ 4), (1, u "java/lang/Object"), (0, u "<init>"), (0, u "()V"), (1, .class_ 10), (1, u "java/lang/Number"), (2, .class_ 14), (0, u "java/io/Serializable"), (0, u "serialVersionUID"), (0, u "J")] 20

def k4m0 : Method := { name := "<init>", desc := "()V", sig := { parameters := [], returnType := none }, accessFlags := 1, code := none }
/-- java/lang/Number -/
def k4 : Class := { plain "java/lang/Number" (some 0) with
  accessFlags := 1057
  interfaces := #[3]
  cf := some (fileOf pool4 8 #[] #[{ accessFlags := 1, nameIndex := 5, descriptorIndex := 6, attributes := #[] }] 1057 2 #[13] #[{ accessFlags := 26, nameIndex := 15, descriptorIndex := 16, attributes := #[] }])
  fields := #[{ name := "serialVersionUID", type := .long, accessFlags := 26, slot := 0, constantValue := 0 }]
  methods := #[k4m0]
  instanceTypes := #[]
  staticTypes := #[.long]
  resolved := Array.replicate 37 none
  statics := none }

def pool5 : Array CpInfo := pool [(1, .class_ 2), (0, u "java/lang/Comparable"), (0, .class_ 4), (0, u "java/lang/Object")] 7

/-- java/lang/Comparable -/
def k5 : Class := { plain "java/lang/Comparable" (some 0) with
  accessFlags := 1537
  interfaces := #[]
  cf := some (fileOf pool5 1 #[] #[] 1537 3 #[] #[])
  fields := #[]
  methods := #[]
  instanceTypes := #[]
  staticTypes := #[]
  resolved := Array.replicate 12 none
  statics := none }

def pool6 : Array CpInfo := pool [(1, .class_ 2), (0, u "java/lang/constant/Constable"), (0, .class_ 4), (0, u "java/lang/Object")] 6

/-- java/lang/constant/Constable -/
def k6 : Class := { plain "java/lang/constant/Constable" (some 0) with
  accessFlags := 1537
  interfaces := #[]
  cf := some (fileOf pool6 1 #[] #[] 1537 3 #[] #[])
  fields := #[]
  methods := #[]
  instanceTypes := #[]
  staticTypes := #[]
  resolved := Array.replicate 11 none
  statics := none }

def pool7 : Array CpInfo := pool [(1, .class_ 2), (0, u "java/lang/constant/ConstantDesc"), (0, .class_ 4), (0, u "java/lang/Object")] 32

/-- java/lang/constant/ConstantDesc -/
def k7 : Class := { plain "java/lang/constant/ConstantDesc" (some 0) with
  accessFlags := 1537
  interfaces := #[]
  cf := some (fileOf pool7 1 #[] #[] 1537 3 #[] #[])
  fields := #[]
  methods := #[]
  instanceTypes := #[]
  staticTypes := #[]
  resolved := Array.replicate 37 none
  statics := none }

def pool8 : Array CpInfo := pool [(1, .class_ 2), (0, u "java/lang/Long"), (15, .class_ 20), (1, u "java/lang/Integer"), (80, u "(J)I"), (133, .class_ 237), (1, u "java/lang/Long$LongCache"), (33, .class_ 272), (0, u "java/lang/Number"), (2, u "value"), (0, u "J"), (33, u "(I)I"), (0, .methodref 18 312), (0, .nameAndType 313 310), (0, u "numberOfTrailingZeros"), (47, u "TYPE"), (0, u "Ljava/lang/Class;"), (0, .class_ 364), (0, u "java/lang/Comparable"), (0, .class_ 366), (0, u "java/lang/constant/Constable"), (0, .class_ 368), (0, u "java/lang/constant/ConstantDesc"), (0, u "MIN_VALUE"), (1, u "MAX_VALUE"), (4, u "SIZE"), (0, u "I"), (1, u "BYTES"), (1, u "serialVersionUID")] 142

def k8c0 : Code := { maxStack := 4, maxLocals := 3, code := jdk_35_method_49_code, exceptionTable := #[], attributes := #[] }
def k8m0 : Method := { name := "numberOfTrailingZeros", desc := "(J)I", sig := { parameters := [.long], returnType := some .int }, accessFlags := 9, code := some k8c0 }
/-- java/lang/Long -/
def k8 : Class := { plain "java/lang/Long" (some 4) with
  accessFlags := 49
  interfaces := #[5, 6, 7]
  cf := some (fileOf pool8 1 #[.nestMembers #[235]] #[{ accessFlags := 9, nameIndex := 313, descriptorIndex := 101, attributes := #[] }] 49 271 #[363, 365, 367] #[{ accessFlags := 25, nameIndex := 369, descriptorIndex := 276, attributes := #[] }, { accessFlags := 25, nameIndex := 371, descriptorIndex := 276, attributes := #[] }, { accessFlags := 25, nameIndex := 361, descriptorIndex := 362, attributes := #[] }, { accessFlags := 18, nameIndex := 275, descriptorIndex := 276, attributes := #[] }, { accessFlags := 25, nameIndex := 376, descriptorIndex := 377, attributes := #[] }, { accessFlags := 25, nameIndex := 379, descriptorIndex := 377, attributes := #[] }, { accessFlags := 26, nameIndex := 381, descriptorIndex := 276, attributes := #[] }])
  fields := #[{ name := "MIN_VALUE", type := .long, accessFlags := 25, slot := 0, constantValue := 0 }, { name := "MAX_VALUE", type := .long, accessFlags := 25, slot := 1, constantValue := 0 }, { name := "TYPE", type := (.object "java/lang/Class"), accessFlags := 25, slot := 2, constantValue := 0 }, { name := "value", type := .long, accessFlags := 18, slot := 0, constantValue := 0 }, { name := "SIZE", type := .int, accessFlags := 25, slot := 3, constantValue := 0 }, { name := "BYTES", type := .int, accessFlags := 25, slot := 4, constantValue := 0 }, { name := "serialVersionUID", type := .long, accessFlags := 26, slot := 5, constantValue := 0 }]
  methods := #[k8m0]
  instanceTypes := #[.long]
  staticTypes := #[.long, .long, (.object "java/lang/Class"), .int, .int, .long]
  resolved := Array.replicate 524 none
  statics := none }

def pool9 : Array CpInfo := pool [(1, .class_ 2), (0, u "java/lang/Integer"), (16, u "digits"), (0, u "[C"), (33, u "(I)I"), (30, u "DigitOnes"), (0, u "[B"), (2, u "DigitTens"), (99, .class_ 190), (0, u "java/lang/Integer$IntegerCache"), (3, u "I"), (8, .class_ 204), (0, u "java/lang/Number"), (2, u "value"), (56, .integer 65536), (37, u "TYPE"), (0, u "Ljava/lang/Class;"), (0, .class_ 305), (0, u "java/lang/Comparable"), (0, .class_ 307), (0, u "java/lang/constant/Constable"), (0, .class_ 309), (0, u "java/lang/constant/ConstantDesc"), (0, u "MIN_VALUE"), (1, u "MAX_VALUE"), (3, u "SIZE"), (1, u "BYTES"), (1, u "serialVersionUID"), (0, u "J"), (84, u "numberOfTrailingZeros")] 46

def k9c0 : Code := { maxStack := 3, maxLocals := 2, code := jdk_33_method_48_code, exceptionTable := #[], attributes := #[] }
def k9m0 : Method := { name := "numberOfTrailingZeros", desc := "(I)I", sig := { parameters := [.int], returnType := some .int }, accessFlags := 9, code := some k9c0 }
/-- java/lang/Integer -/
def k9 : Class := { plain "java/lang/Integer" (some 4) with
  accessFlags := 49
  interfaces := #[5, 6, 7]
  cf := some (fileOf pool9 1 #[.nestMembers #[189]] #[{ accessFlags := 9, nameIndex := 406, descriptorIndex := 54, attributes := #[] }] 49 203 #[304, 306, 308] #[{ accessFlags := 25, nameIndex := 310, descriptorIndex := 194, attributes := #[] }, { accessFlags := 25, nameIndex := 312, descriptorIndex := 194, attributes := #[] }, { accessFlags := 25, nameIndex := 302, descriptorIndex := 303, attributes := #[] }, { accessFlags := 24, nameIndex := 19, descriptorIndex := 20, attributes := #[] }, { accessFlags := 24, nameIndex := 89, descriptorIndex := 86, attributes := #[] }, { accessFlags := 24, nameIndex := 85, descriptorIndex := 86, attributes := #[] }, { accessFlags := 18, nameIndex := 207, descriptorIndex := 194, attributes := #[] }, { accessFlags := 25, nameIndex := 316, descriptorIndex := 194, attributes := #[] }, { accessFlags := 25, nameIndex := 318, descriptorIndex := 194, attributes := #[] }, { accessFlags := 26, nameIndex := 320, descriptorIndex := 321, attributes := #[] }])
  fields := #[{ name := "MIN_VALUE", type := .int, accessFlags := 25, slot := 0, constantValue := 0 }, { name := "MAX_VALUE", type := .int, accessFlags := 25, slot := 1, constantValue := 0 }, { name := "TYPE", type := (.object "java/lang/Class"), accessFlags := 25, slot := 2, constantValue := 0 }, { name := "digits", type := (.array .char), accessFlags := 24, slot := 3, constantValue := 0 }, { name := "DigitTens", type := (.array .byte), accessFlags := 24, slot := 4, constantValue := 0 }, { name := "DigitOnes", type := (.array .byte), accessFlags := 24, slot := 5, constantValue := 0 }, { name := "value", type := .int, accessFlags := 18, slot := 0, constantValue := 0 }, { name := "SIZE", type := .int, accessFlags := 25, slot := 6, constantValue := 0 }, { name := "BYTES", type := .int, accessFlags := 25, slot := 7, constantValue := 0 }, { name := "serialVersionUID", type := .long, accessFlags := 26, slot := 8, constantValue := 0 }]
  methods := #[k9m0]
  instanceTypes := #[.int]
  staticTypes := #[.int, .int, (.object "java/lang/Class"), (.array .char), (.array .byte), (.array .byte), .int, .int, .long]
  resolved := Array.replicate 453 none
  statics := none }

def pool10 : Array CpInfo := pool [(1, .class_ 2), (0, u "java/lang/Math"), (1, .class_ 6), (1, u "java/lang/Object"), (0, u "<init>"), (0, u "()V"), (89, .class_ 100), (1, u "java/lang/Math$RandomNumberGeneratorHolder"), (71, u "negativeZeroFloatBits"), (0, u "J"), (2, u "negativeZeroDoubleBits"), (21, u "max"), (2, u "min"), (43, u "$assertionsDisabled"), (0, u "Z"), (88, u "(II)I"), (2, u "twoToTheDoubleScaleDown"), (0, u "D"), (4, u "twoToTheDoubleScaleUp"), (9, u "E"), (3, u "PI"), (2, u "TAU"), (2, u "DEGREES_TO_RADIANS"), (0, u "RADIANS_TO_DEGREES")] 94

def k10m0 : Method := { name := "<init>", desc := "()V", sig := { parameters := [], returnType := none }, accessFlags := 2, code := none }
def k10c1 : Code := { maxStack := 2, maxLocals := 2, code := jdk_29_method_65_code, exceptionTable := #[], attributes := #[] }
def k10m1 : Method := { name := "max", desc := "(II)I", sig := { parameters := [.int, .int], returnType := some .int }, accessFlags := 9, code := some k10c1 }
def k10c2 : Code := { maxStack := 2, maxLocals := 2, code := jdk_29_method_69_code, exceptionTable := #[], attributes := #[] }
def k10m2 : Method := { name := "min", desc := "(II)I", sig := { parameters := [.int, .int], returnType := some .int }, accessFlags := 9, code := some k10c2 }
/-- java/lang/Math -/
def k10 : Class := { plain "java/lang/Math" (some 0) with
  accessFlags := 49
  interfaces := #[]
  cf := some (fileOf pool10 1 #[.nestMembers #[98]] #[{ accessFlags := 2, nameIndex := 7, descriptorIndex := 8, attributes := #[] }, { accessFlags := 9, nameIndex := 198, descriptorIndex := 335, attributes := #[] }, { accessFlags := 9, nameIndex := 201, descriptorIndex := 335, attributes := #[] }] 49 4 #[] #[{ accessFlags := 25, nameIndex := 354, descriptorIndex := 339, attributes := #[] }, { accessFlags := 25, nameIndex := 358, descriptorIndex := 339, attributes := #[] }, { accessFlags := 25, nameIndex := 361, descriptorIndex := 339, attributes := #[] }, { accessFlags := 26, nameIndex := 364, descriptorIndex := 339, attributes := #[] }, { accessFlags := 26, nameIndex := 365, descriptorIndex := 339, attributes := #[] }, { accessFlags := 26, nameIndex := 172, descriptorIndex := 173, attributes := #[] }, { accessFlags := 26, nameIndex := 176, descriptorIndex := 173, attributes := #[] }, { accessFlags := 8, nameIndex := 344, descriptorIndex := 339, attributes := #[] }, { accessFlags := 8, nameIndex := 338, descriptorIndex := 339, attributes := #[] }, { accessFlags := 4120, nameIndex := 245, descriptorIndex := 246, attributes := #[] }])
  fields := #[{ name := "E", type := .double, accessFlags := 25, slot := 0, constantValue := 0 }, { name := "PI", type := .double, accessFlags := 25, slot := 1, constantValue := 0 }, { name := "TAU", type := .double, accessFlags := 25, slot := 2, constantValue := 0 }, { name := "DEGREES_TO_RADIANS", type := .double, accessFlags := 26, slot := 3, constantValue := 0 }, { name := "RADIANS_TO_DEGREES", type := .double, accessFlags := 26, slot := 4, constantValue := 0 }, { name := "negativeZeroFloatBits", type := .long, accessFlags := 26, slot := 5, constantValue := 0 }, { name := "negativeZeroDoubleBits", type := .long, accessFlags := 26, slot := 6, constantValue := 0 }, { name := "twoToTheDoubleScaleUp", type := .double, accessFlags := 8, slot := 7, constantValue := 0 }, { name := "twoToTheDoubleScaleDown", type := .double, accessFlags := 8, slot := 8, constantValue := 0 }, { name := "$assertionsDisabled", type := .boolean, accessFlags := 4120, slot := 9, constantValue := 0 }]
  methods := #[k10m0, k10m1, k10m2]
  instanceTypes := #[]
  staticTypes := #[.double, .double, .double, .double, .double, .long, .long, .double, .double, .boolean]
  resolved := Array.replicate 460 none
  statics := none }

def pool11 : Array CpInfo := pool [(1, u "java/lang/Cloneable"), (0, .class_ 1), (0, u "java/lang/Object"), (0, .class_ 3)] 3

/-- java/lang/Cloneable -/
def k11 : Class := { plain "java/lang/Cloneable" (some 0) with
  accessFlags := 1537
  interfaces := #[]
  cf := some (fileOf pool11 2 #[] #[] 1537 4 #[] #[])
  fields := #[]
  methods := #[]
  instanceTypes := #[]
  staticTypes := #[]
  resolved := Array.replicate 8 none
  statics := none }

/-- the primitive byte -/
def k12 : Class := { plain "byte" none with kind := .primitive 'B', accessFlags := 0x411 }
/-- [B -/
def k13 : Class := { plain "[B" (some 0) with kind := .array 12 .byte, interfaces := #[11, 3], accessFlags := 1041 }

/-- the primitive int -/
def k14 : Class := { plain "int" none with kind := .primitive 'I', accessFlags := 0x411 }
/-- [I -/
def k15 : Class := { plain "[I" (some 0) with kind := .array 14 .int, interfaces := #[11, 3], accessFlags := 1041 }

/-- the primitive long -/
def k16 : Class := { plain "long" none with kind := .primitive 'J', accessFlags := 0x411 }
/-- [J -/
def k17 : Class := { plain "[J" (some 0) with kind := .array 16 .long, interfaces := #[11, 3], accessFlags := 1041 }

def heap : Heap := #[]
def k18 : Class := { plain "[[J" (some 0) with kind := .array 17 (.array .long), interfaces := #[11, 3], accessFlags := 1041 }
def classes : Array Class := #[k0, k1, k2, k3, k4, k5, k6, k7, k8, k9, k10, k11, k12, k13, k14, k15, k16, k17, k18]
def interned : List (Array UInt16 × Addr) := []
def slotsUsed : Nat := 0
def theMethod : MethodId := ⟨1, 1⟩
def args0 : Array Value := #[.int 5, .int 3, .int 7, .long 4, .long 9, .int 3]
def aboutOver (below : List Frame) : State where
  vm := { classes := classes, interned := interned.toArray }
  heap := heap
  slotsUsed := slotsUsed
  threads := #[{ frames := .invoking theMethod args0 :: below }]
def below0 : List Frame := [.native { method := ⟨0, 0⟩, args := #[] }]
def about1 : State := aboutOver below0
def p0 : Program := .bare "" "" ""
def e0 : Env := launch0.env 0 0 0
theorem w_frames : about1.frames = Frame.invoking theMethod args0 :: below0 := rfl
set_option maxRecDepth 65536 in
theorem w_args : argsFit about1.vm theMethod args0 = true := by decide +kernel
set_option maxRecDepth 65536 in
theorem w_heap : heapFits about1 = true := by decide +kernel
set_option maxRecDepth 65536 in
theorem w_runnable : about1.curStatus? = some .runnable := by decide +kernel
set_option maxRecDepth 65536 in
theorem w_alone : about1.alone = true := by decide +kernel
set_option maxRecDepth 65536 in
theorem w_named : about1.methodNamed? x = some theMethod := by decide +kernel
set_option maxRecDepth 65536 in
theorem w_hears : about1.hears theMethod below0 = true := by decide +kernel
set_option maxRecDepth 65536 in
theorem w_ripe : about1.ripe theMethod args0 below0 = true := by decide +kernel
theorem w_running : about1.status = .running := rfl
set_option maxRecDepth 65536 in
theorem w_room : about1.hasRoom e0.platform room_1 = true :=
  launch0.hasRoom_least _ room_1 (by decide +kernel) (by decide +kernel) (by decide +kernel) (by decide +kernel) (by decide +kernel) (by decide +kernel)
theorem allAtoms_all (ts : List Jvm.Cond) (a : Array Jvm.Value) (st : Jvm.State) : (allAtoms ts).before a st = ts.all (fun c => c.before a st) := by
  induction ts with
  | nil => rfl
  | cons c t ih =>
    show (Jvm.Cond.and c (allAtoms t)).before a st = _
    rw [Jvm.Cond.before_and, ih, List.all_cons]
def words1 : List Jvm.Cond := Jvm.Cond.code x code maxLocals ret :: tables_1
/-- a 'code' word, met by the world's own term for the bytes: nothing is compared byte by byte -/
theorem code_word {y : MethodName} {bytes : ByteArray} {mx : Nat} {rt : Option FieldType} {a : Array Value} {s : State} {m : MethodId} {meth : Method} {c : Code} (h1 : s.methodNamed? y = some m) (h2 : s.vm.method? m = some meth) (h3 : meth.code = some c) (h4 : c.code = bytes)
    (h5 : (c.maxLocals == mx && c.exceptionTable.isEmpty && decide (c.maxStack ≤ mostOperands) && decide (meth.sig.returnType = rt) && !meth.locks && decide (parseMethodDescriptor y.desc = some meth.sig)) = true) : (Jvm.Cond.code y bytes mx rt).before a s = true := by
  simp only [Bool.and_eq_true, beq_iff_eq, Bool.not_eq_true', decide_eq_true_eq] at h5
  obtain ⟨⟨⟨⟨⟨g1, g2⟩, g3⟩, g4⟩, g5⟩, g6⟩ := h5
  simp [Cond.before, Cond.holds, Cond.value, h1, h2, h3, h4, g1, g2, g3, g4, g5, g6]
def isCode : Jvm.Cond → Bool
  | .code _ _ _ _ => true
  | _ => false
theorem all_split {L : List Jvm.Cond} {P : Jvm.Cond → Bool} (h1 : L.all (fun c => isCode c || P c) = true) (h2 : ∀ c ∈ L.filter isCode, P c = true) : L.all P = true := by
  refine List.all_eq_true.mpr fun c hc => ?_
  have h := List.all_eq_true.mp h1 c hc
  rcases Bool.eq_false_or_eq_true (isCode c) with hi | hi
  · exact h2 c (List.mem_filter.mpr ⟨hc, hi⟩)
  · simpa [hi] using h
set_option maxRecDepth 65536 in
theorem w_c0 : (Jvm.Cond.code x code maxLocals ret).before args0 about1 = true := code_word (m := ⟨1, 1⟩) (meth := k1m1) (c := k1c1) (by decide +kernel) rfl rfl rfl (by decide +kernel)
set_option maxRecDepth 65536 in
theorem w_c1 : (Jvm.Cond.code ({ cls := "slotwise/storage/SlotKeyCounts", name := "<init>", desc := "()V" } : Jvm.MethodName) prog_30_method_1_code (1 : Nat) (Option.none : Option Jvm.ClassFile.FieldType)).before args0 about1 = true := code_word (m := ⟨2, 0⟩) (meth := k2m0) (c := k2c0) (by decide +kernel) rfl rfl rfl (by decide +kernel)
set_option maxRecDepth 65536 in
theorem w_c2 : (Jvm.Cond.code ({ cls := "java/lang/Object", name := "<init>", desc := "()V" } : Jvm.MethodName) object_method_1_code (1 : Nat) (Option.none : Option Jvm.ClassFile.FieldType)).before args0 about1 = true := code_word (m := ⟨0, 0⟩) (meth := k0m0) (c := k0c0) (by decide +kernel) rfl rfl rfl (by decide +kernel)
set_option maxRecDepth 65536 in
theorem w_c3 : (Jvm.Cond.code ({ cls := "slotwise/storage/SlotKeyCounts", name := "add", desc := "(IJ)V" } : Jvm.MethodName) prog_30_method_4_code (7 : Nat) (Option.none : Option Jvm.ClassFile.FieldType)).before args0 about1 = true := code_word (m := ⟨2, 3⟩) (meth := k2m3) (c := k2c3) (by decide +kernel) rfl rfl rfl (by decide +kernel)
set_option maxRecDepth 65536 in
theorem w_c4 : (Jvm.Cond.code ({ cls := "slotwise/storage/SlotKeyCounts", name := "clear", desc := "([I)V" } : Jvm.MethodName) prog_30_method_10_code (7 : Nat) (Option.none : Option Jvm.ClassFile.FieldType)).before args0 about1 = true := code_word (m := ⟨2, 5⟩) (meth := k2m5) (c := k2c5) (by decide +kernel) rfl rfl rfl (by decide +kernel)
set_option maxRecDepth 65536 in
theorem w_c5 : (Jvm.Cond.code ({ cls := "slotwise/storage/SlotKeyCountsClearPinLaw", name := "after", desc := "(IIIJJIIII)J" } : Jvm.MethodName) method_4_code (13 : Nat) (Option.some Jvm.ClassFile.FieldType.long)).before args0 about1 = true := code_word (m := ⟨1, 3⟩) (meth := k1m3) (c := k1c3) (by decide +kernel) rfl rfl rfl (by decide +kernel)
set_option maxRecDepth 65536 in
theorem w_c6 : (Jvm.Cond.code ({ cls := "slotwise/storage/SlotKeyCountsClearPinLaw", name := "cleared", desc := "(IIIII)Z" } : Jvm.MethodName) method_3_code (5 : Nat) (Option.some Jvm.ClassFile.FieldType.boolean)).before args0 about1 = true := code_word (m := ⟨1, 2⟩) (meth := k1m2) (c := k1c2) (by decide +kernel) rfl rfl rfl (by decide +kernel)
set_option maxRecDepth 65536 in
theorem w_c7 : (Jvm.Cond.code ({ cls := "slotwise/storage/SlotKeyCounts", name := "of", desc := "(I)J" } : Jvm.MethodName) prog_30_method_2_code (3 : Nat) (Option.some Jvm.ClassFile.FieldType.long)).before args0 about1 = true := code_word (m := ⟨2, 1⟩) (meth := k2m1) (c := k2c1) (by decide +kernel) rfl rfl rfl (by decide +kernel)
set_option maxRecDepth 65536 in
theorem w_c8 : (Jvm.Cond.code ({ cls := "slotwise/storage/SlotKeyCounts", name := "total", desc := "()J" } : Jvm.MethodName) prog_30_method_3_code (1 : Nat) (Option.some Jvm.ClassFile.FieldType.long)).before args0 about1 = true := code_word (m := ⟨2, 2⟩) (meth := k2m2) (c := k2c2) (by decide +kernel) rfl rfl rfl (by decide +kernel)
set_option maxRecDepth 65536 in
theorem w_c9 : (Jvm.Cond.code ({ cls := "slotwise/storage/SlotKeyCounts", name := "takeChanged", desc := "()[I" } : Jvm.MethodName) prog_30_method_5_code (6 : Nat) (Option.some (Jvm.ClassFile.FieldType.array Jvm.ClassFile.FieldType.int))).before args0 about1 = true := code_word (m := ⟨2, 4⟩) (meth := k2m4) (c := k2c4) (by decide +kernel) rfl rfl rfl (by decide +kernel)
set_option maxRecDepth 65536 in
theorem w_c10 : (Jvm.Cond.code ({ cls := "java/lang/Long", name := "numberOfTrailingZeros", desc := "(J)I" } : Jvm.MethodName) jdk_35_method_49_code (3 : Nat) (Option.some Jvm.ClassFile.FieldType.int)).before args0 about1 = true := code_word (m := ⟨8, 0⟩) (meth := k8m0) (c := k8c0) (by decide +kernel) rfl rfl rfl (by decide +kernel)
set_option maxRecDepth 65536 in
theorem w_c11 : (Jvm.Cond.code ({ cls := "java/lang/Integer", name := "numberOfTrailingZeros", desc := "(I)I" } : Jvm.MethodName) jdk_33_method_48_code (2 : Nat) (Option.some Jvm.ClassFile.FieldType.int)).before args0 about1 = true := code_word (m := ⟨9, 0⟩) (meth := k9m0) (c := k9c0) (by decide +kernel) rfl rfl rfl (by decide +kernel)
set_option maxRecDepth 65536 in
theorem w_c12 : (Jvm.Cond.code ({ cls := "java/lang/Math", name := "min", desc := "(II)I" } : Jvm.MethodName) jdk_29_method_69_code (2 : Nat) (Option.some Jvm.ClassFile.FieldType.int)).before args0 about1 = true := code_word (m := ⟨10, 2⟩) (meth := k10m2) (c := k10c2) (by decide +kernel) rfl rfl rfl (by decide +kernel)
set_option maxRecDepth 65536 in
theorem w_c13 : (Jvm.Cond.code ({ cls := "java/lang/Math", name := "max", desc := "(II)I" } : Jvm.MethodName) jdk_29_method_65_code (2 : Nat) (Option.some Jvm.ClassFile.FieldType.int)).before args0 about1 = true := code_word (m := ⟨10, 1⟩) (meth := k10m1) (c := k10c1) (by decide +kernel) rfl rfl rfl (by decide +kernel)
def codes1 : List Jvm.Cond := [Jvm.Cond.code x code maxLocals ret, Jvm.Cond.code ({ cls := "slotwise/storage/SlotKeyCounts", name := "<init>", desc := "()V" } : Jvm.MethodName) prog_30_method_1_code (1 : Nat) (Option.none : Option Jvm.ClassFile.FieldType), Jvm.Cond.code ({ cls := "java/lang/Object", name := "<init>", desc := "()V" } : Jvm.MethodName) object_method_1_code (1 : Nat) (Option.none : Option Jvm.ClassFile.FieldType), Jvm.Cond.code ({ cls := "slotwise/storage/SlotKeyCounts", name := "add", desc := "(IJ)V" } : Jvm.MethodName) prog_30_method_4_code (7 : Nat) (Option.none : Option Jvm.ClassFile.FieldType), Jvm.Cond.code ({ cls := "slotwise/storage/SlotKeyCounts", name := "clear", desc := "([I)V" } : Jvm.MethodName) prog_30_method_10_code (7 : Nat) (Option.none : Option Jvm.ClassFile.FieldType), Jvm.Cond.code ({ cls := "slotwise/storage/SlotKeyCountsClearPinLaw", name := "after", desc := "(IIIJJIIII)J" } : Jvm.MethodName) method_4_code (13 : Nat) (Option.some Jvm.ClassFile.FieldType.long), Jvm.Cond.code ({ cls := "slotwise/storage/SlotKeyCountsClearPinLaw", name := "cleared", desc := "(IIIII)Z" } : Jvm.MethodName) method_3_code (5 : Nat) (Option.some Jvm.ClassFile.FieldType.boolean), Jvm.Cond.code ({ cls := "slotwise/storage/SlotKeyCounts", name := "of", desc := "(I)J" } : Jvm.MethodName) prog_30_method_2_code (3 : Nat) (Option.some Jvm.ClassFile.FieldType.long), Jvm.Cond.code ({ cls := "slotwise/storage/SlotKeyCounts", name := "total", desc := "()J" } : Jvm.MethodName) prog_30_method_3_code (1 : Nat) (Option.some Jvm.ClassFile.FieldType.long), Jvm.Cond.code ({ cls := "slotwise/storage/SlotKeyCounts", name := "takeChanged", desc := "()[I" } : Jvm.MethodName) prog_30_method_5_code (6 : Nat) (Option.some (Jvm.ClassFile.FieldType.array Jvm.ClassFile.FieldType.int)), Jvm.Cond.code ({ cls := "java/lang/Long", name := "numberOfTrailingZeros", desc := "(J)I" } : Jvm.MethodName) jdk_35_method_49_code (3 : Nat) (Option.some Jvm.ClassFile.FieldType.int), Jvm.Cond.code ({ cls := "java/lang/Integer", name := "numberOfTrailingZeros", desc := "(I)I" } : Jvm.MethodName) jdk_33_method_48_code (2 : Nat) (Option.some Jvm.ClassFile.FieldType.int), Jvm.Cond.code ({ cls := "java/lang/Math", name := "min", desc := "(II)I" } : Jvm.MethodName) jdk_29_method_69_code (2 : Nat) (Option.some Jvm.ClassFile.FieldType.int), Jvm.Cond.code ({ cls := "java/lang/Math", name := "max", desc := "(II)I" } : Jvm.MethodName) jdk_29_method_65_code (2 : Nat) (Option.some Jvm.ClassFile.FieldType.int)]
set_option maxRecDepth 65536 in
theorem codes_eq : words1.filter isCode = codes1 := rfl
theorem w_codes : ∀ c ∈ words1.filter isCode, c.before args0 about1 = true := by
  rw [codes_eq]
  intro c hc
  simp only [codes1, List.mem_cons, List.not_mem_nil, or_false] at hc
  rcases hc with rfl | rfl | rfl | rfl | rfl | rfl | rfl | rfl | rfl | rfl | rfl | rfl | rfl | rfl
  · exact w_c0
  · exact w_c1
  · exact w_c2
  · exact w_c3
  · exact w_c4
  · exact w_c5
  · exact w_c6
  · exact w_c7
  · exact w_c8
  · exact w_c9
  · exact w_c10
  · exact w_c11
  · exact w_c12
  · exact w_c13
set_option maxRecDepth 65536 in
theorem w_t1 : (words1.take 24).all (fun c => isCode c || c.before args0 about1) = true := by decide +kernel
set_option maxRecDepth 65536 in
theorem w_t2 : ((words1.drop 24).take 24).all (fun c => isCode c || c.before args0 about1) = true := by decide +kernel
set_option maxRecDepth 65536 in
theorem w_t3 : ((words1.drop 24).drop 24).all (fun c => isCode c || c.before args0 about1) = true := by decide +kernel
theorem w_tables : (allAtoms (Jvm.Cond.code x code maxLocals ret :: tables_1)).before args0 about1 = true := by
  rw [allAtoms_all]
  show words1.all (fun c => c.before args0 about1) = true
  refine all_split ?_ w_codes
  rw [← List.take_append_drop 24 words1, List.all_append, w_t1, ← List.take_append_drop 24 (words1.drop 24), List.all_append, w_t2, w_t3]
  rfl
set_option maxRecDepth 65536 in
theorem w_case : (Jvm.Cond.and given_1 narrow_1).before args0 about1 = true := by decide +kernel
theorem w_applies : (headSpec (Jvm.Cond.code x code maxLocals ret :: tables_1) room_1).applies x e0.platform about1 = true :=
  (Spec.applies_iff w_frames).mpr ⟨w_running, w_runnable, w_alone, w_named, w_hears, w_ripe, w_room, w_tables⟩
theorem atStart : AtStart classFile x code maxLocals ret World_1 tables_1 room_1 Calls_1 rest_1 Pre_1 launch0 p0 e0 about1 theMethod args0 below0 :=
  ⟨lists_1, trivial, launch0.admits_env _ _ _, launch0.least_env, fairChoices_fair.cas, fairChoices_fair.clock, w_frames, w_args, w_heap, w_applies, trivial, trivial, w_case⟩
end start1
theorem witness_1 : WitnessClaimed_1 := ⟨start1.p0, start1.e0, start1.about1, start1.theMethod, start1.args0, start1.below0, start1.atStart⟩
end Jvm.Pilot.@@N@@
